import JvmDerived
import JvmDerived.Pilot.@@N@@Statement
import JvmDerived.Pilot.@@N@@Code
set_option linter.unusedVariables false
set_option linter.unusedSimpArgs false
@@BLOCK:NumsL.lean.txt@@
namespace Jvm.Pilot.@@N@@
open Jvm Jvm.ClassFile Sem Op Lib Jvm.Free Jvm.Stand Jvm.LawKit Jvm.RoadKit Bundle Jvm.Pilot.@@N@@.Jvm.D
section OwnGo
variable {p : Program} {l : Launch} {e : Env} {R : Room} {s : State} {m : MethodId} {args : Array Value} {below : List Frame} {meth : Method} {c : Code} {T T' : State} {locs : List Loc} {cells slots K1 K2 : Nat} {Q : Option Value → Heap → List Loc → Prop}
/-- from T at the frame f the run comes to an end that meets Q -/
def Go (p : Program) (e : Env) (below : List Frame) (s : State) (K1 K2 : Nat) (Q : Option Value → Heap → List Loc → Prop) (T : State) (f : JFrame) : Prop :=
  ∃ s₂ o, Steps p.tables e below (T.setTop f) s₂ ∧ s₂.status = .running ∧ Ended s₂ below o ∧ ∃ v L, o = .returned v ∧ Q v s₂.heap L ∧ FrameEnd s o s₂ L K1 K2
theorem Go.on {f f' : JFrame} (h : ∀ t, Steps p.tables e below (T'.setTop f') t → Steps p.tables e below (T.setTop f) t) (g : Go p e below s K1 K2 Q T' f') : Go p e below s K1 K2 Q T f := by
  obtain ⟨s₂, o, h1, r⟩ := g
  exact ⟨s₂, o, h _ h1, r⟩
theorem Go.cast {f f' : JFrame} (h : f = f') (g : Go p e below s K1 K2 Q T f') : Go p e below s K1 K2 Q T f := h ▸ g
theorem Go.gen {f : JFrame} (h : ∀ k1 k2 q, k1 = K1 → k2 = K2 → Q = q → Go p e below s k1 k2 q T f) : Go p e below s K1 K2 Q T f := h _ _ _ rfl rfl rfl
theorem Go.retV (X : Stand p l e R s m args below meth c T locs cells slots) (hx : p.tables.exec = Jvm.exec) {pc : Nat} {Ls : Array Slot} {w : Value} {t : FieldType} {i : Instr} {rest : List Value} (hret : meth.sig.returnType = some t) (hn : narrow t w = w)
    (hi : (i = .ireturn ∧ (t = .int ∨ t = .boolean ∨ t = .byte ∨ t = .char ∨ t = .short) ∧ ∃ z, w = .int z) ∨ (i = .lreturn ∧ t = .long ∧ ∃ z, w = .long z) ∨ (i = .dreturn ∧ t = .double ∧ ∃ z, w = .double z) ∨ (i = .freturn ∧ t = .float ∧ ∃ z, w = .float z) ∨ (i = .areturn ∧ t.isReference = true ∧ w.isRef = true))
    (hd : decode c.code pc = .ok (i, 1)) (hq : Q (some w) T.heap locs) (hc : cells ≤ K1) (hs : slots ≤ K2) (hlk : meth.locks = false := by assumption) : Go p e below s K1 K2 Q T (mkF m pc Ls (w :: rest)) := by
  obtain ⟨fs, hr, hrun, hended, hW, hsame⟩ := X.leave (v := some w) (fun h => by rw [hret] at h; cases h) hlk
  exact ⟨_, _, retOut X hx hret hn hi hd hr, hrun, hended, _, _, rfl, hq, ⟨_, rfl⟩, hW, hsame.mono hc hs⟩
theorem Go.retN (X : Stand p l e R s m args below meth c T locs cells slots) (hx : p.tables.exec = Jvm.exec) {pc : Nat} {Ls : Array Slot} {z : Int32} {t : FieldType} {rest : List Value} (hret : meth.sig.returnType = some t) (ht : t = .boolean ∨ t = .byte ∨ t = .char ∨ t = .short)
    (hd : decode c.code pc = .ok (.ireturn, 1)) (hq : Q (some (.int (nar t z))) T.heap locs) (hc : cells ≤ K1) (hs : slots ≤ K2) (hlk : meth.locks = false := by assumption) : Go p e below s K1 K2 Q T (mkF m pc Ls (.int z :: rest)) := by
  obtain ⟨fs, hr, hrun, hended, hW, hsame⟩ := X.leave (v := some (.int (nar t z))) (fun h => by rw [hret] at h; cases h) hlk
  exact ⟨_, _, Jvm.RoadKit.retN X hx hret ht hd hr, hrun, hended, _, _, rfl, hq, ⟨_, rfl⟩, hW, hsame.mono hc hs⟩
theorem Go.ret0 (X : Stand p l e R s m args below meth c T locs cells slots) (hx : p.tables.exec = Jvm.exec) {pc : Nat} {Ls : Array Slot} (hret : meth.sig.returnType = none)
    (hd : decode c.code pc = .ok (.return_, 1)) (hq : Q none T.heap locs) (hc : cells ≤ K1) (hs : slots ≤ K2) (hlk : meth.locks = false := by assumption) : Go p e below s K1 K2 Q T (mkF m pc Ls []) := by
  obtain ⟨fs, hr, hrun, hended, hW, hsame⟩ := X.leave (v := none) (fun _ => rfl) hlk
  exact ⟨_, _, X.returnOut hx hret hd hr, hrun, hended, _, _, rfl, hq, ⟨_, rfl⟩, hW, hsame.mono hc hs⟩
theorem own_lc_lt {a b : Int64} : lcmpW a b < 0 ↔ a < b := by rw [lcW]; exact lc_lt a b
theorem own_lc_gt {a b : Int64} : 0 < lcmpW a b ↔ b < a := by rw [lcW]; exact lc_gt a b
theorem own_lc_eq {a b : Int64} : lcmpW a b = 0 ↔ a = b := by rw [lcW]; exact lc_eq a b
theorem own_lremM {g : JFrame} {target : State} (X : Stand p l e R s m args below meth c T locs cells slots) (hx : p.tables.exec = Jvm.exec) (hg : g.method = m) {x y : Int64} {rest : List Value} (hd : decode c.code g.pc = .ok (.lrem, 1)) (hs : g.stack = .long y :: .long x :: rest) (hy : y ≠ 0)
    (hr : Steps p.tables e below (T.setTop { g with pc := g.pc + 1, stack := .long (x % y) :: rest }) target) : Steps p.tables e below (T.setTop g) target := by
  have q : x - x / y * y = x % y := by
    apply Int64.toInt_inj.mp
    have h1 := Int64.le_toInt (x % y)
    have h2 := Int64.toInt_lt (x % y)
    rw [Int64.toInt_sub, Int64.toInt_mul, Int64.toInt_div, Int.bmod_mul_bmod, Int.sub_bmod_bmod, Int.mul_comm (x.toInt.tdiv y.toInt), ← Int.tmod_def, ← Int64.toInt_mod]
    exact Int.bmod_eq_of_le_mul_two (by omega) (by omega)
  exact XS.lrem X.here hx hg hd hs hy (by rw [q]; exact hr)
theorem own_cl_gt {o : Option Ordering} : 0 < cmpValue o .l ↔ o = some .gt := by rcases o with _ | (_ | _ | _) <;> decide
theorem own_cl_lt {o : Option Ordering} : cmpValue o .l < 0 ↔ ¬ (o = some .gt ∨ o = some .eq) := by rcases o with _ | (_ | _ | _) <;> decide
theorem own_cg_lt {o : Option Ordering} : cmpValue o .g < 0 ↔ o = some .lt := by rcases o with _ | (_ | _ | _) <;> decide
theorem own_cg_gt {o : Option Ordering} : 0 < cmpValue o .g ↔ ¬ (o = some .lt ∨ o = some .eq) := by rcases o with _ | (_ | _ | _) <;> decide
theorem own_c_eq {o : Option Ordering} {k : CmpOp} : cmpValue o k = 0 ↔ o = some .eq := by cases k <;> rcases o with _ | (_ | _ | _) <;> decide
end OwnGo
section OwnFp
open Jvm.FP.Core
variable {a b V : UInt64} {x y z v : Int}
/-- the double a is finite and worth x units of 2^-1074 -/
def ZV (a : UInt64) (x : Int) : Prop := DFin a ∧ zval b64 (val64 a) = x
theorem ZV.ne (h : ZV a x) : val64 a ≠ .nan := h.1.ne_nan
theorem ZV.nn (h : ZV a x) : Jvm.Free.Fl.NoNaN64 a := Jvm.Free.Fl.noNaN64_no.mpr h.1.notNaN
theorem ZV.cmp (ha : ZV a x) (hb : ZV b y) : FP.dcmp a b = some (compare x y) := by
  show FP.Core.dcmp a b = _
  rw [dcmp_zval ha.ne hb.ne, ha.2, hb.2]
theorem ZV.uniq (ha : ZV a x) (hb : ZV a y) : x = y := ha.2.symm.trans hb.2
theorem own_fin_of {W : UInt64} (hn : val64 a ≠ .nan) (hW : DFin W) (h : zmag b64 (val64 a) ≤ zmag b64 (val64 W)) : DFin a := by
  cases h2 : val64 a with
  | nan => exact absurd h2 hn
  | inf s =>
    rw [h2] at h
    have := hW.zval_lt
    have e : zmag b64 (.inf s) = b64.tails * 2 ^ (b64.exps - 2) := rfl
    rw [e] at h
    omega
  | fin s c q => exact ⟨s, c, q, h2⟩
theorem own_natAbs (d : Datum) : (zval b64 d).natAbs = zmag b64 d := natAbs_signed _ _
theorem own_fin_of_z {W : UInt64} (hn : val64 a ≠ .nan) (hW : DFin W) (h : (zval b64 (val64 a)).natAbs ≤ (zval b64 (val64 W)).natAbs) : DFin a := by
  rw [own_natAbs, own_natAbs] at h; exact own_fin_of hn hW h
theorem ZV.add (ha : ZV a x) (hb : ZV b y) (hv : ZV V (x + y)) : ZV (FP.dadd a b) (x + y) := by
  have hn : val64 (FP.Core.dadd a b) ≠ .nan := (notNaN_iff _).mp (FP.Core.dadd_out ha.1.notNaN hb.1)
  have e : zval b64 (val64 (FP.Core.dadd a b)) = x + y := by
    have h1 := sum_le good_b64 ha.1 hb.1 (val64_fits a) (val64_fits b) (val64_fits V) hv.ne (by rw [ha.2, hb.2, hv.2]; exact Int.le_refl _)
    have h2 := sum_ge good_b64 ha.1 hb.1 (val64_fits a) (val64_fits b) (val64_fits V) hv.ne (by rw [ha.2, hb.2, hv.2]; exact Int.le_refl _)
    rw [← val64_dadd, hv.2] at h1 h2
    exact Int.le_antisymm h1 h2
  exact ⟨own_fin_of_z hn hv.1 (by rw [e, hv.2]; exact Nat.le_refl _), e⟩
theorem own_neg_fin {d : Datum} (h : ∃ s c q, d = .fin s c q) : ∃ s c q, negate d = .fin s c q := by
  obtain ⟨s, c, q, rfl⟩ := h; exact ⟨_, _, _, rfl⟩
theorem ZV.sub (ha : ZV a x) (hb : ZV b y) (hv : ZV V (x - y)) : ZV (FP.dsub a b) (x - y) := by
  have hn : val64 (FP.Core.dsub a b) ≠ .nan := (notNaN_iff _).mp (FP.Core.dsub_out ha.1.notNaN hb.1)
  have e : zval b64 (val64 (FP.Core.dsub a b)) = x - y := by
    have h1 := sum_le good_b64 ha.1 (own_neg_fin hb.1) (val64_fits a) (negate_fits (val64_fits b)) (val64_fits V) hv.ne (by rw [ha.2, zval_negate, hb.2, hv.2]; omega)
    have h2 := sum_ge good_b64 ha.1 (own_neg_fin hb.1) (val64_fits a) (negate_fits (val64_fits b)) (val64_fits V) hv.ne (by rw [ha.2, zval_negate, hb.2, hv.2]; omega)
    rw [← val64_dsub, hv.2] at h1 h2
    exact Int.le_antisymm h1 h2
  exact ⟨own_fin_of_z hn hv.1 (by rw [e, hv.2]; exact Nat.le_refl _), e⟩
/-- a sum or a difference lies between what bounds it -/
theorem ZV.add_le (ha : ZV a x) (hb : ZV b y) (hv : ZV V v) (h : x + y ≤ v) : zval b64 (val64 (FP.dadd a b)) ≤ v := by
  have h1 := sum_le good_b64 ha.1 hb.1 (val64_fits a) (val64_fits b) (val64_fits V) hv.ne (by rw [ha.2, hb.2, hv.2]; exact h)
  rw [← val64_dadd, hv.2] at h1; exact h1
theorem ZV.add_ge (ha : ZV a x) (hb : ZV b y) (hv : ZV V v) (h : v ≤ x + y) : v ≤ zval b64 (val64 (FP.dadd a b)) := by
  have h1 := sum_ge good_b64 ha.1 hb.1 (val64_fits a) (val64_fits b) (val64_fits V) hv.ne (by rw [ha.2, hb.2, hv.2]; exact h)
  rw [← val64_dadd, hv.2] at h1; exact h1
theorem ZV.sub_le (ha : ZV a x) (hb : ZV b y) (hv : ZV V v) (h : x - y ≤ v) : zval b64 (val64 (FP.dsub a b)) ≤ v := by
  have h1 := sum_le good_b64 ha.1 (own_neg_fin hb.1) (val64_fits a) (negate_fits (val64_fits b)) (val64_fits V) hv.ne (by rw [ha.2, zval_negate, hb.2, hv.2]; omega)
  rw [← val64_dsub, hv.2] at h1; exact h1
theorem ZV.sub_ge (ha : ZV a x) (hb : ZV b y) (hv : ZV V v) (h : v ≤ x - y) : v ≤ zval b64 (val64 (FP.dsub a b)) := by
  have h1 := sum_ge good_b64 ha.1 (own_neg_fin hb.1) (val64_fits a) (negate_fits (val64_fits b)) (val64_fits V) hv.ne (by rw [ha.2, zval_negate, hb.2, hv.2]; omega)
  rw [← val64_dsub, hv.2] at h1; exact h1
/-- the product's bounds -/
theorem own_mul_le (ha : ZV a x) (hb : ZV b y) (hv : ZV V v) (h : x * y ≤ v * (one64 : Int)) : zval b64 (val64 (FP.dmul a b)) ≤ v := by
  obtain ⟨⟨s, c, q, h1⟩, ex⟩ := ha
  obtain ⟨⟨t, d, r, h2⟩, ey⟩ := hb
  have f1 := val64_fits a; have f2 := val64_fits b
  rw [h1] at f1 ex; rw [h2] at f2 ey
  obtain ⟨p1, p2, p3⟩ := product_units f1 f2
  show zval b64 (val64 (FP.Core.dmul a b)) ≤ v
  rw [val64_dmul, h1, h2, p1, ← hv.2]
  refine zval_round_le good_b64 (val64_fits V) hv.ne (e0 := 2 * b64.qmin) (by decide) p2 ?_
  rw [p3, show (b64.qmin - 2 * b64.qmin).toNat = (-b64.qmin).toNat from by decide, pow_qmin64, hv.2, signed_xor]
  have : zval b64 (.fin s c q) * zval b64 (.fin t d r) ≤ v * (one64 : Int) := by rw [ex, ey]; exact h
  exact this
theorem own_mul_ge (ha : ZV a x) (hb : ZV b y) (hv : ZV V v) (h : v * (one64 : Int) ≤ x * y) : v ≤ zval b64 (val64 (FP.dmul a b)) := by
  obtain ⟨⟨s, c, q, h1⟩, ex⟩ := ha
  obtain ⟨⟨t, d, r, h2⟩, ey⟩ := hb
  have f1 := val64_fits a; have f2 := val64_fits b
  rw [h1] at f1 ex; rw [h2] at f2 ey
  obtain ⟨p1, p2, p3⟩ := product_units f1 f2
  show v ≤ zval b64 (val64 (FP.Core.dmul a b))
  rw [val64_dmul, h1, h2, p1, ← hv.2]
  refine zval_round_ge good_b64 (val64_fits V) hv.ne (e0 := 2 * b64.qmin) (by decide) p2 ?_
  rw [p3, show (b64.qmin - 2 * b64.qmin).toNat = (-b64.qmin).toNat from by decide, pow_qmin64, hv.2, signed_xor]
  have : v * (one64 : Int) ≤ zval b64 (.fin s c q) * zval b64 (.fin t d r) := by rw [ex, ey]; exact h
  exact this
theorem ZV.mul (ha : ZV a x) (hb : ZV b y) (hv : ZV V z) (h : x * y = z * (one64 : Int)) : ZV (FP.dmul a b) z := by
  have hn : val64 (FP.Core.dmul a b) ≠ .nan := (notNaN_iff _).mp (FP.Core.dmul_out ha.1 hb.1)
  have e : zval b64 (val64 (FP.Core.dmul a b)) = z := Int.le_antisymm (own_mul_le ha hb hv (Int.le_of_eq h)) (own_mul_ge ha hb hv (Int.le_of_eq h.symm))
  exact ⟨own_fin_of_z hn hv.1 (by rw [e, hv.2]; exact Nat.le_refl _), e⟩
/-- the quotient of finite doubles, the divisor not nought: its datum -/
theorem own_quot (ha : ZV a x) (hb : ZV b y) (hy : y ≠ 0) : ∃ s c q t d r, val64 a = .fin s c q ∧ val64 b = .fin t d r ∧ 0 < d ∧ val64 (FP.ddiv a b) = roundRatio b64 (s != t) c d (q - r) ∧ FP.Core.fits b64 (.fin s c q) ∧ FP.Core.fits b64 (.fin t d r) := by
  obtain ⟨⟨s, c, q, h1⟩, ex⟩ := ha
  obtain ⟨⟨t, d, r, h2⟩, ey⟩ := hb
  have f1 := val64_fits a; have f2 := val64_fits b
  rw [h1] at f1; rw [h2] at f2
  have hd : d ≠ 0 := fun q => by
    subst q
    rw [h2] at ey
    apply hy; rw [← ey]; show signed t (inUnits 0 r _) = 0
    unfold inUnits; rw [Nat.zero_mul, signed_zero]
  refine ⟨s, c, q, t, d, r, h1, h2, Nat.pos_of_ne_zero hd, ?_, f1, f2⟩
  show val64 (FP.Core.ddiv a b) = _
  rw [val64_ddiv, h1, h2]
  show (if d = 0 then _ else _) = _
  rw [if_neg hd]
theorem own_div_mag_le {c d : Nat} {q r : Int} {s t sg : Bool} (f1 : FP.Core.fits b64 (.fin s c q)) (f2 : FP.Core.fits b64 (.fin t d r)) (hd : 0 < d) {W : Datum} (fW : FP.Core.fits b64 W) (hW : W ≠ .nan)
    (h : inUnits c q b64.qmin * one64 ≤ zmag b64 W * inUnits d r b64.qmin) : zmag b64 (roundRatio b64 sg c d (q - r)) ≤ zmag b64 W := by
  have h1 := f1.2.1
  have h2 := f2.2.1
  have hq : b64.qmin < 0 := by decide
  refine zmag_roundRatio_le good_b64 hd fW hW (e0 := 2 * b64.qmin - r) (by omega) (by omega) ?_
  have e1 : (b64.qmin - (2 * b64.qmin - r)).toNat = (r - b64.qmin).toNat := by congr 1; omega
  rw [e1]
  have e2 : inUnits c (q - r) (2 * b64.qmin - r) = inUnits c q b64.qmin * one64 := by
    unfold inUnits
    rw [← pow_qmin64, Nat.mul_assoc, ← Nat.pow_add]
    congr 2; omega
  rw [e2]
  refine Nat.le_trans h (Nat.le_of_eq ?_)
  unfold inUnits
  rw [Nat.mul_comm d, Nat.mul_assoc]
theorem own_div_mag_ge {c d : Nat} {q r : Int} {s t sg : Bool} (f1 : FP.Core.fits b64 (.fin s c q)) (f2 : FP.Core.fits b64 (.fin t d r)) (hd : 0 < d) {W : Datum} (fW : FP.Core.fits b64 W)
    (h : zmag b64 W * inUnits d r b64.qmin ≤ inUnits c q b64.qmin * one64) : zmag b64 W ≤ zmag b64 (roundRatio b64 sg c d (q - r)) := by
  have h1 := f1.2.1
  have h2 := f2.2.1
  have hq : b64.qmin < 0 := by decide
  refine zmag_roundRatio_ge good_b64 hd fW (e0 := 2 * b64.qmin - r) (by omega) (by omega) ?_
  have e1 : (b64.qmin - (2 * b64.qmin - r)).toNat = (r - b64.qmin).toNat := by congr 1; omega
  rw [e1]
  have e2 : inUnits c (q - r) (2 * b64.qmin - r) = inUnits c q b64.qmin * one64 := by
    unfold inUnits
    rw [← pow_qmin64, Nat.mul_assoc, ← Nat.pow_add]
    congr 2; omega
  rw [e2]
  refine Nat.le_trans (Nat.le_of_eq ?_) h
  unfold inUnits
  rw [Nat.mul_comm d, Nat.mul_assoc]
/-- what is said of a quotient: r its units -/
def Quo (x y r : Int) : Prop := ∀ (V : UInt64) (v : Int), ZV V v → (x * (one64 : Int) ≤ v * y → r ≤ v) ∧ (v * y ≤ x * (one64 : Int) → v ≤ r)
theorem own_sgn_z (s : Bool) (m : Nat) : signed s m = if s then -(m : Int) else m := rfl
theorem ZV.neg_ex (h : ZV a x) : ∃ V, ZV V (-x) := by
  refine ⟨FP.Core.dneg a, ?_, ?_⟩
  · obtain ⟨⟨s, c, q, h1⟩, -⟩ := h; exact ⟨!s, c, q, by rw [val64_dneg, h1]; rfl⟩
  · rw [val64_dneg, zval_negate, h.2]
theorem own_mag {s : Bool} {c : Nat} {q : Int} : zval b64 (.fin s c q) = signed s (inUnits c q b64.qmin) := rfl
/-- the quotient by a positive double of at least one -/
theorem ZV.div (ha : ZV a x) (hb : ZV b y) (hy : (one64 : Int) ≤ y) : ∃ r, ZV (FP.ddiv a b) r ∧ Quo x y r := by
  have o1 := one64_pos
  obtain ⟨s, c, q, t, d, r, h1, h2, hd, h3, f1, f2⟩ := own_quot ha hb (by omega)
  have ey := hb.2; rw [h2, own_mag] at ey
  have ex := ha.2; rw [h1, own_mag] at ex
  have t0 : t = false := by
    cases t
    · rfl
    · simp only [own_sgn_z, if_true] at ey; omega
  subst t0
  have hy0 : (0 : Int) < y := by omega
  have ey' : ((inUnits d r b64.qmin : Nat) : Int) = y := ey
  generalize hu : inUnits d r b64.qmin = u at *
  generalize hc : inUnits c q b64.qmin = k at *
  have hsg : sgn (val64 (FP.ddiv a b)) = s := by rw [h3, sgn_roundRatio]; cases s <;> rfl
  have hne : val64 (FP.ddiv a b) ≠ .nan := by rw [h3]; exact roundRatio_ne_nan _ _ _ _ _
  have hz : zval b64 (val64 (FP.ddiv a b)) = signed s (zmag b64 (val64 (FP.ddiv a b))) := by rw [zval, hsg]
  have up : ∀ W : UInt64, val64 W ≠ .nan → k * one64 ≤ zmag b64 (val64 W) * u → zmag b64 (val64 (FP.ddiv a b)) ≤ zmag b64 (val64 W) := fun W hW h => by
    rw [h3]; exact own_div_mag_le f1 f2 hd (val64_fits W) hW (by rw [hu, hc]; exact h)
  have dn : ∀ W : UInt64, zmag b64 (val64 W) * u ≤ k * one64 → zmag b64 (val64 W) ≤ zmag b64 (val64 (FP.ddiv a b)) := fun W h => by
    rw [h3]; exact own_div_mag_ge f1 f2 hd (val64_fits W) (by rw [hu, hc]; exact h)
  have hk : k = zmag b64 (val64 a) := by rw [h1]; exact hc.symm
  have hfin : DFin (FP.ddiv a b) := own_fin_of hne ha.1 (up a ha.ne (by rw [← hk]; exact Nat.mul_le_mul_left _ (by omega)))
  refine ⟨_, ⟨hfin, rfl⟩, fun V v hv => ?_⟩
  rw [hz]
  generalize hm : zmag b64 (val64 (FP.ddiv a b)) = m at *
  have hV := own_natAbs (val64 V)
  rw [hv.2] at hV
  have upV := up V hv.ne
  have dnV := dn V
  rw [← hV] at upV dnV
  clear up dn
  have cast : ∀ p q : Nat, ((p * q : Nat) : Int) = (p : Int) * q := fun p q => by simp
  cases s
  · have ex' : (k : Int) = x := ex
    have em : signed false m = (m : Int) := rfl
    rw [em]
    constructor
    · intro h
      by_cases hv0 : 0 ≤ v
      · have e1 : (v.natAbs : Int) = v := Int.natAbs_of_nonneg hv0
        have : k * one64 ≤ v.natAbs * u := by apply Int.ofNat_le.mp; rw [cast, cast, ex', e1, ey']; exact h
        have := upV this; omega
      · exfalso
        have h5 : v * y < 0 := Int.mul_neg_of_neg_of_pos (by omega) hy0
        have h6 : 0 ≤ x * (one64 : Int) := Int.mul_nonneg (by omega) (by omega)
        omega
    · intro h
      by_cases hv0 : 0 ≤ v
      · have e1 : (v.natAbs : Int) = v := Int.natAbs_of_nonneg hv0
        have : v.natAbs * u ≤ k * one64 := by apply Int.ofNat_le.mp; rw [cast, cast, ex', e1, ey']; exact h
        have := dnV this; omega
      · omega
  · have ex' : -(k : Int) = x := ex
    have em : signed true m = -(m : Int) := rfl
    rw [em]
    have ek : (k : Int) = -x := by omega
    constructor
    · intro h
      by_cases hv0 : 0 ≤ v
      · omega
      · have e1 : (v.natAbs : Int) = -v := by omega
        have : v.natAbs * u ≤ k * one64 := by
          apply Int.ofNat_le.mp; rw [cast, cast, ek, e1, ey', Int.neg_mul, Int.neg_mul]; omega
        have := dnV this; omega
    · intro h
      by_cases hv0 : v ≤ 0
      · have e1 : (v.natAbs : Int) = -v := by omega
        have : k * one64 ≤ v.natAbs * u := by
          apply Int.ofNat_le.mp; rw [cast, cast, ek, e1, ey', Int.neg_mul, Int.neg_mul]; omega
        have := upV this; omega
      · exfalso
        have h5 : 0 < v * y := Int.mul_pos (by omega) hy0
        have h6 : x * (one64 : Int) ≤ 0 := by
          have : 0 ≤ (k : Int) * (one64 : Int) := Int.mul_nonneg (by omega) (by omega)
          rw [ek, Int.neg_mul] at this; omega
        omega
theorem ZV.div_exact (ha : ZV a x) (hb : ZV b y) (hy : (one64 : Int) ≤ y) (hv : ZV V z) (h : x * (one64 : Int) = z * y) : ZV (FP.ddiv a b) z := by
  obtain ⟨r, h1, h2⟩ := ha.div hb hy
  have h3 := h2 V z hv
  have : r = z := Int.le_antisymm (h3.1 (Int.le_of_eq h)) (h3.2 (Int.le_of_eq h.symm))
  exact this ▸ h1
/-- i * 2^k units are a double -/
theorem own_rep (i : Int) (k : Nat) (hi : i.natAbs < 2 ^ 53) (hk : k ≤ 2045) : ∃ V, ZV V (i * ((2 ^ k : Nat) : Int)) := by
  obtain ⟨c', q', h1, h2⟩ := round_exact good_b64 (decide (i < 0)) (c := i.natAbs) (q := (k : Int) + b64.qmin) hi (by omega) (by rw [show b64.qmax = 971 from by decide, qmin_b64]; omega)
  have hf : FP.Core.fits b64 (.fin (decide (i < 0)) c' q') := by rw [← h1]; exact round_fits good_b64 _
  refine ⟨of64 (.fin (decide (i < 0)) c' q'), ⟨_, _, _, val64_of64 hf⟩, ?_⟩
  rw [val64_of64 hf, own_mag, h2]
  unfold inUnits
  rw [show ((k : Int) + b64.qmin - b64.qmin).toNat = k from by omega, signed_mul, own_sgn_z]
  congr 1
  by_cases h : i < 0
  · simp only [h, decide_true, if_true]; omega
  · simp only [h, decide_false]; simp only [Bool.false_eq_true, if_false]; omega
theorem own_one64 : (one64 : Int) = ((2 ^ 1074 : Nat) : Int) := rfl
theorem ZV.of_int {i : Int} (h : DInt i a) : ZV a (i * (one64 : Int)) := by
  refine ⟨?_, DInt_zval h⟩
  unfold DInt at h
  cases h2 : val64 a with
  | nan => rw [h2] at h; exact h.elim
  | inf s => rw [h2] at h; exact h.elim
  | fin s c q => exact ⟨s, c, q, h2⟩
theorem own_i2d (n : Int32) : ZV (FP.i2d n) (n.toInt * (one64 : Int)) := ZV.of_int (i2d_int n)
theorem own_l2d {n : Int64} (h : n.toInt.natAbs ≤ 2 ^ 53) : ZV (FP.l2d n) (n.toInt * (one64 : Int)) := ZV.of_int (l2d_int h)
theorem own_ddiv_nn (ha : DFin a) (hb : DFin b) : FP.ddiv (FP.Core.dneg a) (FP.Core.dneg b) = FP.ddiv a b ∨ val64 (FP.ddiv a b) = .nan := by
  by_cases hn : val64 (FP.ddiv a b) = .nan
  · exact Or.inr hn
  · refine Or.inl (val64_inj hn ?_).symm
    obtain ⟨s, c, q, h1⟩ := ha
    obtain ⟨t, d, r, h2⟩ := hb
    show val64 (FP.Core.ddiv a b) = val64 (FP.Core.ddiv _ _)
    rw [val64_ddiv, val64_ddiv, val64_dneg, val64_dneg, h1, h2]
    show quotient b64 (.fin s c q) (.fin t d r) = quotient b64 (.fin (!s) c q) (.fin (!t) d r)
    simp only [quotient]
    have : ((!s) != (!t)) = (s != t) := by cases s <;> cases t <;> rfl
    rw [this]
theorem ZV.dneg (h : ZV a x) : ZV (FP.Core.dneg a) (-x) := by
  refine ⟨?_, by rw [val64_dneg, zval_negate, h.2]⟩
  obtain ⟨⟨s, c, q, h1⟩, -⟩ := h; exact ⟨!s, c, q, by rw [val64_dneg, h1]; rfl⟩
/-- the quotient by a negative double of at most minus one -/
theorem ZV.div_neg (ha : ZV a x) (hb : ZV b y) (hy : y ≤ -(one64 : Int)) : ∃ r, ZV (FP.ddiv a b) r ∧ Quo (-x) (-y) r := by
  obtain ⟨r, h1, h2⟩ := ha.dneg.div hb.dneg (by omega)
  have o1 := one64_pos
  obtain ⟨s, c, q, t, d, r', -, -, -, h3, -⟩ := own_quot ha hb (by omega)
  rcases own_ddiv_nn ha.1 hb.1 with h | h
  · exact ⟨r, h ▸ h1, h2⟩
  · rw [h3] at h; exact absurd h (roundRatio_ne_nan _ _ _ _ _)
/-- n / D against i / 2^j -/
theorem own_quo_int {n D r : Int} (h : Quo (n * (one64 : Int)) (D * (one64 : Int)) r) (i : Int) (j : Nat) (hj : j ≤ 1074) (hi : i.natAbs < 2 ^ 53) :
    (n * ((2 ^ j : Nat) : Int) ≤ i * D → r ≤ i * ((2 ^ (1074 - j) : Nat) : Int)) ∧ (i * D ≤ n * ((2 ^ j : Nat) : Int) → i * ((2 ^ (1074 - j) : Nat) : Int) ≤ r) := by
  obtain ⟨V, hV⟩ := own_rep i (1074 - j) hi (by omega)
  have q := h V _ hV
  have e : (one64 : Int) = ((2 ^ j : Nat) : Int) * ((2 ^ (1074 - j) : Nat) : Int) := by
    rw [own_one64, ← Int.natCast_mul, ← Nat.pow_add]; congr 2; omega
  have hu : (0 : Int) ≤ ((2 ^ (1074 - j) : Nat) : Int) * (one64 : Int) := Int.mul_nonneg (Int.natCast_nonneg _) (Int.natCast_nonneg _)
  have e1 : n * (one64 : Int) * (one64 : Int) = n * ((2 ^ j : Nat) : Int) * (((2 ^ (1074 - j) : Nat) : Int) * (one64 : Int)) := by
    conv => lhs; arg 1; rw [e]
    rw [← Int.mul_assoc n, Int.mul_assoc (n * _)]
  have e2 : i * ((2 ^ (1074 - j) : Nat) : Int) * (D * (one64 : Int)) = i * D * (((2 ^ (1074 - j) : Nat) : Int) * (one64 : Int)) := by rw [Int.mul_assoc i, Int.mul_left_comm _ D, ← Int.mul_assoc i D]
  rw [e1, e2] at q
  exact ⟨fun z => q.1 (Int.mul_le_mul_of_nonneg_right z hu), fun z => q.2 (Int.mul_le_mul_of_nonneg_right z hu)⟩
theorem own_zero : ZV (0 : UInt64) 0 := ⟨⟨_, _, _, val64_zero⟩, zval64_zero⟩
theorem own_one : ZV (4607182418800017408 : UInt64) (one64 : Int) := by
  have := ZV.of_int dint_one; rwa [Int.one_mul] at this
theorem own_cmp_gt {x y : Int} : some (compare x y) = some Ordering.gt ↔ y < x := by rw [Option.some.injEq]; exact compare_gt_iff x y
theorem own_cmp_lt {x y : Int} : some (compare x y) = some Ordering.lt ↔ x < y := by rw [Option.some.injEq]; exact compare_lt_iff x y
theorem own_cmp_eq {x y : Int} : some (compare x y) = some Ordering.eq ↔ x = y := by rw [Option.some.injEq]; exact compare_eq_iff x y
theorem own_dnn {i : Int} {a : UInt64} (h : DInt i a) : Jvm.Free.Fl.NoNaN64 a := (ZV.of_int h).nn
theorem own_nnd' {a : UInt64} (ha : DFin a) (n : Int32) (hn : n ≠ 0) : Jvm.Free.Fl.NoNaN64 (FP.ddiv a (FP.i2d n)) :=
  Jvm.Free.Fl.noNaN64_no.mpr (FP.Core.ddiv_out ha.notNaN (i2d_fin n) (fun q => i2d_ne_zero hn (by rwa [zero_bits2] at q)))
theorem own_nnd (s : Int64) (n : Int32) (hn : n ≠ 0) : Jvm.Free.Fl.NoNaN64 (FP.ddiv (FP.l2d s) (FP.i2d n)) := own_nnd' (l2d_fin s) n hn
theorem own_dz : DInt 0 (0 : UInt64) := by
  have : (0 : UInt64) = FP.l2d 0 := FP.Core.l2d_zero.symm
  rw [this]; exact l2d_int (a := 0) (by decide)
theorem own_div_eq {S S' : UInt64} {s : Int} (h : DInt s S) (h' : DInt s S') (n : Int32) (hn : 1 ≤ n.toInt) : FP.dcmp (FP.ddiv S (FP.i2d n)) (FP.ddiv S' (FP.i2d n)) = some .eq := by
  have hy : (one64 : Int) ≤ n.toInt * (one64 : Int) := by
    have := Int.mul_le_mul_of_nonneg_right hn (show (0 : Int) ≤ (one64 : Int) by omega)
    rwa [Int.one_mul] at this
  by_cases hs : s = 0
  · subst hs
    have z1 := ZV.of_int h
    have z2 := ZV.of_int h'
    rw [Int.zero_mul] at z1 z2
    have q1 := z1.div_exact (own_i2d n) hy own_zero (by rw [Int.zero_mul, Int.zero_mul])
    have q2 := z2.div_exact (own_i2d n) hy own_zero (by rw [Int.zero_mul, Int.zero_mul])
    rw [q1.cmp q2, own_cmp_eq]
  · have e := dint_unique hs h h'
    subst e
    have hz : n ≠ 0 := fun q => by subst q; revert hn; decide
    exact dcmp_refl (Jvm.Free.Fl.noNaN64_no.mp (own_nnd' (ZV.of_int h).1 n hz))
theorem own_ib (x : Int32) : x.toInt.natAbs ≤ 2147483648 := by have := x.le_toInt; have := x.toInt_lt; omega
end OwnFp
def shareV (o r : Int64) : UInt64 := if o = (0 : Int64) then (0 : UInt64) else FP.ddiv (FP.l2d r) (FP.l2d o)
theorem own_nnsh {o r : Int64} (h : ¬ o = (0 : Int64)) : Jvm.Free.Fl.NoNaN64 (FP.ddiv (FP.l2d r) (FP.l2d o)) :=
  Jvm.Free.Fl.noNaN64_no.mpr (FP.Core.ddiv_out (FP.Core.l2d_fin r).notNaN (FP.Core.l2d_fin o) (fun q => FP.Core.l2d_ne_zero h (by rwa [FP.Core.zero_bits2] at q)))
theorem d3_0 : decode jdk_30_method_1_code 0 = .ok (.aload_n 0, 1) := by decide +kernel
theorem d3_1 : decode jdk_30_method_1_code 1 = .ok (.invokespecial 1, 3) := by decide +kernel
theorem d3_4 : decode jdk_30_method_1_code 4 = .ok (.return_, 1) := by decide +kernel
theorem pn_0 : plainName "java/lang/Record" = true := by first | (simp [plainName, overriddenIn]; done) | decide +kernel
theorem ef_rm3 (m : MethodId) (a0 : Addr) : entryFrame m #[(.ref a0)] 1 = mkF m 0 #[.val (.ref a0)] [] := by first | (simp [entryFrame, mkF, argsToLocals, Value.category]; done) | rfl
def Q_rm3 (Z : State) (a0 : Addr) (h0 : Heap) (n0 : Nat) (v : Option Value) (h : Heap) (L : List Loc) : Prop := v = none ∧ Fr n0 L ∧ h = h0
set_option maxRecDepth 65536 in
set_option maxHeartbeats 40000000 in
theorem rm3 (l : Launch) (Z : State) (aw : Array Value) (hw : ∀ d ∈ tables_1, d.before aw Z = true) (ws : List Jvm.Cond) (a0 : Addr) (h0 : Heap) (n0 : Nat) (Z0 : n0 ≤ h0.size) :
    MetFree l (⟨"java/lang/Record", "<init>", "()V"⟩ : MethodName) (head1 (Jvm.Cond.code (⟨"java/lang/Record", "<init>", "()V"⟩ : MethodName) jdk_30_method_1_code 1 none :: ws) ({ frames := 1, cells := 0, slots := 0, locals := 12 } : Room)) (fun a U => a = #[(.ref a0)] ∧ Z.Warmed39 U.vm ∧ U.heap = h0) (fun _ _ _ _ _ => True) (fun _ U o U' => ∃ v L, o = .returned v ∧ Q_rm3 Z a0 h0 n0 v U'.heap L ∧ FrameEnd U o U' L ({ frames := 1, cells := 0, slots := 0, locals := 12 } : Room).cells ({ frames := 1, cells := 0, slots := 0, locals := 12 } : Room).slots) := by
  refine MetFree.of_bodySF (plainFor_of_name pn_0) hisR ?_
  intro p e s m args below meth c s₁ Bd hml0 hP hK
  obtain ⟨rfl, hZ, hh⟩ := hP
  have hx := Bd.exec
  have hby := Bd.bytes
  have hml : c.maxLocals = 1 := hml0
  have hown : s.vm.findClass "java/lang/Record" = some m.cls := findClass_of_methodNamed Bd.named
  have hnm := (name_of_methodNamed Bd.named Bd.method).1
  have hlk : meth.locks = false := BodyLoose.notSynchronized Bd
  have X0 : Stand p l e ({ frames := 1, cells := 0, slots := 0, locals := 12 } : Room) s m #[(.ref a0)] below meth c s₁ [] 0 0 := Stand.of_body Bd
  have e0 : s₁.heap = h0 := by rw [← hh, Bd.state]; rfl
  have N0 := Fr.nil n0
  have ZZ := Z0
  show Go p e below s ({ frames := 1, cells := 0, slots := 0, locals := 12 } : Room).cells ({ frames := 1, cells := 0, slots := 0, locals := 12 } : Room).slots (fun v h L => Q_rm3 Z a0 h0 n0 v h L) s₁ (entryFrame m #[(.ref a0)] 1)
  refine Go.cast (ef_rm3 m a0) ?_
  refine Go.gen ?_
  intro K1 K2 QQ hK1 hK2 hQQ
  refine Go.on (fun _ k => XS.aloadN X0.here hx rfl (hb hby d3_0) rfl rfl k) ?_
  show Go _ _ _ _ _ _ _ _ (mkF m 1 #[.val (.ref a0)] [(.ref a0)])
  obtain ⟨T1, X1, e1, st1⟩ := initO X0 hx hZ hown (hw _ (List.mem_of_getElem? (i := 16) rfl)) (hw _ (List.mem_of_getElem? (i := 17) rfl)) (hw _ (List.mem_of_getElem? (i := 18) rfl)) e0 (g := (mkF m 1 #[.val (.ref a0)] [(.ref a0)])) rfl (by rw [hml]; rfl) rfl (hb hby d3_1) (by decide) (W := 0) (by show 2 * 0 + _ ≤ _; exact Nat.le_of_eq rfl) (by decide)
  refine Go.on st1 ?_
  show Go _ _ _ _ _ _ _ _ (mkF m 4 #[.val (.ref a0)] [])
  refine Go.ret0 X1 hx Bd.returns (hb hby d3_4) ?_ (by rw [hK1]; decide) (by rw [hK2]; decide)
  rw [e1, ← hQQ]
  exact ⟨rfl, N0, rfl⟩
theorem pd_0 : parseMethodDescriptor "()V" = some ⟨[], none⟩ := by decide +kernel
theorem d2_0 : decode prog_47_method_1_code 0 = .ok (.aload_n 0, 1) := by decide +kernel
theorem d2_1 : decode prog_47_method_1_code 1 = .ok (.invokespecial 1, 3) := by decide +kernel
theorem d2_4 : decode prog_47_method_1_code 4 = .ok (.aload_n 0, 1) := by decide +kernel
theorem d2_5 : decode prog_47_method_1_code 5 = .ok (.lload_n 1, 1) := by decide +kernel
theorem d2_6 : decode prog_47_method_1_code 6 = .ok (.putfield 7, 3) := by decide +kernel
theorem d2_9 : decode prog_47_method_1_code 9 = .ok (.aload_n 0, 1) := by decide +kernel
theorem d2_10 : decode prog_47_method_1_code 10 = .ok (.lload_n 3, 1) := by decide +kernel
theorem d2_11 : decode prog_47_method_1_code 11 = .ok (.putfield 13, 3) := by decide +kernel
theorem d2_14 : decode prog_47_method_1_code 14 = .ok (.aload_n 0, 1) := by decide +kernel
theorem d2_15 : decode prog_47_method_1_code 15 = .ok (.lload 5, 2) := by decide +kernel
theorem d2_17 : decode prog_47_method_1_code 17 = .ok (.putfield 16, 3) := by decide +kernel
theorem d2_20 : decode prog_47_method_1_code 20 = .ok (.aload_n 0, 1) := by decide +kernel
theorem d2_21 : decode prog_47_method_1_code 21 = .ok (.dload 7, 2) := by decide +kernel
theorem d2_23 : decode prog_47_method_1_code 23 = .ok (.putfield 19, 3) := by decide +kernel
theorem d2_26 : decode prog_47_method_1_code 26 = .ok (.aload_n 0, 1) := by decide +kernel
theorem d2_27 : decode prog_47_method_1_code 27 = .ok (.dload 9, 2) := by decide +kernel
theorem d2_29 : decode prog_47_method_1_code 29 = .ok (.putfield 23, 3) := by decide +kernel
theorem d2_32 : decode prog_47_method_1_code 32 = .ok (.aload_n 0, 1) := by decide +kernel
theorem d2_33 : decode prog_47_method_1_code 33 = .ok (.dload 11, 2) := by decide +kernel
theorem d2_35 : decode prog_47_method_1_code 35 = .ok (.putfield 26, 3) := by decide +kernel
theorem d2_38 : decode prog_47_method_1_code 38 = .ok (.aload_n 0, 1) := by decide +kernel
theorem d2_39 : decode prog_47_method_1_code 39 = .ok (.dload 13, 2) := by decide +kernel
theorem d2_41 : decode prog_47_method_1_code 41 = .ok (.putfield 29, 3) := by decide +kernel
theorem d2_44 : decode prog_47_method_1_code 44 = .ok (.return_, 1) := by decide +kernel
theorem pn_1 : plainName "com/example/deliberate_scaler/deliberatescaler/model/Simulation$Outcome" = true := by first | (simp [plainName, overriddenIn]; done) | decide +kernel
theorem ef_rm2 (m : MethodId) (a0 : Addr) (j1 : Int64) (j2 : Int64) (j3 : Int64) (d4 : UInt64) (d5 : UInt64) (d6 : UInt64) (d7 : UInt64) : entryFrame m #[(.ref a0), (.long j1), (.long j2), (.long j3), (.double d4), (.double d5), (.double d6), (.double d7)] 15 = mkF m 0 #[.val (.ref a0), .val (.long j1), .second, .val (.long j2), .second, .val (.long j3), .second, .val (.double d4), .second, .val (.double d5), .second, .val (.double d6), .second, .val (.double d7), .second] [] := by first | (simp [entryFrame, mkF, argsToLocals, Value.category]; done) | rfl
def Q_rm2 (Z : State) (a0 : Addr) (j1 : Int64) (j2 : Int64) (j3 : Int64) (d4 : UInt64) (d5 : UInt64) (d6 : UInt64) (d7 : UInt64) (u0 : Value) (u1 : Value) (u2 : Value) (u3 : Value) (u4 : Value) (u5 : Value) (u6 : Value) (h0 : Heap) (n0 : Nat) (v : Option Value) (h : Heap) (L : List Loc) : Prop := v = none ∧ Fr n0 L ∧ Keep h0 h [a0] ∧ Exa Z h a0 "com/example/deliberate_scaler/deliberatescaler/model/Simulation$Outcome" ∧ Fld Z h a0 "com/example/deliberate_scaler/deliberatescaler/model/Simulation$Outcome" "offered" "J" (.long j1) ∧ Fld Z h a0 "com/example/deliberate_scaler/deliberatescaler/model/Simulation$Outcome" "accepted" "J" (.long j2) ∧ Fld Z h a0 "com/example/deliberate_scaler/deliberatescaler/model/Simulation$Outcome" "rejected" "J" (.long j3) ∧ Fld Z h a0 "com/example/deliberate_scaler/deliberatescaler/model/Simulation$Outcome" "meanResponseTime" "D" (.double d4) ∧ Fld Z h a0 "com/example/deliberate_scaler/deliberatescaler/model/Simulation$Outcome" "meanInSystem" "D" (.double d5) ∧ Fld Z h a0 "com/example/deliberate_scaler/deliberatescaler/model/Simulation$Outcome" "workerSeconds" "D" (.double d6) ∧ Fld Z h a0 "com/example/deliberate_scaler/deliberatescaler/model/Simulation$Outcome" "targetSeconds" "D" (.double d7)
set_option maxRecDepth 65536 in
set_option maxHeartbeats 40000000 in
theorem rm2 (l : Launch) (Z : State) (aw : Array Value) (hw : ∀ d ∈ tables_1, d.before aw Z = true) (ws : List Jvm.Cond) (a0 : Addr) (j1 : Int64) (j2 : Int64) (j3 : Int64) (d4 : UInt64) (d5 : UInt64) (d6 : UInt64) (d7 : UInt64) (u0 : Value) (u1 : Value) (u2 : Value) (u3 : Value) (u4 : Value) (u5 : Value) (u6 : Value) (h0 : Heap) (n0 : Nat) (Z0 : n0 ≤ h0.size) (E_a0 : Exa Z h0 a0 "com/example/deliberate_scaler/deliberatescaler/model/Simulation$Outcome") (F_offered_a0 : Fld Z h0 a0 "com/example/deliberate_scaler/deliberatescaler/model/Simulation$Outcome" "offered" "J" u0) (F_accepted_a0 : Fld Z h0 a0 "com/example/deliberate_scaler/deliberatescaler/model/Simulation$Outcome" "accepted" "J" u1) (F_rejected_a0 : Fld Z h0 a0 "com/example/deliberate_scaler/deliberatescaler/model/Simulation$Outcome" "rejected" "J" u2) (F_meanResponseTime_a0 : Fld Z h0 a0 "com/example/deliberate_scaler/deliberatescaler/model/Simulation$Outcome" "meanResponseTime" "D" u3) (F_meanInSystem_a0 : Fld Z h0 a0 "com/example/deliberate_scaler/deliberatescaler/model/Simulation$Outcome" "meanInSystem" "D" u4) (F_workerSeconds_a0 : Fld Z h0 a0 "com/example/deliberate_scaler/deliberatescaler/model/Simulation$Outcome" "workerSeconds" "D" u5) (F_targetSeconds_a0 : Fld Z h0 a0 "com/example/deliberate_scaler/deliberatescaler/model/Simulation$Outcome" "targetSeconds" "D" u6) (g_a0 : n0 ≤ a0) :
    MetFree l (⟨"com/example/deliberate_scaler/deliberatescaler/model/Simulation$Outcome", "<init>", "(JJJDDDD)V"⟩ : MethodName) (head1 (Jvm.Cond.code (⟨"com/example/deliberate_scaler/deliberatescaler/model/Simulation$Outcome", "<init>", "(JJJDDDD)V"⟩ : MethodName) prog_47_method_1_code 15 none :: ws) ({ frames := 2, cells := 0, slots := 0, locals := 24 } : Room)) (fun a U => a = #[(.ref a0), (.long j1), (.long j2), (.long j3), (.double d4), (.double d5), (.double d6), (.double d7)] ∧ Z.Warmed39 U.vm ∧ U.heap = h0) (fun _ _ _ _ _ => True) (fun _ U o U' => ∃ v L, o = .returned v ∧ Q_rm2 Z a0 j1 j2 j3 d4 d5 d6 d7 u0 u1 u2 u3 u4 u5 u6 h0 n0 v U'.heap L ∧ FrameEnd U o U' L ({ frames := 2, cells := 0, slots := 0, locals := 24 } : Room).cells ({ frames := 2, cells := 0, slots := 0, locals := 24 } : Room).slots) := by
  refine MetFree.of_bodySF (plainFor_of_name pn_1) hisR ?_
  intro p e s m args below meth c s₁ Bd hml0 hP hK
  obtain ⟨rfl, hZ, hh⟩ := hP
  have hx := Bd.exec
  have hby := Bd.bytes
  have hml : c.maxLocals = 15 := hml0
  have hown : s.vm.findClass "com/example/deliberate_scaler/deliberatescaler/model/Simulation$Outcome" = some m.cls := findClass_of_methodNamed Bd.named
  have hnm := (name_of_methodNamed Bd.named Bd.method).1
  have hlk : meth.locks = false := BodyLoose.notSynchronized Bd
  have X0 : Stand p l e ({ frames := 2, cells := 0, slots := 0, locals := 24 } : Room) s m #[(.ref a0), (.long j1), (.long j2), (.long j3), (.double d4), (.double d5), (.double d6), (.double d7)] below meth c s₁ [] 0 0 := Stand.of_body Bd
  have e0 : s₁.heap = h0 := by rw [← hh, Bd.state]; rfl
  have N0 := Fr.nil n0
  have ZZ := Z0
  show Go p e below s ({ frames := 2, cells := 0, slots := 0, locals := 24 } : Room).cells ({ frames := 2, cells := 0, slots := 0, locals := 24 } : Room).slots (fun v h L => Q_rm2 Z a0 j1 j2 j3 d4 d5 d6 d7 u0 u1 u2 u3 u4 u5 u6 h0 n0 v h L) s₁ (entryFrame m #[(.ref a0), (.long j1), (.long j2), (.long j3), (.double d4), (.double d5), (.double d6), (.double d7)] 15)
  refine Go.cast (ef_rm2 m a0 j1 j2 j3 d4 d5 d6 d7) ?_
  refine Go.gen ?_
  intro K1 K2 QQ hK1 hK2 hQQ
  have KP : Keep h0 h0 [a0] := Keep.refl _ _
  refine Go.on (fun _ k => XS.aloadN X0.here hx rfl (hb hby d2_0) rfl rfl k) ?_
  show Go _ _ _ _ _ _ _ _ (mkF m 1 #[.val (.ref a0), .val (.long j1), .second, .val (.long j2), .second, .val (.long j3), .second, .val (.double d4), .second, .val (.double d5), .second, .val (.double d6), .second, .val (.double d7), .second] [(.ref a0)])
  obtain ⟨_, _, ⟨T1, L1, k1, n1⟩, -, X1, ⟨Lc1, hQ1, l1, y1, z1⟩, st1⟩ := X0.specialBack hx (y := (⟨"java/lang/Record", "<init>", "()V"⟩ : MethodName)) rfl hown (mvT hZ (hw _ (List.mem_of_getElem? (i := 11) rfl))) (mvT hZ (hw _ (List.mem_of_getElem? (i := 12) rfl))) (mvT hZ (hw _ (List.mem_of_getElem? (i := 15) rfl))) (by decide) (backOf (W := 0) (rm3 l Z aw hw [] a0  h0 n0 ZZ ) hZ (hw _ (List.mem_of_getElem? (i := 15) rfl)) (hw _ (List.mem_of_getElem? (i := 14) rfl)) (by decide) (by decide)) (g := (mkF m 1 #[.val (.ref a0), .val (.long j1), .second, .val (.long j2), .second, .val (.long j3), .second, .val (.double d4), .second, .val (.double d5), .second, .val (.double d6), .second, .val (.double d7), .second] [(.ref a0)])) rfl (by rw [hml]; rfl) (Steps.refl _) (a := a0) (argsL := []) (rest := []) (lenOf pd_0 rfl) rfl (by show 2 * 0 + _ ≤ _; exact Nat.le_of_eq rfl) (hb hby d2_1) (fun _ _ => ⟨rfl, e0, (by decide : 0 + 0 ≤ _), (by decide : 0 + 0 ≤ _)⟩)
  dsimp only [Pt.U, Pt.locs, Pt.cells, Pt.slots] at X1 l1 y1 z1 st1 hQ1
  subst l1 y1 z1
  obtain ⟨rfl, N1q, e1⟩ := hQ1
  have N1 := Fr.app N0 N1q
  refine Go.on (fun _ k => st1.trans k) ?_
  show Go _ _ _ _ _ _ _ _ (mkF m 4 #[.val (.ref a0), .val (.long j1), .second, .val (.long j2), .second, .val (.long j3), .second, .val (.double d4), .second, .val (.double d5), .second, .val (.double d6), .second, .val (.double d7), .second] [])
  refine Go.on (fun _ k => XS.aloadN X1.here hx rfl (hb hby d2_4) rfl rfl k) ?_
  show Go _ _ _ _ _ _ _ _ (mkF m 5 #[.val (.ref a0), .val (.long j1), .second, .val (.long j2), .second, .val (.long j3), .second, .val (.double d4), .second, .val (.double d5), .second, .val (.double d6), .second, .val (.double d7), .second] [(.ref a0)])
  refine Go.on (fun _ k => XS.lloadN X1.here hx rfl (hb hby d2_5) rfl k) ?_
  show Go _ _ _ _ _ _ _ _ (mkF m 6 #[.val (.ref a0), .val (.long j1), .second, .val (.long j2), .second, .val (.long j3), .second, .val (.double d4), .second, .val (.double d5), .second, .val (.double d6), .second, .val (.double d7), .second] [(.long j1), (.ref a0)])
  obtain ⟨T2, h2, X2, e2, W2, st2⟩ := putF X1 hx hZ hown (host := "") (Or.inl (hw _ (List.mem_of_getElem? (i := 19) rfl))) Via.refl e1 F_offered_a0 E_a0 (Or.inr ⟨(hw _ (List.mem_of_getElem? (i := 20) rfl)), rfl, hnm⟩) (hw _ (List.mem_of_getElem? (i := 6) rfl)) (ty := .long) (by decide) rfl rfl (g := (mkF m 6 #[.val (.ref a0), .val (.long j1), .second, .val (.long j2), .second, .val (.long j3), .second, .val (.double d4), .second, .val (.double d5), .second, .val (.double d6), .second, .val (.double d7), .second] [(.long j1), (.ref a0)])) rfl rfl (hb hby d2_6)
  refine Go.on st2 ?_
  replace F_offered_a0 := F_offered_a0.same W2
  replace E_a0 := E_a0.wr W2
  replace F_accepted_a0 := F_accepted_a0.other W2 (Or.inr (slot_ne (Or.inr (hw _ (List.mem_of_getElem? (i := 22) rfl))) (Or.inr (hw _ (List.mem_of_getElem? (i := 20) rfl))) (by decide) (t := .long) (t' := .long) (by decide) (by decide)))
  replace F_rejected_a0 := F_rejected_a0.other W2 (Or.inr (slot_ne (Or.inr (hw _ (List.mem_of_getElem? (i := 24) rfl))) (Or.inr (hw _ (List.mem_of_getElem? (i := 20) rfl))) (by decide) (t := .long) (t' := .long) (by decide) (by decide)))
  replace F_meanResponseTime_a0 := F_meanResponseTime_a0.other W2 (Or.inr (slot_ne (Or.inr (hw _ (List.mem_of_getElem? (i := 26) rfl))) (Or.inr (hw _ (List.mem_of_getElem? (i := 20) rfl))) (by decide) (t := .double) (t' := .long) (by decide) (by decide)))
  replace F_meanInSystem_a0 := F_meanInSystem_a0.other W2 (Or.inr (slot_ne (Or.inr (hw _ (List.mem_of_getElem? (i := 28) rfl))) (Or.inr (hw _ (List.mem_of_getElem? (i := 20) rfl))) (by decide) (t := .double) (t' := .long) (by decide) (by decide)))
  replace F_workerSeconds_a0 := F_workerSeconds_a0.other W2 (Or.inr (slot_ne (Or.inr (hw _ (List.mem_of_getElem? (i := 30) rfl))) (Or.inr (hw _ (List.mem_of_getElem? (i := 20) rfl))) (by decide) (t := .double) (t' := .long) (by decide) (by decide)))
  replace F_targetSeconds_a0 := F_targetSeconds_a0.other W2 (Or.inr (slot_ne (Or.inr (hw _ (List.mem_of_getElem? (i := 32) rfl))) (Or.inr (hw _ (List.mem_of_getElem? (i := 20) rfl))) (by decide) (t := .double) (t' := .long) (by decide) (by decide)))
  have N2 := Fr.snoc X2 N1 g_a0
  replace ZZ := Nat.le_trans ZZ (Keep.of_wr W2).1
  replace KP := KP.wr W2 (Or.inl (List.mem_of_getElem? (i := 0) rfl))
  show Go _ _ _ _ _ _ _ _ (mkF m 9 #[.val (.ref a0), .val (.long j1), .second, .val (.long j2), .second, .val (.long j3), .second, .val (.double d4), .second, .val (.double d5), .second, .val (.double d6), .second, .val (.double d7), .second] [])
  refine Go.on (fun _ k => XS.aloadN X2.here hx rfl (hb hby d2_9) rfl rfl k) ?_
  show Go _ _ _ _ _ _ _ _ (mkF m 10 #[.val (.ref a0), .val (.long j1), .second, .val (.long j2), .second, .val (.long j3), .second, .val (.double d4), .second, .val (.double d5), .second, .val (.double d6), .second, .val (.double d7), .second] [(.ref a0)])
  refine Go.on (fun _ k => XS.lloadN X2.here hx rfl (hb hby d2_10) rfl k) ?_
  show Go _ _ _ _ _ _ _ _ (mkF m 11 #[.val (.ref a0), .val (.long j1), .second, .val (.long j2), .second, .val (.long j3), .second, .val (.double d4), .second, .val (.double d5), .second, .val (.double d6), .second, .val (.double d7), .second] [(.long j2), (.ref a0)])
  obtain ⟨T3, h3, X3, e3, W3, st3⟩ := putF X2 hx hZ hown (host := "") (Or.inl (hw _ (List.mem_of_getElem? (i := 21) rfl))) Via.refl e2 F_accepted_a0 E_a0 (Or.inr ⟨(hw _ (List.mem_of_getElem? (i := 22) rfl)), rfl, hnm⟩) (hw _ (List.mem_of_getElem? (i := 6) rfl)) (ty := .long) (by decide) rfl rfl (g := (mkF m 11 #[.val (.ref a0), .val (.long j1), .second, .val (.long j2), .second, .val (.long j3), .second, .val (.double d4), .second, .val (.double d5), .second, .val (.double d6), .second, .val (.double d7), .second] [(.long j2), (.ref a0)])) rfl rfl (hb hby d2_11)
  refine Go.on st3 ?_
  replace F_accepted_a0 := F_accepted_a0.same W3
  replace E_a0 := E_a0.wr W3
  replace F_offered_a0 := F_offered_a0.other W3 (Or.inr (slot_ne (Or.inr (hw _ (List.mem_of_getElem? (i := 20) rfl))) (Or.inr (hw _ (List.mem_of_getElem? (i := 22) rfl))) (by decide) (t := .long) (t' := .long) (by decide) (by decide)))
  replace F_rejected_a0 := F_rejected_a0.other W3 (Or.inr (slot_ne (Or.inr (hw _ (List.mem_of_getElem? (i := 24) rfl))) (Or.inr (hw _ (List.mem_of_getElem? (i := 22) rfl))) (by decide) (t := .long) (t' := .long) (by decide) (by decide)))
  replace F_meanResponseTime_a0 := F_meanResponseTime_a0.other W3 (Or.inr (slot_ne (Or.inr (hw _ (List.mem_of_getElem? (i := 26) rfl))) (Or.inr (hw _ (List.mem_of_getElem? (i := 22) rfl))) (by decide) (t := .double) (t' := .long) (by decide) (by decide)))
  replace F_meanInSystem_a0 := F_meanInSystem_a0.other W3 (Or.inr (slot_ne (Or.inr (hw _ (List.mem_of_getElem? (i := 28) rfl))) (Or.inr (hw _ (List.mem_of_getElem? (i := 22) rfl))) (by decide) (t := .double) (t' := .long) (by decide) (by decide)))
  replace F_workerSeconds_a0 := F_workerSeconds_a0.other W3 (Or.inr (slot_ne (Or.inr (hw _ (List.mem_of_getElem? (i := 30) rfl))) (Or.inr (hw _ (List.mem_of_getElem? (i := 22) rfl))) (by decide) (t := .double) (t' := .long) (by decide) (by decide)))
  replace F_targetSeconds_a0 := F_targetSeconds_a0.other W3 (Or.inr (slot_ne (Or.inr (hw _ (List.mem_of_getElem? (i := 32) rfl))) (Or.inr (hw _ (List.mem_of_getElem? (i := 22) rfl))) (by decide) (t := .double) (t' := .long) (by decide) (by decide)))
  have N3 := Fr.snoc X3 N2 g_a0
  replace ZZ := Nat.le_trans ZZ (Keep.of_wr W3).1
  replace KP := KP.wr W3 (Or.inl (List.mem_of_getElem? (i := 0) rfl))
  show Go _ _ _ _ _ _ _ _ (mkF m 14 #[.val (.ref a0), .val (.long j1), .second, .val (.long j2), .second, .val (.long j3), .second, .val (.double d4), .second, .val (.double d5), .second, .val (.double d6), .second, .val (.double d7), .second] [])
  refine Go.on (fun _ k => XS.aloadN X3.here hx rfl (hb hby d2_14) rfl rfl k) ?_
  show Go _ _ _ _ _ _ _ _ (mkF m 15 #[.val (.ref a0), .val (.long j1), .second, .val (.long j2), .second, .val (.long j3), .second, .val (.double d4), .second, .val (.double d5), .second, .val (.double d6), .second, .val (.double d7), .second] [(.ref a0)])
  refine Go.on (fun _ k => XS.lload X3.here hx rfl (hb hby d2_15) rfl k) ?_
  show Go _ _ _ _ _ _ _ _ (mkF m 17 #[.val (.ref a0), .val (.long j1), .second, .val (.long j2), .second, .val (.long j3), .second, .val (.double d4), .second, .val (.double d5), .second, .val (.double d6), .second, .val (.double d7), .second] [(.long j3), (.ref a0)])
  obtain ⟨T4, h4, X4, e4, W4, st4⟩ := putF X3 hx hZ hown (host := "") (Or.inl (hw _ (List.mem_of_getElem? (i := 23) rfl))) Via.refl e3 F_rejected_a0 E_a0 (Or.inr ⟨(hw _ (List.mem_of_getElem? (i := 24) rfl)), rfl, hnm⟩) (hw _ (List.mem_of_getElem? (i := 6) rfl)) (ty := .long) (by decide) rfl rfl (g := (mkF m 17 #[.val (.ref a0), .val (.long j1), .second, .val (.long j2), .second, .val (.long j3), .second, .val (.double d4), .second, .val (.double d5), .second, .val (.double d6), .second, .val (.double d7), .second] [(.long j3), (.ref a0)])) rfl rfl (hb hby d2_17)
  refine Go.on st4 ?_
  replace F_rejected_a0 := F_rejected_a0.same W4
  replace E_a0 := E_a0.wr W4
  replace F_offered_a0 := F_offered_a0.other W4 (Or.inr (slot_ne (Or.inr (hw _ (List.mem_of_getElem? (i := 20) rfl))) (Or.inr (hw _ (List.mem_of_getElem? (i := 24) rfl))) (by decide) (t := .long) (t' := .long) (by decide) (by decide)))
  replace F_accepted_a0 := F_accepted_a0.other W4 (Or.inr (slot_ne (Or.inr (hw _ (List.mem_of_getElem? (i := 22) rfl))) (Or.inr (hw _ (List.mem_of_getElem? (i := 24) rfl))) (by decide) (t := .long) (t' := .long) (by decide) (by decide)))
  replace F_meanResponseTime_a0 := F_meanResponseTime_a0.other W4 (Or.inr (slot_ne (Or.inr (hw _ (List.mem_of_getElem? (i := 26) rfl))) (Or.inr (hw _ (List.mem_of_getElem? (i := 24) rfl))) (by decide) (t := .double) (t' := .long) (by decide) (by decide)))
  replace F_meanInSystem_a0 := F_meanInSystem_a0.other W4 (Or.inr (slot_ne (Or.inr (hw _ (List.mem_of_getElem? (i := 28) rfl))) (Or.inr (hw _ (List.mem_of_getElem? (i := 24) rfl))) (by decide) (t := .double) (t' := .long) (by decide) (by decide)))
  replace F_workerSeconds_a0 := F_workerSeconds_a0.other W4 (Or.inr (slot_ne (Or.inr (hw _ (List.mem_of_getElem? (i := 30) rfl))) (Or.inr (hw _ (List.mem_of_getElem? (i := 24) rfl))) (by decide) (t := .double) (t' := .long) (by decide) (by decide)))
  replace F_targetSeconds_a0 := F_targetSeconds_a0.other W4 (Or.inr (slot_ne (Or.inr (hw _ (List.mem_of_getElem? (i := 32) rfl))) (Or.inr (hw _ (List.mem_of_getElem? (i := 24) rfl))) (by decide) (t := .double) (t' := .long) (by decide) (by decide)))
  have N4 := Fr.snoc X4 N3 g_a0
  replace ZZ := Nat.le_trans ZZ (Keep.of_wr W4).1
  replace KP := KP.wr W4 (Or.inl (List.mem_of_getElem? (i := 0) rfl))
  show Go _ _ _ _ _ _ _ _ (mkF m 20 #[.val (.ref a0), .val (.long j1), .second, .val (.long j2), .second, .val (.long j3), .second, .val (.double d4), .second, .val (.double d5), .second, .val (.double d6), .second, .val (.double d7), .second] [])
  refine Go.on (fun _ k => XS.aloadN X4.here hx rfl (hb hby d2_20) rfl rfl k) ?_
  show Go _ _ _ _ _ _ _ _ (mkF m 21 #[.val (.ref a0), .val (.long j1), .second, .val (.long j2), .second, .val (.long j3), .second, .val (.double d4), .second, .val (.double d5), .second, .val (.double d6), .second, .val (.double d7), .second] [(.ref a0)])
  refine Go.on (fun _ k => XS.dload X4.here hx rfl (hb hby d2_21) rfl k) ?_
  show Go _ _ _ _ _ _ _ _ (mkF m 23 #[.val (.ref a0), .val (.long j1), .second, .val (.long j2), .second, .val (.long j3), .second, .val (.double d4), .second, .val (.double d5), .second, .val (.double d6), .second, .val (.double d7), .second] [(.double d4), (.ref a0)])
  obtain ⟨T5, h5, X5, e5, W5, st5⟩ := putF X4 hx hZ hown (host := "") (Or.inl (hw _ (List.mem_of_getElem? (i := 25) rfl))) Via.refl e4 F_meanResponseTime_a0 E_a0 (Or.inr ⟨(hw _ (List.mem_of_getElem? (i := 26) rfl)), rfl, hnm⟩) (hw _ (List.mem_of_getElem? (i := 6) rfl)) (ty := .double) (by decide) rfl rfl (g := (mkF m 23 #[.val (.ref a0), .val (.long j1), .second, .val (.long j2), .second, .val (.long j3), .second, .val (.double d4), .second, .val (.double d5), .second, .val (.double d6), .second, .val (.double d7), .second] [(.double d4), (.ref a0)])) rfl rfl (hb hby d2_23)
  refine Go.on st5 ?_
  replace F_meanResponseTime_a0 := F_meanResponseTime_a0.same W5
  replace E_a0 := E_a0.wr W5
  replace F_offered_a0 := F_offered_a0.other W5 (Or.inr (slot_ne (Or.inr (hw _ (List.mem_of_getElem? (i := 20) rfl))) (Or.inr (hw _ (List.mem_of_getElem? (i := 26) rfl))) (by decide) (t := .long) (t' := .double) (by decide) (by decide)))
  replace F_accepted_a0 := F_accepted_a0.other W5 (Or.inr (slot_ne (Or.inr (hw _ (List.mem_of_getElem? (i := 22) rfl))) (Or.inr (hw _ (List.mem_of_getElem? (i := 26) rfl))) (by decide) (t := .long) (t' := .double) (by decide) (by decide)))
  replace F_rejected_a0 := F_rejected_a0.other W5 (Or.inr (slot_ne (Or.inr (hw _ (List.mem_of_getElem? (i := 24) rfl))) (Or.inr (hw _ (List.mem_of_getElem? (i := 26) rfl))) (by decide) (t := .long) (t' := .double) (by decide) (by decide)))
  replace F_meanInSystem_a0 := F_meanInSystem_a0.other W5 (Or.inr (slot_ne (Or.inr (hw _ (List.mem_of_getElem? (i := 28) rfl))) (Or.inr (hw _ (List.mem_of_getElem? (i := 26) rfl))) (by decide) (t := .double) (t' := .double) (by decide) (by decide)))
  replace F_workerSeconds_a0 := F_workerSeconds_a0.other W5 (Or.inr (slot_ne (Or.inr (hw _ (List.mem_of_getElem? (i := 30) rfl))) (Or.inr (hw _ (List.mem_of_getElem? (i := 26) rfl))) (by decide) (t := .double) (t' := .double) (by decide) (by decide)))
  replace F_targetSeconds_a0 := F_targetSeconds_a0.other W5 (Or.inr (slot_ne (Or.inr (hw _ (List.mem_of_getElem? (i := 32) rfl))) (Or.inr (hw _ (List.mem_of_getElem? (i := 26) rfl))) (by decide) (t := .double) (t' := .double) (by decide) (by decide)))
  have N5 := Fr.snoc X5 N4 g_a0
  replace ZZ := Nat.le_trans ZZ (Keep.of_wr W5).1
  replace KP := KP.wr W5 (Or.inl (List.mem_of_getElem? (i := 0) rfl))
  show Go _ _ _ _ _ _ _ _ (mkF m 26 #[.val (.ref a0), .val (.long j1), .second, .val (.long j2), .second, .val (.long j3), .second, .val (.double d4), .second, .val (.double d5), .second, .val (.double d6), .second, .val (.double d7), .second] [])
  refine Go.on (fun _ k => XS.aloadN X5.here hx rfl (hb hby d2_26) rfl rfl k) ?_
  show Go _ _ _ _ _ _ _ _ (mkF m 27 #[.val (.ref a0), .val (.long j1), .second, .val (.long j2), .second, .val (.long j3), .second, .val (.double d4), .second, .val (.double d5), .second, .val (.double d6), .second, .val (.double d7), .second] [(.ref a0)])
  refine Go.on (fun _ k => XS.dload X5.here hx rfl (hb hby d2_27) rfl k) ?_
  show Go _ _ _ _ _ _ _ _ (mkF m 29 #[.val (.ref a0), .val (.long j1), .second, .val (.long j2), .second, .val (.long j3), .second, .val (.double d4), .second, .val (.double d5), .second, .val (.double d6), .second, .val (.double d7), .second] [(.double d5), (.ref a0)])
  obtain ⟨T6, h6, X6, e6, W6, st6⟩ := putF X5 hx hZ hown (host := "") (Or.inl (hw _ (List.mem_of_getElem? (i := 27) rfl))) Via.refl e5 F_meanInSystem_a0 E_a0 (Or.inr ⟨(hw _ (List.mem_of_getElem? (i := 28) rfl)), rfl, hnm⟩) (hw _ (List.mem_of_getElem? (i := 6) rfl)) (ty := .double) (by decide) rfl rfl (g := (mkF m 29 #[.val (.ref a0), .val (.long j1), .second, .val (.long j2), .second, .val (.long j3), .second, .val (.double d4), .second, .val (.double d5), .second, .val (.double d6), .second, .val (.double d7), .second] [(.double d5), (.ref a0)])) rfl rfl (hb hby d2_29)
  refine Go.on st6 ?_
  replace F_meanInSystem_a0 := F_meanInSystem_a0.same W6
  replace E_a0 := E_a0.wr W6
  replace F_offered_a0 := F_offered_a0.other W6 (Or.inr (slot_ne (Or.inr (hw _ (List.mem_of_getElem? (i := 20) rfl))) (Or.inr (hw _ (List.mem_of_getElem? (i := 28) rfl))) (by decide) (t := .long) (t' := .double) (by decide) (by decide)))
  replace F_accepted_a0 := F_accepted_a0.other W6 (Or.inr (slot_ne (Or.inr (hw _ (List.mem_of_getElem? (i := 22) rfl))) (Or.inr (hw _ (List.mem_of_getElem? (i := 28) rfl))) (by decide) (t := .long) (t' := .double) (by decide) (by decide)))
  replace F_rejected_a0 := F_rejected_a0.other W6 (Or.inr (slot_ne (Or.inr (hw _ (List.mem_of_getElem? (i := 24) rfl))) (Or.inr (hw _ (List.mem_of_getElem? (i := 28) rfl))) (by decide) (t := .long) (t' := .double) (by decide) (by decide)))
  replace F_meanResponseTime_a0 := F_meanResponseTime_a0.other W6 (Or.inr (slot_ne (Or.inr (hw _ (List.mem_of_getElem? (i := 26) rfl))) (Or.inr (hw _ (List.mem_of_getElem? (i := 28) rfl))) (by decide) (t := .double) (t' := .double) (by decide) (by decide)))
  replace F_workerSeconds_a0 := F_workerSeconds_a0.other W6 (Or.inr (slot_ne (Or.inr (hw _ (List.mem_of_getElem? (i := 30) rfl))) (Or.inr (hw _ (List.mem_of_getElem? (i := 28) rfl))) (by decide) (t := .double) (t' := .double) (by decide) (by decide)))
  replace F_targetSeconds_a0 := F_targetSeconds_a0.other W6 (Or.inr (slot_ne (Or.inr (hw _ (List.mem_of_getElem? (i := 32) rfl))) (Or.inr (hw _ (List.mem_of_getElem? (i := 28) rfl))) (by decide) (t := .double) (t' := .double) (by decide) (by decide)))
  have N6 := Fr.snoc X6 N5 g_a0
  replace ZZ := Nat.le_trans ZZ (Keep.of_wr W6).1
  replace KP := KP.wr W6 (Or.inl (List.mem_of_getElem? (i := 0) rfl))
  show Go _ _ _ _ _ _ _ _ (mkF m 32 #[.val (.ref a0), .val (.long j1), .second, .val (.long j2), .second, .val (.long j3), .second, .val (.double d4), .second, .val (.double d5), .second, .val (.double d6), .second, .val (.double d7), .second] [])
  refine Go.on (fun _ k => XS.aloadN X6.here hx rfl (hb hby d2_32) rfl rfl k) ?_
  show Go _ _ _ _ _ _ _ _ (mkF m 33 #[.val (.ref a0), .val (.long j1), .second, .val (.long j2), .second, .val (.long j3), .second, .val (.double d4), .second, .val (.double d5), .second, .val (.double d6), .second, .val (.double d7), .second] [(.ref a0)])
  refine Go.on (fun _ k => XS.dload X6.here hx rfl (hb hby d2_33) rfl k) ?_
  show Go _ _ _ _ _ _ _ _ (mkF m 35 #[.val (.ref a0), .val (.long j1), .second, .val (.long j2), .second, .val (.long j3), .second, .val (.double d4), .second, .val (.double d5), .second, .val (.double d6), .second, .val (.double d7), .second] [(.double d6), (.ref a0)])
  obtain ⟨T7, h7, X7, e7, W7, st7⟩ := putF X6 hx hZ hown (host := "") (Or.inl (hw _ (List.mem_of_getElem? (i := 29) rfl))) Via.refl e6 F_workerSeconds_a0 E_a0 (Or.inr ⟨(hw _ (List.mem_of_getElem? (i := 30) rfl)), rfl, hnm⟩) (hw _ (List.mem_of_getElem? (i := 6) rfl)) (ty := .double) (by decide) rfl rfl (g := (mkF m 35 #[.val (.ref a0), .val (.long j1), .second, .val (.long j2), .second, .val (.long j3), .second, .val (.double d4), .second, .val (.double d5), .second, .val (.double d6), .second, .val (.double d7), .second] [(.double d6), (.ref a0)])) rfl rfl (hb hby d2_35)
  refine Go.on st7 ?_
  replace F_workerSeconds_a0 := F_workerSeconds_a0.same W7
  replace E_a0 := E_a0.wr W7
  replace F_offered_a0 := F_offered_a0.other W7 (Or.inr (slot_ne (Or.inr (hw _ (List.mem_of_getElem? (i := 20) rfl))) (Or.inr (hw _ (List.mem_of_getElem? (i := 30) rfl))) (by decide) (t := .long) (t' := .double) (by decide) (by decide)))
  replace F_accepted_a0 := F_accepted_a0.other W7 (Or.inr (slot_ne (Or.inr (hw _ (List.mem_of_getElem? (i := 22) rfl))) (Or.inr (hw _ (List.mem_of_getElem? (i := 30) rfl))) (by decide) (t := .long) (t' := .double) (by decide) (by decide)))
  replace F_rejected_a0 := F_rejected_a0.other W7 (Or.inr (slot_ne (Or.inr (hw _ (List.mem_of_getElem? (i := 24) rfl))) (Or.inr (hw _ (List.mem_of_getElem? (i := 30) rfl))) (by decide) (t := .long) (t' := .double) (by decide) (by decide)))
  replace F_meanResponseTime_a0 := F_meanResponseTime_a0.other W7 (Or.inr (slot_ne (Or.inr (hw _ (List.mem_of_getElem? (i := 26) rfl))) (Or.inr (hw _ (List.mem_of_getElem? (i := 30) rfl))) (by decide) (t := .double) (t' := .double) (by decide) (by decide)))
  replace F_meanInSystem_a0 := F_meanInSystem_a0.other W7 (Or.inr (slot_ne (Or.inr (hw _ (List.mem_of_getElem? (i := 28) rfl))) (Or.inr (hw _ (List.mem_of_getElem? (i := 30) rfl))) (by decide) (t := .double) (t' := .double) (by decide) (by decide)))
  replace F_targetSeconds_a0 := F_targetSeconds_a0.other W7 (Or.inr (slot_ne (Or.inr (hw _ (List.mem_of_getElem? (i := 32) rfl))) (Or.inr (hw _ (List.mem_of_getElem? (i := 30) rfl))) (by decide) (t := .double) (t' := .double) (by decide) (by decide)))
  have N7 := Fr.snoc X7 N6 g_a0
  replace ZZ := Nat.le_trans ZZ (Keep.of_wr W7).1
  replace KP := KP.wr W7 (Or.inl (List.mem_of_getElem? (i := 0) rfl))
  show Go _ _ _ _ _ _ _ _ (mkF m 38 #[.val (.ref a0), .val (.long j1), .second, .val (.long j2), .second, .val (.long j3), .second, .val (.double d4), .second, .val (.double d5), .second, .val (.double d6), .second, .val (.double d7), .second] [])
  refine Go.on (fun _ k => XS.aloadN X7.here hx rfl (hb hby d2_38) rfl rfl k) ?_
  show Go _ _ _ _ _ _ _ _ (mkF m 39 #[.val (.ref a0), .val (.long j1), .second, .val (.long j2), .second, .val (.long j3), .second, .val (.double d4), .second, .val (.double d5), .second, .val (.double d6), .second, .val (.double d7), .second] [(.ref a0)])
  refine Go.on (fun _ k => XS.dload X7.here hx rfl (hb hby d2_39) rfl k) ?_
  show Go _ _ _ _ _ _ _ _ (mkF m 41 #[.val (.ref a0), .val (.long j1), .second, .val (.long j2), .second, .val (.long j3), .second, .val (.double d4), .second, .val (.double d5), .second, .val (.double d6), .second, .val (.double d7), .second] [(.double d7), (.ref a0)])
  obtain ⟨T8, h8, X8, e8, W8, st8⟩ := putF X7 hx hZ hown (host := "") (Or.inl (hw _ (List.mem_of_getElem? (i := 31) rfl))) Via.refl e7 F_targetSeconds_a0 E_a0 (Or.inr ⟨(hw _ (List.mem_of_getElem? (i := 32) rfl)), rfl, hnm⟩) (hw _ (List.mem_of_getElem? (i := 6) rfl)) (ty := .double) (by decide) rfl rfl (g := (mkF m 41 #[.val (.ref a0), .val (.long j1), .second, .val (.long j2), .second, .val (.long j3), .second, .val (.double d4), .second, .val (.double d5), .second, .val (.double d6), .second, .val (.double d7), .second] [(.double d7), (.ref a0)])) rfl rfl (hb hby d2_41)
  refine Go.on st8 ?_
  replace F_targetSeconds_a0 := F_targetSeconds_a0.same W8
  replace E_a0 := E_a0.wr W8
  replace F_offered_a0 := F_offered_a0.other W8 (Or.inr (slot_ne (Or.inr (hw _ (List.mem_of_getElem? (i := 20) rfl))) (Or.inr (hw _ (List.mem_of_getElem? (i := 32) rfl))) (by decide) (t := .long) (t' := .double) (by decide) (by decide)))
  replace F_accepted_a0 := F_accepted_a0.other W8 (Or.inr (slot_ne (Or.inr (hw _ (List.mem_of_getElem? (i := 22) rfl))) (Or.inr (hw _ (List.mem_of_getElem? (i := 32) rfl))) (by decide) (t := .long) (t' := .double) (by decide) (by decide)))
  replace F_rejected_a0 := F_rejected_a0.other W8 (Or.inr (slot_ne (Or.inr (hw _ (List.mem_of_getElem? (i := 24) rfl))) (Or.inr (hw _ (List.mem_of_getElem? (i := 32) rfl))) (by decide) (t := .long) (t' := .double) (by decide) (by decide)))
  replace F_meanResponseTime_a0 := F_meanResponseTime_a0.other W8 (Or.inr (slot_ne (Or.inr (hw _ (List.mem_of_getElem? (i := 26) rfl))) (Or.inr (hw _ (List.mem_of_getElem? (i := 32) rfl))) (by decide) (t := .double) (t' := .double) (by decide) (by decide)))
  replace F_meanInSystem_a0 := F_meanInSystem_a0.other W8 (Or.inr (slot_ne (Or.inr (hw _ (List.mem_of_getElem? (i := 28) rfl))) (Or.inr (hw _ (List.mem_of_getElem? (i := 32) rfl))) (by decide) (t := .double) (t' := .double) (by decide) (by decide)))
  replace F_workerSeconds_a0 := F_workerSeconds_a0.other W8 (Or.inr (slot_ne (Or.inr (hw _ (List.mem_of_getElem? (i := 30) rfl))) (Or.inr (hw _ (List.mem_of_getElem? (i := 32) rfl))) (by decide) (t := .double) (t' := .double) (by decide) (by decide)))
  have N8 := Fr.snoc X8 N7 g_a0
  replace ZZ := Nat.le_trans ZZ (Keep.of_wr W8).1
  replace KP := KP.wr W8 (Or.inl (List.mem_of_getElem? (i := 0) rfl))
  show Go _ _ _ _ _ _ _ _ (mkF m 44 #[.val (.ref a0), .val (.long j1), .second, .val (.long j2), .second, .val (.long j3), .second, .val (.double d4), .second, .val (.double d5), .second, .val (.double d6), .second, .val (.double d7), .second] [])
  refine Go.ret0 X8 hx Bd.returns (hb hby d2_44) ?_ (by rw [hK1]; decide) (by rw [hK2]; decide)
  rw [e8, ← hQQ]
  exact ⟨rfl, N8, KP, E_a0, F_offered_a0, F_accepted_a0, F_rejected_a0, F_meanResponseTime_a0, F_meanInSystem_a0, F_workerSeconds_a0, F_targetSeconds_a0⟩
theorem d5_0 : decode prog_47_method_2_code 0 = .ok (.aload_n 0, 1) := by decide +kernel
theorem d5_1 : decode prog_47_method_2_code 1 = .ok (.getfield 7, 3) := by decide +kernel
theorem d5_4 : decode prog_47_method_2_code 4 = .ok (.lconst 0, 1) := by decide +kernel
theorem d5_5 : decode prog_47_method_2_code 5 = .ok (.lcmp, 1) := by decide +kernel
theorem d5_6 : decode prog_47_method_2_code 6 = .ok (.ifCond .ne 7, 3) := by decide +kernel
theorem d5_9 : decode prog_47_method_2_code 9 = .ok (.dconst 0, 1) := by decide +kernel
theorem d5_10 : decode prog_47_method_2_code 10 = .ok (.goto 14, 3) := by decide +kernel
theorem d5_13 : decode prog_47_method_2_code 13 = .ok (.aload_n 0, 1) := by decide +kernel
theorem d5_14 : decode prog_47_method_2_code 14 = .ok (.getfield 16, 3) := by decide +kernel
theorem d5_17 : decode prog_47_method_2_code 17 = .ok (.l2d, 1) := by decide +kernel
theorem d5_18 : decode prog_47_method_2_code 18 = .ok (.aload_n 0, 1) := by decide +kernel
theorem d5_19 : decode prog_47_method_2_code 19 = .ok (.getfield 7, 3) := by decide +kernel
theorem d5_22 : decode prog_47_method_2_code 22 = .ok (.l2d, 1) := by decide +kernel
theorem d5_23 : decode prog_47_method_2_code 23 = .ok (.ddiv, 1) := by decide +kernel
theorem d5_24 : decode prog_47_method_2_code 24 = .ok (.dreturn, 1) := by decide +kernel
theorem ef_rm5 (m : MethodId) (a0 : Addr) : entryFrame m #[(.ref a0)] 1 = mkF m 0 #[.val (.ref a0)] [] := by first | (simp [entryFrame, mkF, argsToLocals, Value.category]; done) | rfl
def Q_rm5 (Z : State) (a0 : Addr) (ofd : Int64) (rjd : Int64) (h0 : Heap) (n0 : Nat) (v : Option Value) (h : Heap) (L : List Loc) : Prop := v = some (.double (shareV ofd rjd)) ∧ Fr n0 L ∧ h = h0
set_option maxRecDepth 65536 in
set_option maxHeartbeats 40000000 in
theorem rm5 (l : Launch) (Z : State) (aw : Array Value) (hw : ∀ d ∈ tables_1, d.before aw Z = true) (ws : List Jvm.Cond) (a0 : Addr) (ofd : Int64) (rjd : Int64) (h0 : Heap) (n0 : Nat) (Z0 : n0 ≤ h0.size) (F_offered_a0 : Fld Z h0 a0 "com/example/deliberate_scaler/deliberatescaler/model/Simulation$Outcome" "offered" "J" (.long ofd)) (F_rejected_a0 : Fld Z h0 a0 "com/example/deliberate_scaler/deliberatescaler/model/Simulation$Outcome" "rejected" "J" (.long rjd)) :
    MetFree l (⟨"com/example/deliberate_scaler/deliberatescaler/model/Simulation$Outcome", "rejectedShare", "()D"⟩ : MethodName) (head1 (Jvm.Cond.code (⟨"com/example/deliberate_scaler/deliberatescaler/model/Simulation$Outcome", "rejectedShare", "()D"⟩ : MethodName) prog_47_method_2_code 1 (some .double) :: ws) ({ frames := 0, cells := 0, slots := 0, locals := 0 } : Room)) (fun a U => a = #[(.ref a0)] ∧ Z.Warmed39 U.vm ∧ U.heap = h0) (fun _ _ _ _ _ => True) (fun _ U o U' => ∃ v L, o = .returned v ∧ Q_rm5 Z a0 ofd rjd h0 n0 v U'.heap L ∧ FrameEnd U o U' L ({ frames := 0, cells := 0, slots := 0, locals := 0 } : Room).cells ({ frames := 0, cells := 0, slots := 0, locals := 0 } : Room).slots) := by
  refine MetFree.of_bodySF (plainFor_of_name pn_1) hisR ?_
  intro p e s m args below meth c s₁ Bd hml0 hP hK
  obtain ⟨rfl, hZ, hh⟩ := hP
  have hx := Bd.exec
  have hby := Bd.bytes
  have hml : c.maxLocals = 1 := hml0
  have hown : s.vm.findClass "com/example/deliberate_scaler/deliberatescaler/model/Simulation$Outcome" = some m.cls := findClass_of_methodNamed Bd.named
  have hnm := (name_of_methodNamed Bd.named Bd.method).1
  have hlk : meth.locks = false := BodyLoose.notSynchronized Bd
  have X0 : Stand p l e ({ frames := 0, cells := 0, slots := 0, locals := 0 } : Room) s m #[(.ref a0)] below meth c s₁ [] 0 0 := Stand.of_body Bd
  have e0 : s₁.heap = h0 := by rw [← hh, Bd.state]; rfl
  have N0 := Fr.nil n0
  have ZZ := Z0
  show Go p e below s ({ frames := 0, cells := 0, slots := 0, locals := 0 } : Room).cells ({ frames := 0, cells := 0, slots := 0, locals := 0 } : Room).slots (fun v h L => Q_rm5 Z a0 ofd rjd h0 n0 v h L) s₁ (entryFrame m #[(.ref a0)] 1)
  refine Go.cast (ef_rm5 m a0) ?_
  refine Go.gen ?_
  intro K1 K2 QQ hK1 hK2 hQQ
  refine Go.on (fun _ k => XS.aloadN X0.here hx rfl (hb hby d5_0) rfl rfl k) ?_
  show Go _ _ _ _ _ _ _ _ (mkF m 1 #[.val (.ref a0)] [(.ref a0)])
  obtain ⟨T1, X1, e1, st1⟩ := getF X0 hx hZ hown (host := "") (Or.inl (hw _ (List.mem_of_getElem? (i := 19) rfl))) Via.refl e0 F_offered_a0 (g := (mkF m 1 #[.val (.ref a0)] [(.ref a0)])) rfl rfl (hb hby d5_1)
  refine Go.on st1 ?_
  show Go _ _ _ _ _ _ _ _ (mkF m 4 #[.val (.ref a0)] [(.long ofd)])
  refine Go.on (fun _ k => XS.lconst X1.here hx rfl (hb hby d5_4) k) ?_
  show Go _ _ _ _ _ _ _ _ (mkF m 5 #[.val (.ref a0)] [(.long (0 : Int64)), (.long ofd)])
  refine Go.on (fun _ k => XS.lcmp X1.here hx rfl (hb hby d5_5) rfl k) ?_
  show Go _ _ _ _ _ _ _ _ (mkF m 6 #[.val (.ref a0)] [(.int (lcmpW ofd (0 : Int64)))])
  by_cases hc2 : ofd = (0 : Int64)
  · -- pc 6 yes
    refine Go.on (fun _ k => XS.ifNo X1.here hx rfl (hb hby d5_6) rfl ((if0 _ _).trans (teq (own_lc_eq.mpr hc2)).2) k) ?_
    show Go _ _ _ _ _ _ _ _ (mkF m 9 #[.val (.ref a0)] [])
    refine Go.on (fun _ k => XS.dconst0 X1.here hx rfl (v := (0 : UInt64)) (hb hby d5_9) rfl k) ?_
    show Go _ _ _ _ _ _ _ _ (mkF m 10 #[.val (.ref a0)] [(.double (0 : UInt64))])
    refine Go.on (fun _ k => XS.goto X1.here hx rfl (pc0 := 10) (pc' := 24) rfl (hb hby d5_10) (by decide) (by decide) k) ?_
    show Go _ _ _ _ _ _ _ _ (mkF m 24 #[.val (.ref a0)] [(.double (0 : UInt64))])
    refine Go.retV X1 hx Bd.returns rfl (Or.inr (Or.inr (Or.inl ⟨rfl, rfl, _, rfl⟩))) (hb hby d5_24) ?_ (by rw [hK1]; decide) (by rw [hK2]; decide)
    rw [e1, ← hQQ]
    refine ⟨?_, N0, rfl⟩
    show _ = some (Value.double (shareV ofd rjd))
    unfold shareV; rw [if_pos hc2]
  · -- pc 6 no
    refine Go.on (fun _ k => XS.ifYes X1.here hx rfl (pc0 := 6) (pc' := 13) rfl (hb hby d5_6) rfl ((if0 _ _).trans (feq (fun q => hc2 (own_lc_eq.mp q))).2) (by decide) (by decide) k) ?_
    show Go _ _ _ _ _ _ _ _ (mkF m 13 #[.val (.ref a0)] [])
    refine Go.on (fun _ k => XS.aloadN X1.here hx rfl (hb hby d5_13) rfl rfl k) ?_
    show Go _ _ _ _ _ _ _ _ (mkF m 14 #[.val (.ref a0)] [(.ref a0)])
    obtain ⟨T3, X3, e3, st3⟩ := getF X1 hx hZ hown (host := "") (Or.inl (hw _ (List.mem_of_getElem? (i := 23) rfl))) Via.refl e1 F_rejected_a0 (g := (mkF m 14 #[.val (.ref a0)] [(.ref a0)])) rfl rfl (hb hby d5_14)
    refine Go.on st3 ?_
    show Go _ _ _ _ _ _ _ _ (mkF m 17 #[.val (.ref a0)] [(.long rjd)])
    refine Go.on (fun _ k => XS.l2dS X3.here hx rfl (hb hby d5_17) rfl rfl k) ?_
    show Go _ _ _ _ _ _ _ _ (mkF m 18 #[.val (.ref a0)] [(.double (FP.l2d rjd))])
    refine Go.on (fun _ k => XS.aloadN X3.here hx rfl (hb hby d5_18) rfl rfl k) ?_
    show Go _ _ _ _ _ _ _ _ (mkF m 19 #[.val (.ref a0)] [(.ref a0), (.double (FP.l2d rjd))])
    obtain ⟨T4, X4, e4, st4⟩ := getF X3 hx hZ hown (host := "") (Or.inl (hw _ (List.mem_of_getElem? (i := 19) rfl))) Via.refl e3 F_offered_a0 (g := (mkF m 19 #[.val (.ref a0)] [(.ref a0), (.double (FP.l2d rjd))])) rfl rfl (hb hby d5_19)
    refine Go.on st4 ?_
    show Go _ _ _ _ _ _ _ _ (mkF m 22 #[.val (.ref a0)] [(.long ofd), (.double (FP.l2d rjd))])
    refine Go.on (fun _ k => XS.l2dS X4.here hx rfl (hb hby d5_22) rfl rfl k) ?_
    show Go _ _ _ _ _ _ _ _ (mkF m 23 #[.val (.ref a0)] [(.double (FP.l2d ofd)), (.double (FP.l2d rjd))])
    refine Go.on (fun _ k => XS.ddivS X4.here hx rfl (hb hby d5_23) rfl (own_nnsh hc2) rfl k) ?_
    show Go _ _ _ _ _ _ _ _ (mkF m 24 #[.val (.ref a0)] [(.double (FP.ddiv (FP.l2d rjd) (FP.l2d ofd)))])
    refine Go.retV X4 hx Bd.returns rfl (Or.inr (Or.inr (Or.inl ⟨rfl, rfl, _, rfl⟩))) (hb hby d5_24) ?_ (by rw [hK1]; decide) (by rw [hK2]; decide)
    rw [e4, ← hQQ]
    refine ⟨?_, N0, rfl⟩
    show _ = some (Value.double (shareV ofd rjd))
    unfold shareV; rw [if_neg hc2]
theorem pd_1 : parseMethodDescriptor "(JJJDDDD)V" = some ⟨[.long, .long, .long, .double, .double, .double, .double], none⟩ := by decide +kernel
theorem pd_2 : parseMethodDescriptor "()D" = some ⟨[], some .double⟩ := by decide +kernel
theorem d1_0 : decode method_2_code 0 = .ok (.new 7, 3) := by decide +kernel
theorem d1_3 : decode method_2_code 3 = .ok (.dup, 1) := by decide +kernel
theorem d1_4 : decode method_2_code 4 = .ok (.lload_n 0, 1) := by decide +kernel
theorem d1_5 : decode method_2_code 5 = .ok (.lload_n 0, 1) := by decide +kernel
theorem d1_6 : decode method_2_code 6 = .ok (.lload_n 2, 1) := by decide +kernel
theorem d1_7 : decode method_2_code 7 = .ok (.lsub, 1) := by decide +kernel
theorem d1_8 : decode method_2_code 8 = .ok (.lload_n 2, 1) := by decide +kernel
theorem d1_9 : decode method_2_code 9 = .ok (.iload 4, 2) := by decide +kernel
theorem d1_11 : decode method_2_code 11 = .ok (.bipush 7, 2) := by decide +kernel
theorem d1_13 : decode method_2_code 13 = .ok (.iand, 1) := by decide +kernel
theorem d1_14 : decode method_2_code 14 = .ok (.i2d, 1) := by decide +kernel
theorem d1_15 : decode method_2_code 15 = .ok (.dconst 0, 1) := by decide +kernel
theorem d1_16 : decode method_2_code 16 = .ok (.dconst 1, 1) := by decide +kernel
theorem d1_17 : decode method_2_code 17 = .ok (.dconst 1, 1) := by decide +kernel
theorem d1_18 : decode method_2_code 18 = .ok (.invokespecial 9, 3) := by decide +kernel
theorem d1_21 : decode method_2_code 21 = .ok (.invokevirtual 12, 3) := by decide +kernel
theorem d1_24 : decode method_2_code 24 = .ok (.dreturn, 1) := by decide +kernel
theorem pn_2 : plainName "com/example/deliberate_scaler/deliberatescaler/model/OutcomeRejectedSharePinLaw" = true := by first | (simp [plainName, overriddenIn]; done) | decide +kernel
theorem ef_rm1 (m : MethodId) (j0 : Int64) (j1 : Int64) (i2 : Int32) : entryFrame m #[(.long j0), (.long j1), (.int i2)] 5 = mkF m 0 #[.val (.long j0), .second, .val (.long j1), .second, .val (.int i2)] [] := by first | (simp [entryFrame, mkF, argsToLocals, Value.category]; done) | rfl
def Q_rm1 (Z : State) (j0 : Int64) (j1 : Int64) (i2 : Int32) (h0 : Heap) (n0 : Nat) (v : Option Value) (h : Heap) (L : List Loc) : Prop := v = some (.double (shareV j0 j1)) ∧ Fr n0 L ∧ Keep h0 h []
set_option maxRecDepth 65536 in
set_option maxHeartbeats 40000000 in
theorem rm1 (l : Launch) (Z : State) (aw : Array Value) (hw : ∀ d ∈ tables_1, d.before aw Z = true) (ws : List Jvm.Cond) (j0 : Int64) (j1 : Int64) (i2 : Int32) (h0 : Heap) (n0 : Nat) (Z0 : n0 ≤ h0.size) :
    MetFree l (⟨"com/example/deliberate_scaler/deliberatescaler/model/OutcomeRejectedSharePinLaw", "share", "(JJI)D"⟩ : MethodName) (head1 (Jvm.Cond.code (⟨"com/example/deliberate_scaler/deliberatescaler/model/OutcomeRejectedSharePinLaw", "share", "(JJI)D"⟩ : MethodName) method_2_code 5 (some .double) :: ws) ({ frames := 3, cells := 1, slots := 7, locals := 51 } : Room)) (fun a U => a = #[(.long j0), (.long j1), (.int i2)] ∧ Z.Warmed39 U.vm ∧ U.heap = h0) (fun _ _ _ _ _ => True) (fun _ U o U' => ∃ v L, o = .returned v ∧ Q_rm1 Z j0 j1 i2 h0 n0 v U'.heap L ∧ FrameEnd U o U' L ({ frames := 3, cells := 1, slots := 7, locals := 51 } : Room).cells ({ frames := 3, cells := 1, slots := 7, locals := 51 } : Room).slots) := by
  refine MetFree.of_bodySF (plainFor_of_name pn_2) hisR ?_
  intro p e s m args below meth c s₁ Bd hml0 hP hK
  obtain ⟨rfl, hZ, hh⟩ := hP
  have hx := Bd.exec
  have hby := Bd.bytes
  have hml : c.maxLocals = 5 := hml0
  have hown : s.vm.findClass "com/example/deliberate_scaler/deliberatescaler/model/OutcomeRejectedSharePinLaw" = some m.cls := findClass_of_methodNamed Bd.named
  have hnm := (name_of_methodNamed Bd.named Bd.method).1
  have hlk : meth.locks = false := BodyLoose.notSynchronized Bd
  have X0 : Stand p l e ({ frames := 3, cells := 1, slots := 7, locals := 51 } : Room) s m #[(.long j0), (.long j1), (.int i2)] below meth c s₁ [] 0 0 := Stand.of_body Bd
  have e0 : s₁.heap = h0 := by rw [← hh, Bd.state]; rfl
  have N0 := Fr.nil n0
  have ZZ := Z0
  show Go p e below s ({ frames := 3, cells := 1, slots := 7, locals := 51 } : Room).cells ({ frames := 3, cells := 1, slots := 7, locals := 51 } : Room).slots (fun v h L => Q_rm1 Z j0 j1 i2 h0 n0 v h L) s₁ (entryFrame m #[(.long j0), (.long j1), (.int i2)] 5)
  refine Go.cast (ef_rm1 m j0 j1 i2) ?_
  refine Go.gen ?_
  intro K1 K2 QQ hK1 hK2 hQQ
  have KP : Keep h0 h0 [] := Keep.refl _ _
  obtain ⟨T1, h1, X1, e1, E1, A1, D1, -, st1⟩ := newO X0 hx hZ hown (hw _ (List.mem_of_getElem? (i := 5) rfl)) (hw _ (List.mem_of_getElem? (i := 6) rfl)) (hw _ (List.mem_of_getElem? (i := 7) rfl)) e0 (g := (mkF m 0 #[.val (.long j0), .second, .val (.long j1), .second, .val (.int i2)] [])) rfl (hb hby d1_0) (by decide) (by decide)
  obtain ⟨b1, g1⟩ : ∃ z, z = h0.size := ⟨_, rfl⟩
  have g_b1 : n0 ≤ b1 := Nat.le_trans ZZ (Nat.le_of_eq g1.symm)
  have sz_b1 : h0.size ≤ b1 := Nat.le_trans KP.1 (Nat.le_of_eq g1.symm)
  rw [← g1] at A1 D1 st1
  replace ZZ := Nat.le_trans ZZ E1.1
  replace KP := KP.ext E1
  have E_b1 := A1
  have F_offered_b1 : Fld Z h1 b1 "com/example/deliberate_scaler/deliberatescaler/model/Simulation$Outcome" "offered" "J" (.long (0 : Int64)) := D1 (Or.inr (hw _ (List.mem_of_getElem? (i := 20) rfl))) (ty := .long) (by decide)
  have F_accepted_b1 : Fld Z h1 b1 "com/example/deliberate_scaler/deliberatescaler/model/Simulation$Outcome" "accepted" "J" (.long (0 : Int64)) := D1 (Or.inr (hw _ (List.mem_of_getElem? (i := 22) rfl))) (ty := .long) (by decide)
  have F_rejected_b1 : Fld Z h1 b1 "com/example/deliberate_scaler/deliberatescaler/model/Simulation$Outcome" "rejected" "J" (.long (0 : Int64)) := D1 (Or.inr (hw _ (List.mem_of_getElem? (i := 24) rfl))) (ty := .long) (by decide)
  have F_meanResponseTime_b1 : Fld Z h1 b1 "com/example/deliberate_scaler/deliberatescaler/model/Simulation$Outcome" "meanResponseTime" "D" (.double (0 : UInt64)) := D1 (Or.inr (hw _ (List.mem_of_getElem? (i := 26) rfl))) (ty := .double) (by decide)
  have F_meanInSystem_b1 : Fld Z h1 b1 "com/example/deliberate_scaler/deliberatescaler/model/Simulation$Outcome" "meanInSystem" "D" (.double (0 : UInt64)) := D1 (Or.inr (hw _ (List.mem_of_getElem? (i := 28) rfl))) (ty := .double) (by decide)
  have F_workerSeconds_b1 : Fld Z h1 b1 "com/example/deliberate_scaler/deliberatescaler/model/Simulation$Outcome" "workerSeconds" "D" (.double (0 : UInt64)) := D1 (Or.inr (hw _ (List.mem_of_getElem? (i := 30) rfl))) (ty := .double) (by decide)
  have F_targetSeconds_b1 : Fld Z h1 b1 "com/example/deliberate_scaler/deliberatescaler/model/Simulation$Outcome" "targetSeconds" "D" (.double (0 : UInt64)) := D1 (Or.inr (hw _ (List.mem_of_getElem? (i := 32) rfl))) (ty := .double) (by decide)
  refine Go.on st1 ?_
  show Go _ _ _ _ _ _ _ _ (mkF m 3 #[.val (.long j0), .second, .val (.long j1), .second, .val (.int i2)] [(.ref b1)])
  refine Go.on (fun _ k => XS.dup X1.here hx rfl (hb hby d1_3) rfl rfl k) ?_
  show Go _ _ _ _ _ _ _ _ (mkF m 4 #[.val (.long j0), .second, .val (.long j1), .second, .val (.int i2)] [(.ref b1), (.ref b1)])
  refine Go.on (fun _ k => XS.lloadN X1.here hx rfl (hb hby d1_4) rfl k) ?_
  show Go _ _ _ _ _ _ _ _ (mkF m 5 #[.val (.long j0), .second, .val (.long j1), .second, .val (.int i2)] [(.long j0), (.ref b1), (.ref b1)])
  refine Go.on (fun _ k => XS.lloadN X1.here hx rfl (hb hby d1_5) rfl k) ?_
  show Go _ _ _ _ _ _ _ _ (mkF m 6 #[.val (.long j0), .second, .val (.long j1), .second, .val (.int i2)] [(.long j0), (.long j0), (.ref b1), (.ref b1)])
  refine Go.on (fun _ k => XS.lloadN X1.here hx rfl (hb hby d1_6) rfl k) ?_
  show Go _ _ _ _ _ _ _ _ (mkF m 7 #[.val (.long j0), .second, .val (.long j1), .second, .val (.int i2)] [(.long j1), (.long j0), (.long j0), (.ref b1), (.ref b1)])
  refine Go.on (fun _ k => XS.lsub X1.here hx rfl (hb hby d1_7) rfl k) ?_
  show Go _ _ _ _ _ _ _ _ (mkF m 8 #[.val (.long j0), .second, .val (.long j1), .second, .val (.int i2)] [(.long (j0 - j1)), (.long j0), (.ref b1), (.ref b1)])
  refine Go.on (fun _ k => XS.lloadN X1.here hx rfl (hb hby d1_8) rfl k) ?_
  show Go _ _ _ _ _ _ _ _ (mkF m 9 #[.val (.long j0), .second, .val (.long j1), .second, .val (.int i2)] [(.long j1), (.long (j0 - j1)), (.long j0), (.ref b1), (.ref b1)])
  refine Go.on (fun _ k => XS.iload X1.here hx rfl (hb hby d1_9) rfl k) ?_
  show Go _ _ _ _ _ _ _ _ (mkF m 11 #[.val (.long j0), .second, .val (.long j1), .second, .val (.int i2)] [(.int i2), (.long j1), (.long (j0 - j1)), (.long j0), (.ref b1), (.ref b1)])
  refine Go.on (fun _ k => XS.bipush X1.here hx rfl (hb hby d1_11) k) ?_
  show Go _ _ _ _ _ _ _ _ (mkF m 13 #[.val (.long j0), .second, .val (.long j1), .second, .val (.int i2)] [(.int (7 : Int32)), (.int i2), (.long j1), (.long (j0 - j1)), (.long j0), (.ref b1), (.ref b1)])
  refine Go.on (fun _ k => XS.iand X1.here hx rfl (hb hby d1_13) rfl k) ?_
  show Go _ _ _ _ _ _ _ _ (mkF m 14 #[.val (.long j0), .second, .val (.long j1), .second, .val (.int i2)] [(.int (i2 &&& (7 : Int32))), (.long j1), (.long (j0 - j1)), (.long j0), (.ref b1), (.ref b1)])
  refine Go.on (fun _ k => XS.i2dS X1.here hx rfl (hb hby d1_14) rfl rfl k) ?_
  show Go _ _ _ _ _ _ _ _ (mkF m 15 #[.val (.long j0), .second, .val (.long j1), .second, .val (.int i2)] [(.double (FP.i2d (i2 &&& (7 : Int32)))), (.long j1), (.long (j0 - j1)), (.long j0), (.ref b1), (.ref b1)])
  refine Go.on (fun _ k => XS.dconst0 X1.here hx rfl (v := (0 : UInt64)) (hb hby d1_15) rfl k) ?_
  show Go _ _ _ _ _ _ _ _ (mkF m 16 #[.val (.long j0), .second, .val (.long j1), .second, .val (.int i2)] [(.double (0 : UInt64)), (.double (FP.i2d (i2 &&& (7 : Int32)))), (.long j1), (.long (j0 - j1)), (.long j0), (.ref b1), (.ref b1)])
  refine Go.on (fun _ k => XS.dconst1 X1.here hx rfl (v := (4607182418800017408 : UInt64)) (hb hby d1_16) rfl k) ?_
  show Go _ _ _ _ _ _ _ _ (mkF m 17 #[.val (.long j0), .second, .val (.long j1), .second, .val (.int i2)] [(.double (4607182418800017408 : UInt64)), (.double (0 : UInt64)), (.double (FP.i2d (i2 &&& (7 : Int32)))), (.long j1), (.long (j0 - j1)), (.long j0), (.ref b1), (.ref b1)])
  refine Go.on (fun _ k => XS.dconst1 X1.here hx rfl (v := (4607182418800017408 : UInt64)) (hb hby d1_17) rfl k) ?_
  show Go _ _ _ _ _ _ _ _ (mkF m 18 #[.val (.long j0), .second, .val (.long j1), .second, .val (.int i2)] [(.double (4607182418800017408 : UInt64)), (.double (4607182418800017408 : UInt64)), (.double (0 : UInt64)), (.double (FP.i2d (i2 &&& (7 : Int32)))), (.long j1), (.long (j0 - j1)), (.long j0), (.ref b1), (.ref b1)])
  obtain ⟨_, _, ⟨T2, L2, k2, n2⟩, -, X2, ⟨Lc2, hQ2, l2, y2, z2⟩, st2⟩ := X1.specialBack hx (y := (⟨"com/example/deliberate_scaler/deliberatescaler/model/Simulation$Outcome", "<init>", "(JJJDDDD)V"⟩ : MethodName)) rfl hown (mvT hZ (hw _ (List.mem_of_getElem? (i := 8) rfl))) (mvT hZ (hw _ (List.mem_of_getElem? (i := 9) rfl))) (mvT hZ (hw _ (List.mem_of_getElem? (i := 10) rfl))) (by decide) (backOf (W := 1) (rm2 l Z aw hw [] b1 j0 (j0 - j1) j1 (FP.i2d (i2 &&& (7 : Int32))) (0 : UInt64) (4607182418800017408 : UInt64) (4607182418800017408 : UInt64) (.long (0 : Int64)) (.long (0 : Int64)) (.long (0 : Int64)) (.double (0 : UInt64)) (.double (0 : UInt64)) (.double (0 : UInt64)) (.double (0 : UInt64)) h1 n0 ZZ E_b1 F_offered_b1 F_accepted_b1 F_rejected_b1 F_meanResponseTime_b1 F_meanInSystem_b1 F_workerSeconds_b1 F_targetSeconds_b1 g_b1) hZ (hw _ (List.mem_of_getElem? (i := 10) rfl)) (hw _ (List.mem_of_getElem? (i := 7) rfl)) (by decide) (by decide)) (g := (mkF m 18 #[.val (.long j0), .second, .val (.long j1), .second, .val (.int i2)] [(.double (4607182418800017408 : UInt64)), (.double (4607182418800017408 : UInt64)), (.double (0 : UInt64)), (.double (FP.i2d (i2 &&& (7 : Int32)))), (.long j1), (.long (j0 - j1)), (.long j0), (.ref b1), (.ref b1)])) rfl (by rw [hml]; rfl) (Steps.refl _) (a := b1) (argsL := [(.long j0), (.long (j0 - j1)), (.long j1), (.double (FP.i2d (i2 &&& (7 : Int32)))), (.double (0 : UInt64)), (.double (4607182418800017408 : UInt64)), (.double (4607182418800017408 : UInt64))]) (rest := [(.ref b1)]) (lenOf pd_1 rfl) rfl (by show 2 * 0 + _ ≤ _; exact Nat.le_of_eq rfl) (hb hby d1_18) (fun _ _ => ⟨rfl, e1, (by decide : 1 + 0 ≤ _), (by decide : 7 + 0 ≤ _)⟩)
  dsimp only [Pt.U, Pt.locs, Pt.cells, Pt.slots] at X2 l2 y2 z2 st2 hQ2
  subst l2 y2 z2
  obtain ⟨h2, e2⟩ : ∃ q, T2.heap = q := ⟨_, rfl⟩
  rw [e2] at hQ2
  obtain ⟨rfl, N2q, K2q, E_b1', F_offered_b1', F_accepted_b1', F_rejected_b1', F_meanResponseTime_b1', F_meanInSystem_b1', F_workerSeconds_b1', F_targetSeconds_b1'⟩ := hQ2
  have N2 := Fr.app N0 N2q
  replace E_b1 := E_b1.keep K2q
  replace ZZ := Nat.le_trans ZZ K2q.1
  replace KP := KP.trans K2q (allS (Or.inr sz_b1) all0)
  replace E_b1 := E_b1'
  have F_offered_b1 := F_offered_b1'
  have F_accepted_b1 := F_accepted_b1'
  have F_rejected_b1 := F_rejected_b1'
  have F_meanResponseTime_b1 := F_meanResponseTime_b1'
  have F_meanInSystem_b1 := F_meanInSystem_b1'
  have F_workerSeconds_b1 := F_workerSeconds_b1'
  have F_targetSeconds_b1 := F_targetSeconds_b1'
  refine Go.on (fun _ k => st2.trans k) ?_
  show Go _ _ _ _ _ _ _ _ (mkF m 21 #[.val (.long j0), .second, .val (.long j1), .second, .val (.int i2)] [(.ref b1)])
  obtain ⟨cq3, kq3, q3a, q3b, q3c⟩ := isOf hZ e2 E_b1
  obtain ⟨_, _, ⟨T3, L3, k3, n3⟩, -, X3, ⟨Lc3, hQ3, l3, y3, z3⟩, st3⟩ := X2.virtualBack hx (y := (⟨"com/example/deliberate_scaler/deliberatescaler/model/Simulation$Outcome", "rejectedShare", "()D"⟩ : MethodName)) (z := (⟨"com/example/deliberate_scaler/deliberatescaler/model/Simulation$Outcome", "rejectedShare", "()D"⟩ : MethodName)) hown (mvT hZ (hw _ (List.mem_of_getElem? (i := 33) rfl))) (mvT hZ (hw _ (List.mem_of_getElem? (i := 34) rfl))) (notFace_of_selects (args := #[]) (mvT hZ (hw _ (List.mem_of_getElem? (i := 36) rfl)))) (mvT hZ (hw _ (List.mem_of_getElem? (i := 36) rfl))) (mvT hZ (hw _ (List.mem_of_getElem? (i := 35) rfl))) (by decide) (backOf (W := 0) (rm5 l Z aw hw [] b1 j0 j1 h2 n0 ZZ F_offered_b1 F_rejected_b1) hZ (hw _ (List.mem_of_getElem? (i := 37) rfl)) (hw _ (List.mem_of_getElem? (i := 7) rfl)) (by decide) (by decide)) q3a q3c (g := (mkF m 21 #[.val (.long j0), .second, .val (.long j1), .second, .val (.int i2)] [(.ref b1)])) rfl (by rw [hml]; rfl) (Steps.refl _) (argsL := []) (rest := []) (lenOf pd_2 rfl) rfl (by show 2 * 0 + _ ≤ _; exact Nat.le_of_eq rfl) (hb hby d1_21) (fun _ _ => ⟨rfl, e2, (by decide : 1 + 0 ≤ _), (by decide : 7 + 0 ≤ _)⟩)
  dsimp only [Pt.U, Pt.locs, Pt.cells, Pt.slots] at X3 l3 y3 z3 st3 hQ3
  subst l3 y3 z3
  obtain ⟨rfl, N3q, e3⟩ := hQ3
  have N3 := Fr.app N2 N3q
  refine Go.on (fun _ k => st3.trans k) ?_
  show Go _ _ _ _ _ _ _ _ (mkF m 24 #[.val (.long j0), .second, .val (.long j1), .second, .val (.int i2)] [(.double (shareV j0 j1))])
  refine Go.retV X3 hx Bd.returns rfl (Or.inr (Or.inr (Or.inl ⟨rfl, rfl, _, rfl⟩))) (hb hby d1_24) ?_ (by rw [hK1]; decide) (by rw [hK2]; decide)
  rw [e3, ← hQQ]
  exact ⟨rfl, N3, KP⟩
section PureLaw
open Jvm.FP.Core
theorem own_near_mono {A A' B : Nat} (hB : 0 < B) (h : A ≤ A') : nearest A B ≤ nearest A' B := by
  have e1 := Nat.div_add_mod A B
  have e2 := Nat.div_add_mod A' B
  have m1 := Nat.mod_lt A hB
  have m2 := Nat.mod_lt A' hB
  have d := Nat.div_le_div_right (c := B) h
  unfold nearest
  by_cases q : A / B = A' / B
  · rw [q] at e1 ⊢
    generalize A' / B = x at *
    generalize B * x = y at *
    split <;> split <;> (try split) <;> (try split) <;> omega
  · have : A / B < A' / B := Nat.lt_of_le_of_ne d q
    split <;> split <;> (try split) <;> (try split) <;> omega
theorem own_two53 : ∃ V, ZV V (9007199254740992 * (one64 : Int)) := by
  obtain ⟨V, hV⟩ := own_rep 1 1127 (by decide) (by decide)
  have e : (1 : Int) * ((2 ^ 1127 : Nat) : Int) = 9007199254740992 * (one64 : Int) := by decide +kernel
  exact ⟨V, e ▸ hV⟩
theorem own_pow2 (L : Nat) (h : L ≤ 900) : ∃ V, ZV V (((2 ^ L : Nat) : Int) * (one64 : Int)) := by
  obtain ⟨V, hV⟩ := own_rep 1 (L + 1074) (by decide) (by omega)
  have e : (1 : Int) * ((2 ^ (L + 1074) : Nat) : Int) = ((2 ^ L : Nat) : Int) * (one64 : Int) := by
    rw [Int.one_mul, own_one64, ← Int.natCast_mul, Nat.pow_add]
  exact ⟨V, e ▸ hV⟩
theorem own_l2d_val {n : Int64} {L N : Nat} (hN : n.toInt = (N : Int)) (h1 : 2 ^ L ≤ N) (h2 : N < 2 ^ (L + 1)) (hL : 52 ≤ L) (hL2 : L ≤ 100) :
    zval b64 (val64 (FP.l2d n)) = ((nearest N (2 ^ (L - 52)) * 2 ^ (L - 52) : Nat) : Int) * (one64 : Int) := by
  have hpos : 0 < N := Nat.lt_of_lt_of_le (Nat.two_pow_pos L) h1
  have hq : quantum b64 N 1 0 = ((L - 52 : Nat) : Int) := by
    unfold quantum leading
    have l1 : N.log2 = L := (Nat.log2_eq_iff (by omega)).mpr ⟨h1, h2⟩
    have l2 : (1 : Nat).log2 = 0 := by decide
    rw [l1, l2]
    have c : (1 : Nat) * 2 ^ ((L : Int) - ((0 : Nat) : Int)).toNat ≤ N * 2 ^ (-((L : Int) - ((0 : Nat) : Int))).toNat := by
      have a1 : ((L : Int) - ((0 : Nat) : Int)).toNat = L := by omega
      have a2 : (-((L : Int) - ((0 : Nat) : Int))).toNat = 0 := by omega
      rw [a1, a2]; omega
    simp only [if_pos c]
    rw [qmin_b64, show (b64.p : Int) = 53 from rfl]; omega
  have hr : round b64 (ofInt n.toInt) = settle b64 false (nearest N (2 ^ (L - 52))) ((L - 52 : Nat) : Int) := by
    have e0 : ofInt n.toInt = .fin false N 0 := by
      unfold ofInt; rw [hN]; congr 1
    rw [e0]
    show roundRatio b64 false N 1 0 = _
    unfold roundRatio
    rw [if_neg (by omega), hq]
    unfold roundAt unitsNum unitsDen
    have a1 : (0 - ((L - 52 : Nat) : Int)).toNat = 0 := by omega
    have a2 : (((L - 52 : Nat) : Int) - 0).toNat = L - 52 := by omega
    rw [a1, a2, Nat.pow_zero, Nat.mul_one, Nat.one_mul]
  have hle : nearest N (2 ^ (L - 52)) ≤ 2 ^ 53 := by
    refine nearest_le (Nat.two_pow_pos _) ?_
    rw [← Nat.pow_add]
    have : 53 + (L - 52) = L + 1 := by omega
    rw [this]; omega
  have hv : val64 (FP.l2d n) = settle b64 false (nearest N (2 ^ (L - 52))) ((L - 52 : Nat) : Int) := (val64_l2d n).trans hr
  rw [hv]
  generalize nearest N (2 ^ (L - 52)) = c at *
  unfold settle bound
  have qm : b64.qmax = 971 := by decide
  have pw : ∀ (c : Nat) (k : Nat), zval b64 (.fin false c ((k : Nat) : Int)) = ((c * 2 ^ k : Nat) : Int) * (one64 : Int) := fun c k => by
    rw [own_mag]
    unfold inUnits
    rw [qmin_b64, show ((k : Int) - -1074).toNat = k + 1074 by omega, Nat.pow_add, ← Nat.mul_assoc]
    show ((c * 2 ^ k * 2 ^ 1074 : Nat) : Int) = _
    rw [Int.natCast_mul]; rfl
  by_cases hc : c < 2 ^ b64.p
  · rw [if_pos hc, if_pos (by rw [qm]; omega)]; exact pw _ _
  · have hc2 : c = 2 ^ 53 := by have : b64.p = 53 := rfl; rw [this] at hc; omega
    rw [if_neg hc, if_pos (by rw [qm]; omega)]
    have := pw b64.tails (L - 52 + 1)
    rw [show (((L - 52 + 1 : Nat)) : Int) = ((L - 52 : Nat) : Int) + 1 by omega] at this
    rw [this, hc2, show b64.tails = 2 ^ 52 from by decide]
    congr 2
    rw [Nat.pow_succ 2 (L - 52), Nat.pow_succ 2 52]
    rw [Nat.mul_comm (2 ^ (L - 52)) 2, ← Nat.mul_assoc]
theorem own_mono {r o : Int64} (h0 : 0 ≤ r.toInt) (h : r.toInt ≤ o.toInt) : zval b64 (val64 (FP.l2d r)) ≤ zval b64 (val64 (FP.l2d o)) := by
  have b := o.toInt_lt
  have op : (0 : Int) ≤ (one64 : Int) := by omega
  have mul : ∀ a c : Int, a ≤ c → a * (one64 : Int) ≤ c * (one64 : Int) := fun a c q => Int.mul_le_mul_of_nonneg_right q op
  by_cases c1 : o.toInt ≤ 9007199254740992
  · rw [(own_l2d (n := r) (by omega)).2, (own_l2d (n := o) (by omega)).2]; exact mul _ _ h
  · by_cases c2 : r.toInt ≤ 9007199254740992
    · obtain ⟨V, hV⟩ := own_two53
      have a1 := l2d_zval_le (n := r) hV.ne (by rw [hV.2]; exact mul _ _ c2)
      have a2 := l2d_zval_ge (n := o) hV.ne (by rw [hV.2]; exact mul _ _ (by omega))
      exact Int.le_trans a1 a2
    · obtain ⟨R, hR⟩ : ∃ R : Nat, r.toInt = (R : Int) := ⟨r.toInt.toNat, by omega⟩
      obtain ⟨O, hO⟩ : ∃ O : Nat, o.toInt = (O : Int) := ⟨o.toInt.toNat, by omega⟩
      have r0 : R ≠ 0 := by omega
      have o0 : O ≠ 0 := by omega
      have lr := Nat.log2_self_le r0
      have lr2 := Nat.lt_log2_self (n := R)
      have lo := Nat.log2_self_le o0
      have lo2 := Nat.lt_log2_self (n := O)
      have hl : R.log2 ≤ O.log2 := (Nat.le_log2 o0).mpr (Nat.le_trans lr (by omega))
      have ho : O.log2 < 63 := (Nat.log2_lt o0).mpr (by omega)
      have hr53 : 53 ≤ R.log2 := (Nat.le_log2 r0).mpr (by omega)
      by_cases c3 : R.log2 = O.log2
      · have v1 := own_l2d_val hR lr lr2 (by omega) (by omega)
        have v2 := own_l2d_val hO lo lo2 (by omega) (by omega)
        rw [c3] at v1
        rw [v1, v2]
        apply mul
        apply Int.ofNat_le.mpr
        exact Nat.mul_le_mul_right _ (own_near_mono (Nat.two_pow_pos _) (by omega))
      · obtain ⟨V, hV⟩ := own_pow2 O.log2 (by omega)
        have : R < 2 ^ O.log2 := Nat.lt_of_lt_of_le lr2 (Nat.pow_le_pow_right (by decide) (by omega))
        have a1 := l2d_zval_le (n := r) hV.ne (by rw [hV.2]; exact mul _ _ (by rw [hR]; exact Int.ofNat_le.mpr (Nat.le_of_lt this)))
        have a2 := l2d_zval_ge (n := o) hV.ne (by rw [hV.2]; exact mul _ _ (by rw [hO]; exact Int.ofNat_le.mpr lo))
        exact Int.le_trans a1 a2

theorem own_same {a b a' b' : UInt64} {x y x' y' : Int} (ha : ZV a x) (hb : ZV b y) (ha' : ZV a' x') (hb' : ZV b' y') (hy : 0 < y) (hy' : 0 < y') (hs : sgn (val64 a) = false) (hs' : sgn (val64 a') = false) (h : x * y' = x' * y) : val64 (FP.ddiv a b) = val64 (FP.ddiv a' b') := by
  obtain ⟨s, c, q, t, d, r, h1, h2, hd, h3, f1, f2⟩ := own_quot ha hb (by omega)
  obtain ⟨s', c', q', t', d', r', h1', h2', hd', h3', f1', f2'⟩ := own_quot ha' hb' (by omega)
  have ey := hb.2; rw [h2, own_mag] at ey
  have ex := ha.2; rw [h1, own_mag] at ex
  have ey' := hb'.2; rw [h2', own_mag] at ey'
  have ex' := ha'.2; rw [h1', own_mag] at ex'
  rw [h1] at hs; rw [h1'] at hs'
  have es : s = false := hs
  have es' : s' = false := hs'
  subst es es'
  have et : t = false := by
    cases t
    · rfl
    · simp only [own_sgn_z, if_true] at ey; omega
  have et' : t' = false := by
    cases t'
    · rfl
    · simp only [own_sgn_z, if_true] at ey'; omega
  subst et et'
  have ex1 : ((inUnits c q b64.qmin : Nat) : Int) = x := ex
  have ey1 : ((inUnits d r b64.qmin : Nat) : Int) = y := ey
  have ex2 : ((inUnits c' q' b64.qmin : Nat) : Int) = x' := ex'
  have ey2 : ((inUnits d' r' b64.qmin : Nat) : Int) = y' := ey'
  have hN : inUnits c q b64.qmin * inUnits d' r' b64.qmin = inUnits c' q' b64.qmin * inUnits d r b64.qmin := by
    apply Int.ofNat_inj.mp
    rw [Int.natCast_mul, Int.natCast_mul, ex1, ey1, ex2, ey2]; exact h
  rw [h3, h3']
  refine roundRatio_congr hd hd' ?_
  have g1 := f1.2.1; have g2 := f2.2.1; have g3 := f1'.2.1; have g4 := f2'.2.1
  unfold inUnits at hN
  obtain ⟨A, hA⟩ : ∃ A : Nat, A = (q - b64.qmin).toNat + (r' - b64.qmin).toNat := ⟨_, rfl⟩
  obtain ⟨B, hB⟩ : ∃ B : Nat, B = (q' - b64.qmin).toNat + (r - b64.qmin).toNat := ⟨_, rfl⟩
  have hN2 : c * d' * 2 ^ A = c' * d * 2 ^ B := by
    rw [hA, hB, Nat.pow_add, Nat.pow_add]
    have z1 : c * d' * (2 ^ (q - b64.qmin).toNat * 2 ^ (r' - b64.qmin).toNat) = c * 2 ^ (q - b64.qmin).toNat * (d' * 2 ^ (r' - b64.qmin).toNat) := by
      generalize 2 ^ (q - b64.qmin).toNat = u; generalize 2 ^ (r' - b64.qmin).toNat = w; ac_rfl
    have z2 : c' * d * (2 ^ (q' - b64.qmin).toNat * 2 ^ (r - b64.qmin).toNat) = c' * 2 ^ (q' - b64.qmin).toNat * (d * 2 ^ (r - b64.qmin).toNat) := by
      generalize 2 ^ (q' - b64.qmin).toNat = u; generalize 2 ^ (r - b64.qmin).toNat = w; ac_rfl
    rw [z1, z2]; exact hN
  rcases Nat.le_total B A with hAB | hAB
  · have k1 : (q - r - (q' - r')).toNat = A - B := by omega
    have k2 : (q' - r' - (q - r)).toNat = 0 := by omega
    rw [k1, k2, Nat.pow_zero, Nat.mul_one]
    apply Nat.eq_of_mul_eq_mul_right (Nat.two_pow_pos B)
    rw [Nat.mul_assoc, ← Nat.pow_add, show A - B + B = A by omega]; exact hN2
  · have k1 : (q - r - (q' - r')).toNat = 0 := by omega
    have k2 : (q' - r' - (q - r)).toNat = B - A := by omega
    rw [k1, k2, Nat.pow_zero, Nat.mul_one]
    apply Nat.eq_of_mul_eq_mul_right (Nat.two_pow_pos A)
    rw [Nat.mul_assoc (c' * d), ← Nat.pow_add, show B - A + A = B by omega]; exact hN2
theorem own_tab : ∀ k : Fin 63, ((1 : Int64) <<< ((Int32.ofNat k.val) &&& 0x3f).toInt64).toInt = ((2 ^ k.val : Nat) : Int) := by decide
theorem own_shl {y : Int32} (h0 : 0 ≤ y.toInt) (h1 : y.toInt < 63) : ((1 : Int64) <<< (y &&& 0x3f).toInt64).toInt = ((2 ^ y.toInt.toNat : Nat) : Int) := by
  have t := own_tab ⟨y.toInt.toNat, by omega⟩
  have e : Int32.ofNat y.toInt.toNat = y := by
    apply Int32.toInt_inj.mp
    rw [Int32.toInt_ofNat_of_lt (by omega)]; omega
  rw [← t]; simp only [e]
theorem own_y {ja : Int64} {D : Int64} {d : Int} (hd : D.toInt = d) (h0 : 0 < d) (h1 : d ≤ 63) : 0 ≤ (((ja &&& (63 : Int64)) % D).toInt32).toInt ∧ (((ja &&& (63 : Int64)) % D).toInt32).toInt < d := by
  have e1 : (ja &&& (63 : Int64)).toInt = ja.toInt % 2 ^ 6 := Jvm.Kit.i64_mask ja 63 (k := 6) (by decide) (by decide)
  have e2 : ((ja &&& (63 : Int64)) % D).toInt = ja.toInt % 2 ^ 6 % d := by rw [Int64.toInt_mod, e1, hd, Int.tmod_eq_emod_of_nonneg (by omega)]
  have b1 := Int.emod_nonneg (ja.toInt % 2 ^ 6) (show d ≠ 0 by omega)
  have b2 := Int.emod_lt_of_pos (ja.toInt % 2 ^ 6) h0
  have e3 : (((ja &&& (63 : Int64)) % D).toInt32).toInt = ja.toInt % 2 ^ 6 % d := by rw [Jvm.Kit.i32_of_i64 (by rw [e2]; omega) (by rw [e2]; omega), e2]
  rw [e3]; exact ⟨b1, b2⟩
theorem own_o {ic wd os : Int32} {ja o : Int64} (hwd : wd = (if (ic &&& (1 : Int32)) = (0 : Int32) then (0 : Int32) else (1 : Int32))) (hos : (((ic.toUInt32 >>> ((1 : Int32) &&& 31).toUInt32).toInt32) &&& (3 : Int32)) = os)
    (ho : o = (if os = (0 : Int32) then (0 : Int64) else (if os = (1 : Int32) then (if wd = (0 : Int32) then ((1 : Int64) <<< ((((ja &&& (63 : Int64)) % (40 : Int64)).toInt32) &&& 0x3f).toInt64) else ((1 : Int64) <<< ((((ja &&& (63 : Int64)) % (63 : Int64)).toInt32) &&& 0x3f).toInt64)) else (if wd = (0 : Int32) then (ja &&& (1099511627775 : Int64)) else (ja &&& (9223372036854775807 : Int64)))))) :
    0 ≤ o.toInt ∧ (wd = 0 → o.toInt < 1099511627776) := by
  have y40 := own_y (ja := ja) (D := 40) (d := 40) (by decide) (by decide) (by decide)
  have y63 := own_y (ja := ja) (D := 63) (d := 63) (by decide) (by decide) (by decide)
  have s40 := own_shl y40.1 (by omega)
  have s63 := own_shl y63.1 (by omega)
  have m40 : (ja &&& (1099511627775 : Int64)).toInt = ja.toInt % 2 ^ 40 := Jvm.Kit.i64_mask ja 1099511627775 (k := 40) (by decide) (by decide)
  have m63 : (ja &&& (9223372036854775807 : Int64)).toInt = ja.toInt % 2 ^ 63 := Jvm.Kit.i64_mask ja 9223372036854775807 (k := 63) (by decide) (by decide)
  rw [ho]
  split
  · exact ⟨by decide, fun _ => by decide⟩
  · split
    · split
      · rename_i hw
        rw [s40]
        have : 2 ^ (((ja &&& (63 : Int64)) % (40 : Int64)).toInt32).toInt.toNat ≤ 2 ^ 39 := Nat.pow_le_pow_right (by decide) (by omega)
        exact ⟨Int.natCast_nonneg _, fun _ => Int.lt_of_le_of_lt (Int.ofNat_le.mpr this) (by decide)⟩
      · rename_i hw
        rw [s63]; exact ⟨Int.natCast_nonneg _, fun q => absurd q hw⟩
    · split
      · rw [m40]; exact ⟨by omega, fun _ => by omega⟩
      · rename_i hw
        rw [m63]; exact ⟨by omega, fun q => absurd q hw⟩
theorem own_r {rs : Int32} {jb bb o r : Int64} (h0 : 0 ≤ o.toInt) (hbb : (jb &&& (9223372036854775807 : Int64)) = bb) (hr : r = (if rs = (0 : Int32) then (0 : Int64) else (if rs = (1 : Int32) then o else (if o = (9223372036854775807 : Int64) then bb else (bb % (o + (1 : Int64))))))) : 0 ≤ r.toInt ∧ r.toInt ≤ o.toInt := by
  have m63 : bb.toInt = jb.toInt % 2 ^ 63 := by rw [← hbb]; exact Jvm.Kit.i64_mask jb 9223372036854775807 (k := 63) (by decide) (by decide)
  have lm : (9223372036854775807 : Int64).toInt = 9223372036854775807 := by decide
  have l1 : (1 : Int64).toInt = 1 := by decide
  have bo := o.toInt_lt
  rw [hr]
  split
  · have : (0 : Int64).toInt = 0 := by decide
    omega
  · split
    · omega
    · split
      · rename_i q; rw [q, lm]; omega
      · rename_i q
        have : o.toInt ≠ 9223372036854775807 := fun z => q (Int64.toInt_inj.mp (by rw [z, lm]))
        have e1 : (o + 1).toInt = o.toInt + 1 := by rw [Jvm.Kit.i64_add (by rw [l1]; omega) (by rw [l1]; omega), l1]
        rw [Int64.toInt_mod, e1, Int.tmod_eq_emod_of_nonneg (by omega)]
        have b1 := Int.emod_nonneg bb.toInt (show o.toInt + 1 ≠ 0 by omega)
        have b2 := Int.emod_lt_of_pos bb.toInt (show 0 < o.toInt + 1 by omega)
        omega
theorem own_ne0 {o : Int64} (h0 : 0 ≤ o.toInt) (h : ¬ o = (0 : Int64)) : 1 ≤ o.toInt := by
  have : o.toInt ≠ 0 := fun q => h (Int64.toInt_inj.mp (by rw [q]; decide))
  omega
theorem own_zr (n : Int64) : ZV (FP.l2d n) (zval b64 (val64 (FP.l2d n))) := ⟨l2d_fin n, rfl⟩
theorem own_opos : (0 : Int) < (one64 : Int) := by have := one64_pos; omega
theorem own_O {o : Int64} (h : 1 ≤ o.toInt) : (one64 : Int) ≤ zval b64 (val64 (FP.l2d o)) := by
  have := l2d_zval_ge (n := o) own_one.ne (by
    rw [own_one.2]
    have := Int.mul_le_mul_of_nonneg_right h (Int.le_of_lt own_opos)
    rwa [Int.one_mul] at this)
  rwa [own_one.2] at this
theorem own_R0 {r : Int64} (h : 0 ≤ r.toInt) : 0 ≤ zval b64 (val64 (FP.l2d r)) := by
  have := l2d_zval_ge (n := r) own_zero.ne (by rw [own_zero.2]; exact Int.mul_nonneg h (Int.le_of_lt own_opos))
  rwa [own_zero.2] at this
/-- what the share is worth -/
theorem own_S {o r : Int64} (h0 : 0 ≤ r.toInt) (h : r.toInt ≤ o.toInt) (ho : 1 ≤ o.toInt) : ∃ q, ZV (FP.ddiv (FP.l2d r) (FP.l2d o)) q ∧ Quo (zval b64 (val64 (FP.l2d r))) (zval b64 (val64 (FP.l2d o))) q ∧ 0 ≤ q ∧ q ≤ (one64 : Int) ∧ (r.toInt = 0 → q = 0) ∧ (1 ≤ r.toInt → 0 < q) ∧ (r.toInt = o.toInt → q = (one64 : Int)) := by
  have hO := own_O ho
  have hR := own_R0 h0
  have hm := own_mono h0 h
  obtain ⟨q, hq, hQ⟩ := (own_zr r).div (own_zr o) hO
  have b := o.toInt_lt
  obtain ⟨V63, hV63⟩ := own_pow2 63 (by decide)
  have hOu := l2d_zval_le (n := o) hV63.ne (by rw [hV63.2]; exact Int.mul_le_mul_of_nonneg_right (by have : ((2 ^ 63 : Nat) : Int) = 9223372036854775808 := rfl; omega) (Int.le_of_lt own_opos))
  rw [hV63.2] at hOu
  have hR1 : 1 ≤ r.toInt → (one64 : Int) ≤ zval b64 (val64 (FP.l2d r)) := fun q => own_O q
  have hR00 : r.toInt = 0 → zval b64 (val64 (FP.l2d r)) = 0 := fun z => by rw [(own_l2d (n := r) (by omega)).2, z, Int.zero_mul]
  have hRO : r.toInt = o.toInt → zval b64 (val64 (FP.l2d r)) = zval b64 (val64 (FP.l2d o)) := fun z => by rw [Int64.toInt_inj.mp z]
  have q0 := hQ _ _ own_zero
  have q1 := hQ _ _ own_one
  obtain ⟨W, hW⟩ := own_rep 1 1011 (by decide) (by decide)
  have q2 := hQ _ _ hW
  have op := own_opos
  have e63 : ((2 ^ 1011 : Nat) : Int) * (((2 ^ 63 : Nat) : Int) * (one64 : Int)) = (one64 : Int) * (one64 : Int) := by decide +kernel
  have pw : (0 : Int) < ((2 ^ 1011 : Nat) : Int) := Int.natCast_pos.mpr (Nat.two_pow_pos _)
  rw [Int.one_mul] at q2
  refine ⟨q, hq, hQ, ?_, ?_, ?_, ?_, ?_⟩
  · exact q0.2 (by rw [Int.zero_mul]; exact Int.mul_nonneg hR (Int.le_of_lt op))
  · exact q1.1 (by rw [Int.mul_comm]; exact Int.mul_le_mul_of_nonneg_left hm (Int.le_of_lt op))
  · intro z
    have z' := hR00 z
    have a := q0.1 (by rw [z', Int.zero_mul, Int.zero_mul]; exact Int.le_refl _)
    have b := q0.2 (by rw [z', Int.zero_mul, Int.zero_mul]; exact Int.le_refl _)
    omega
  · intro z
    have z' := hR1 z
    have a := q2.2 (by
      refine Int.le_trans (Int.mul_le_mul_of_nonneg_left hOu (Int.le_of_lt pw)) ?_
      rw [e63]; exact Int.mul_le_mul_of_nonneg_right z' (Int.le_of_lt op))
    omega
  · intro z
    have z' := hRO z
    have a := q1.1 (by rw [z', Int.mul_comm]; exact Int.le_refl _)
    have b := q1.2 (by rw [z', Int.mul_comm]; exact Int.le_refl _)
    omega
/-- a power of two by its bits -/
theorem own_pow_of : ∀ n : Nat, 0 < n → n &&& (n - 1) = 0 → ∃ k, n = 2 ^ k := by
  intro n
  induction n using Nat.strongRecOn with
  | _ n ih =>
    intro hn h
    have h2 : (n / 2) &&& ((n - 1) / 2) = 0 := by rw [← Nat.and_div_two, h]
    by_cases e : n % 2 = 0
    · have e1 : (n - 1) / 2 = n / 2 - 1 := by omega
      rw [e1] at h2
      obtain ⟨k, hk⟩ := ih (n / 2) (by omega) (by omega) h2
      exact ⟨k + 1, by rw [Nat.pow_succ]; omega⟩
    · have e1 : (n - 1) / 2 = n / 2 := by omega
      rw [e1, Nat.and_self] at h2
      exact ⟨0, by rw [Nat.pow_zero]; omega⟩
theorem own_pow64 {o : Int64} (h : 1 ≤ o.toInt) (hp : (o &&& (o - (1 : Int64))) = (0 : Int64)) : ∃ k : Nat, k ≤ 62 ∧ o.toInt = ((2 ^ k : Nat) : Int) := by
  have l1 : (1 : Int64).toInt = 1 := by decide
  have b := o.toInt_lt
  have e1 : (o - 1).toInt = o.toInt - 1 := by rw [Jvm.Kit.i64_sub (by rw [l1]; omega) (by rw [l1]; omega), l1]
  have n1 : o.toBitVec.toNat = o.toInt.toNat := by
    have : o.toInt = o.toBitVec.toInt := rfl
    rw [BitVec.toInt_eq_toNat_cond] at this
    have := o.toBitVec.isLt
    split at * <;> omega
  have n2 : (o - 1).toBitVec.toNat = (o.toInt - 1).toNat := by
    have q : (o - 1).toInt = (o - 1).toBitVec.toInt := rfl
    rw [BitVec.toInt_eq_toNat_cond, e1] at q
    have := (o - 1).toBitVec.isLt
    split at * <;> omega
  have z : (o &&& (o - 1)).toBitVec.toNat = 0 := by rw [hp]; rfl
  rw [Int64.toBitVec_and, BitVec.toNat_and, n1, n2] at z
  obtain ⟨k, hk⟩ := own_pow_of o.toInt.toNat (by omega) (by rw [show o.toInt.toNat - 1 = (o.toInt - 1).toNat by omega]; exact z)
  refine ⟨k, ?_, by rw [← hk]; omega⟩
  apply Nat.le_of_not_lt; intro q
  have : 2 ^ 63 ≤ 2 ^ k := Nat.pow_le_pow_right (by decide) q
  omega
theorem own_P {o r : Int64} (h0 : 0 ≤ r.toInt) (h : r.toInt ≤ o.toInt) (ho : 1 ≤ o.toInt) (hp : (o &&& (o - (1 : Int64))) = (0 : Int64)) : (cmpValue (FP.dcmp (FP.dmul (FP.ddiv (FP.l2d r) (FP.l2d o)) (FP.l2d o)) (FP.l2d r)) .l) = (0 : Int32) := by
  obtain ⟨k, hk, ek⟩ := own_pow64 ho hp
  obtain ⟨V, hV⟩ := own_pow2 k (by omega)
  have eO : zval b64 (val64 (FP.l2d o)) = ((2 ^ k : Nat) : Int) * (one64 : Int) := by
    have a := l2d_zval_le (n := o) hV.ne (by rw [hV.2, ek]; exact Int.le_refl _)
    have b := l2d_zval_ge (n := o) hV.ne (by rw [hV.2, ek]; exact Int.le_refl _)
    rw [hV.2] at a b; exact Int.le_antisymm a b
  have zo := own_zr o
  rw [eO] at zo
  have hO := own_O ho
  rw [eO] at hO
  have op := own_opos
  by_cases r0 : r.toInt = 0
  · have zr : ZV (FP.l2d r) 0 := by have := own_l2d (n := r) (by omega); rwa [r0, Int.zero_mul] at this
    have zs := zr.div_exact zo hO own_zero (by rw [Int.zero_mul, Int.zero_mul])
    have zm := zs.mul zo own_zero (by rw [Int.zero_mul, Int.zero_mul])
    rw [own_c_eq, zm.cmp zr, own_cmp_eq]
  · obtain ⟨c, q, hv⟩ := l2d_shape r
    have sg : decide (r.toInt < 0) = false := by simp; omega
    rw [sg] at hv
    have hf := val64_fits (FP.l2d r)
    have hv' : val64 (FP.l2d r) = .fin false c q := hv
    rw [hv'] at hf
    have hR := own_O (o := r) (by omega)
    have eR : zval b64 (val64 (FP.l2d r)) = ((c * 2 ^ (q - b64.qmin).toNat : Nat) : Int) := by rw [hv']; rfl
    obtain ⟨m, hm⟩ : ∃ m : Nat, m = (q - b64.qmin).toNat := ⟨_, rfl⟩
    rw [← hm] at eR
    have hc : c < 2 ^ 53 := hf.1
    have hm2 : 1022 ≤ m := by
      apply Nat.le_of_not_lt; intro z
      rw [eR] at hR
      have u1 : c * 2 ^ m < 2 ^ 53 * 2 ^ 1021 := by
        have a1 : c * 2 ^ m ≤ c * 2 ^ 1021 := Nat.mul_le_mul_left _ (Nat.pow_le_pow_right (by decide) (by omega))
        exact Nat.lt_of_le_of_lt a1 (Nat.mul_lt_mul_of_pos_right hc (Nat.two_pow_pos _))
      rw [← Nat.pow_add] at u1
      have : (one64 : Nat) ≤ c * 2 ^ m := Int.ofNat_le.mp hR
      have e : one64 = 2 ^ (53 + 1021) := rfl
      omega
    have hm3 : m ≤ 2045 := by
      have := hf.2.2.1
      rw [show b64.qmax = 971 from by decide] at this
      rw [hm, qmin_b64]; omega
    obtain ⟨W, hW⟩ := own_rep (c : Int) (m - k) (by rw [Int.natAbs_natCast]; exact hc) (by omega)
    have zr := own_zr r
    rw [eR] at zr
    have e2 : ((c * 2 ^ m : Nat) : Int) = (c : Int) * ((2 ^ (m - k) : Nat) : Int) * ((2 ^ k : Nat) : Int) := by
      rw [← Int.natCast_mul, ← Int.natCast_mul, Nat.mul_assoc, ← Nat.pow_add, show m - k + k = m by omega]
    have zs := zr.div_exact zo hO hW (by
      rw [e2]; generalize ((2 ^ (m - k) : Nat) : Int) = u; generalize ((2 ^ k : Nat) : Int) = w; generalize (one64 : Int) = z; ac_rfl)
    have zm := zs.mul zo zr (by
      rw [e2]; generalize ((2 ^ (m - k) : Nat) : Int) = u; generalize ((2 ^ k : Nat) : Int) = w; generalize (one64 : Int) = z; ac_rfl)
    rw [own_c_eq, zm.cmp zr, own_cmp_eq]
theorem own_nzo {ic wd os : Int32} {ja o : Int64} (hwd : wd = (if (ic &&& (1 : Int32)) = (0 : Int32) then (0 : Int32) else (1 : Int32))) (hos : (((ic.toUInt32 >>> ((1 : Int32) &&& 31).toUInt32).toInt32) &&& (3 : Int32)) = os)
    (ho : o = (if os = (0 : Int32) then (0 : Int64) else (if os = (1 : Int32) then (if wd = (0 : Int32) then ((1 : Int64) <<< ((((ja &&& (63 : Int64)) % (40 : Int64)).toInt32) &&& 0x3f).toInt64) else ((1 : Int64) <<< ((((ja &&& (63 : Int64)) % (63 : Int64)).toInt32) &&& 0x3f).toInt64)) else (if wd = (0 : Int32) then (ja &&& (1099511627775 : Int64)) else (ja &&& (9223372036854775807 : Int64)))))) (hc : ¬ o = (9223372036854775807 : Int64)) : (o + (1 : Int64)) ≠ 0 := by
  have b := (own_o hwd hos ho).1
  have bo := o.toInt_lt
  have lm : (9223372036854775807 : Int64).toInt = 9223372036854775807 := by decide
  have l1 : (1 : Int64).toInt = 1 := by decide
  have : o.toInt ≠ 9223372036854775807 := fun z => hc (Int64.toInt_inj.mp (by rw [z, lm]))
  have e1 : (o + 1).toInt = o.toInt + 1 := by rw [Jvm.Kit.i64_add (by rw [l1]; omega) (by rw [l1]; omega), l1]
  intro q; rw [q, show (0 : Int64).toInt = 0 from by decide] at e1; omega
section Given
variable {ic wd os rs : Int32} {ja jb o bb r : Int64} {s_ s2 s3 : UInt64} {k1 k2 k3 k4 k5 v : Int32}

theorem own_all (hwd : wd = (if (ic &&& (1 : Int32)) = (0 : Int32) then (0 : Int32) else (1 : Int32))) (hos : (((ic.toUInt32 >>> ((1 : Int32) &&& 31).toUInt32).toInt32) &&& (3 : Int32)) = os) (ho : o = (if os = (0 : Int32) then (0 : Int64) else (if os = (1 : Int32) then (if wd = (0 : Int32) then ((1 : Int64) <<< ((((ja &&& (63 : Int64)) % (40 : Int64)).toInt32) &&& 0x3f).toInt64) else ((1 : Int64) <<< ((((ja &&& (63 : Int64)) % (63 : Int64)).toInt32) &&& 0x3f).toInt64)) else (if wd = (0 : Int32) then (ja &&& (1099511627775 : Int64)) else (ja &&& (9223372036854775807 : Int64)))))) (hrs : (((ic.toUInt32 >>> ((3 : Int32) &&& 31).toUInt32).toInt32) &&& (3 : Int32)) = rs) (hbb : (jb &&& (9223372036854775807 : Int64)) = bb) (hr : r = (if rs = (0 : Int32) then (0 : Int64) else (if rs = (1 : Int32) then o else (if o = (9223372036854775807 : Int64) then bb else (bb % (o + (1 : Int64))))))) : ¬ o = (0 : Int64) → shareV o r = s_ → (0 ≤ r.toInt ∧ r.toInt ≤ o.toInt ∧ 1 ≤ o.toInt ∧ s_ = FP.ddiv (FP.l2d r) (FP.l2d o) ∧ (wd = 0 → o.toInt < 1099511627776)) := by
  intro h hs
  have b := own_o hwd hos ho
  have c := own_r b.1 hbb hr
  refine ⟨c.1, c.2, own_ne0 b.1 h, ?_, b.2⟩
  rw [← hs]; unfold shareV; rw [if_neg h]
theorem own_nnm (hwd : wd = (if (ic &&& (1 : Int32)) = (0 : Int32) then (0 : Int32) else (1 : Int32))) (hos : (((ic.toUInt32 >>> ((1 : Int32) &&& 31).toUInt32).toInt32) &&& (3 : Int32)) = os) (ho : o = (if os = (0 : Int32) then (0 : Int64) else (if os = (1 : Int32) then (if wd = (0 : Int32) then ((1 : Int64) <<< ((((ja &&& (63 : Int64)) % (40 : Int64)).toInt32) &&& 0x3f).toInt64) else ((1 : Int64) <<< ((((ja &&& (63 : Int64)) % (63 : Int64)).toInt32) &&& 0x3f).toInt64)) else (if wd = (0 : Int32) then (ja &&& (1099511627775 : Int64)) else (ja &&& (9223372036854775807 : Int64)))))) (hrs : (((ic.toUInt32 >>> ((3 : Int32) &&& 31).toUInt32).toInt32) &&& (3 : Int32)) = rs) (hbb : (jb &&& (9223372036854775807 : Int64)) = bb) (hr : r = (if rs = (0 : Int32) then (0 : Int64) else (if rs = (1 : Int32) then o else (if o = (9223372036854775807 : Int64) then bb else (bb % (o + (1 : Int64))))))) (h : ¬ o = (0 : Int64)) (hs : shareV o r = s_) : Jvm.Free.Fl.NoNaN64 (FP.dmul s_ (FP.l2d o)) := by
  obtain ⟨a, b, c, e, -⟩ := own_all hwd hos ho hrs hbb hr h hs
  obtain ⟨q, hq, -⟩ := own_S a b c
  rw [e]; exact Jvm.Free.Fl.noNaN64_no.mpr (FP.Core.dmul_out hq.1 (l2d_fin o))
theorem own_K1 (hwd : wd = (if (ic &&& (1 : Int32)) = (0 : Int32) then (0 : Int32) else (1 : Int32))) (hos : (((ic.toUInt32 >>> ((1 : Int32) &&& 31).toUInt32).toInt32) &&& (3 : Int32)) = os) (ho : o = (if os = (0 : Int32) then (0 : Int64) else (if os = (1 : Int32) then (if wd = (0 : Int32) then ((1 : Int64) <<< ((((ja &&& (63 : Int64)) % (40 : Int64)).toInt32) &&& 0x3f).toInt64) else ((1 : Int64) <<< ((((ja &&& (63 : Int64)) % (63 : Int64)).toInt32) &&& 0x3f).toInt64)) else (if wd = (0 : Int32) then (ja &&& (1099511627775 : Int64)) else (ja &&& (9223372036854775807 : Int64)))))) (hrs : (((ic.toUInt32 >>> ((3 : Int32) &&& 31).toUInt32).toInt32) &&& (3 : Int32)) = rs) (hbb : (jb &&& (9223372036854775807 : Int64)) = bb) (hr : r = (if rs = (0 : Int32) then (0 : Int64) else (if rs = (1 : Int32) then o else (if o = (9223372036854775807 : Int64) then bb else (bb % (o + (1 : Int64))))))) (h : ¬ o = (0 : Int64)) (hs : shareV o r = s_) (hk1 : k1 = (if (0 : Int32) < (cmpValue (FP.dcmp (0 : UInt64) s_) .g) then (0 : Int32) else (if (0 : Int32) < (cmpValue (FP.dcmp s_ (4607182418800017408 : UInt64)) .g) then (0 : Int32) else (if r = (0 : Int64) then (if (cmpValue (FP.dcmp s_ (0 : UInt64)) .l) = (0 : Int32) then (if r = o then (if (cmpValue (FP.dcmp s_ (4607182418800017408 : UInt64)) .l) = (0 : Int32) then (1 : Int32) else (0 : Int32)) else (1 : Int32)) else (0 : Int32)) else (if (cmpValue (FP.dcmp s_ (0 : UInt64)) .l) = (0 : Int32) then (0 : Int32) else (if r = o then (if (cmpValue (FP.dcmp s_ (4607182418800017408 : UInt64)) .l) = (0 : Int32) then (1 : Int32) else (0 : Int32)) else (1 : Int32))))))) : k1 = 1 := by
  obtain ⟨a, b, c, e, -⟩ := own_all hwd hos ho hrs hbb hr h hs
  obtain ⟨q, hq, -, q0, q1, z0, z1, zo⟩ := own_S a b c
  rw [← e] at hq
  have c1 := own_zero.cmp hq
  have c2 := hq.cmp own_one
  have c3 := hq.cmp own_zero
  have op := own_opos
  have er : r = (0 : Int64) ↔ r.toInt = 0 := by rw [← Int64.toInt_inj]; exact Iff.rfl
  have eo : r = o ↔ r.toInt = o.toInt := by rw [← Int64.toInt_inj]
  rw [hk1]
  simp only [c1, c2, c3, own_cg_gt, own_c_eq, own_cmp_lt, own_cmp_eq, er, eo]
  rw [if_neg (by omega), if_neg (by omega)]
  by_cases r0 : r.toInt = 0
  · rw [if_pos r0, if_pos (z0 r0)]
    by_cases ro : r.toInt = o.toInt
    · rw [if_pos ro, if_pos (zo ro)]
    · rw [if_neg ro]
  · have := z1 (by omega)
    rw [if_neg r0, if_neg (by omega)]
    by_cases ro : r.toInt = o.toInt
    · rw [if_pos ro, if_pos (zo ro)]
    · rw [if_neg ro]
theorem own_f1 (hwd : wd = (if (ic &&& (1 : Int32)) = (0 : Int32) then (0 : Int32) else (1 : Int32))) (hos : (((ic.toUInt32 >>> ((1 : Int32) &&& 31).toUInt32).toInt32) &&& (3 : Int32)) = os) (ho : o = (if os = (0 : Int32) then (0 : Int64) else (if os = (1 : Int32) then (if wd = (0 : Int32) then ((1 : Int64) <<< ((((ja &&& (63 : Int64)) % (40 : Int64)).toInt32) &&& 0x3f).toInt64) else ((1 : Int64) <<< ((((ja &&& (63 : Int64)) % (63 : Int64)).toInt32) &&& 0x3f).toInt64)) else (if wd = (0 : Int32) then (ja &&& (1099511627775 : Int64)) else (ja &&& (9223372036854775807 : Int64)))))) (hrs : (((ic.toUInt32 >>> ((3 : Int32) &&& 31).toUInt32).toInt32) &&& (3 : Int32)) = rs) (hbb : (jb &&& (9223372036854775807 : Int64)) = bb) (hr : r = (if rs = (0 : Int32) then (0 : Int64) else (if rs = (1 : Int32) then o else (if o = (9223372036854775807 : Int64) then bb else (bb % (o + (1 : Int64))))))) (h : ¬ o = (0 : Int64)) (hs : shareV o r = s_) (hk1 : k1 = (if (0 : Int32) < (cmpValue (FP.dcmp (0 : UInt64) s_) .g) then (0 : Int32) else (if (0 : Int32) < (cmpValue (FP.dcmp s_ (4607182418800017408 : UInt64)) .g) then (0 : Int32) else (if r = (0 : Int64) then (if (cmpValue (FP.dcmp s_ (0 : UInt64)) .l) = (0 : Int32) then (if r = o then (if (cmpValue (FP.dcmp s_ (4607182418800017408 : UInt64)) .l) = (0 : Int32) then (1 : Int32) else (0 : Int32)) else (1 : Int32)) else (0 : Int32)) else (if (cmpValue (FP.dcmp s_ (0 : UInt64)) .l) = (0 : Int32) then (0 : Int32) else (if r = o then (if (cmpValue (FP.dcmp s_ (4607182418800017408 : UInt64)) .l) = (0 : Int32) then (1 : Int32) else (0 : Int32)) else (1 : Int32))))))) (hk2 : k2 = (if (o &&& (o - (1 : Int64))) = (0 : Int64) then (if k1 = (0 : Int32) then (0 : Int32) else (if (cmpValue (FP.dcmp (FP.dmul s_ (FP.l2d o)) (FP.l2d r)) .l) = (0 : Int32) then (1 : Int32) else (0 : Int32))) else k1)) : k2 = 1 := by
  have e1 := own_K1 hwd hos ho hrs hbb hr h hs hk1
  obtain ⟨a, b, c, e, -⟩ := own_all hwd hos ho hrs hbb hr h hs
  rw [hk2]
  split
  · rename_i hp
    rw [e1, if_neg (by decide), e, if_pos (own_P a b c hp)]
  · exact e1
theorem own_K3 (hwd : wd = (if (ic &&& (1 : Int32)) = (0 : Int32) then (0 : Int32) else (1 : Int32))) (hos : (((ic.toUInt32 >>> ((1 : Int32) &&& 31).toUInt32).toInt32) &&& (3 : Int32)) = os) (ho : o = (if os = (0 : Int32) then (0 : Int64) else (if os = (1 : Int32) then (if wd = (0 : Int32) then ((1 : Int64) <<< ((((ja &&& (63 : Int64)) % (40 : Int64)).toInt32) &&& 0x3f).toInt64) else ((1 : Int64) <<< ((((ja &&& (63 : Int64)) % (63 : Int64)).toInt32) &&& 0x3f).toInt64)) else (if wd = (0 : Int32) then (ja &&& (1099511627775 : Int64)) else (ja &&& (9223372036854775807 : Int64)))))) (hrs : (((ic.toUInt32 >>> ((3 : Int32) &&& 31).toUInt32).toInt32) &&& (3 : Int32)) = rs) (hbb : (jb &&& (9223372036854775807 : Int64)) = bb) (hr : r = (if rs = (0 : Int32) then (0 : Int64) else (if rs = (1 : Int32) then o else (if o = (9223372036854775807 : Int64) then bb else (bb % (o + (1 : Int64))))))) (h : ¬ o = (0 : Int64)) (hs : shareV o r = s_) (hk1 : k1 = (if (0 : Int32) < (cmpValue (FP.dcmp (0 : UInt64) s_) .g) then (0 : Int32) else (if (0 : Int32) < (cmpValue (FP.dcmp s_ (4607182418800017408 : UInt64)) .g) then (0 : Int32) else (if r = (0 : Int64) then (if (cmpValue (FP.dcmp s_ (0 : UInt64)) .l) = (0 : Int32) then (if r = o then (if (cmpValue (FP.dcmp s_ (4607182418800017408 : UInt64)) .l) = (0 : Int32) then (1 : Int32) else (0 : Int32)) else (1 : Int32)) else (0 : Int32)) else (if (cmpValue (FP.dcmp s_ (0 : UInt64)) .l) = (0 : Int32) then (0 : Int32) else (if r = o then (if (cmpValue (FP.dcmp s_ (4607182418800017408 : UInt64)) .l) = (0 : Int32) then (1 : Int32) else (0 : Int32)) else (1 : Int32))))))) (hk2 : k2 = (if (o &&& (o - (1 : Int64))) = (0 : Int64) then (if k1 = (0 : Int32) then (0 : Int32) else (if (cmpValue (FP.dcmp (FP.dmul s_ (FP.l2d o)) (FP.l2d r)) .l) = (0 : Int32) then (1 : Int32) else (0 : Int32))) else k1)) (hk3 : k3 = (if k2 = (0 : Int32) then (0 : Int32) else (if r = o then (if (cmpValue (FP.dcmp s_ (4607182418800017408 : UInt64)) .l) = (0 : Int32) then (1 : Int32) else (0 : Int32)) else (if (cmpValue (FP.dcmp s_ (4607182418800017408 : UInt64)) .l) = (0 : Int32) then (0 : Int32) else (1 : Int32))))) (hw : wd = (0 : Int32)) : k3 = 1 := by
  have e2 := own_f1 hwd hos ho hrs hbb hr h hs hk1 hk2
  obtain ⟨a, b, c, e, lt⟩ := own_all hwd hos ho hrs hbb hr h hs
  have lt := lt hw
  obtain ⟨q, hq, hQ, q0, q1, z0, z1, zo⟩ := own_S a b c
  rw [← e] at hq
  rw [(own_l2d (n := r) (by omega)).2, (own_l2d (n := o) (by omega)).2] at hQ
  have a1 := own_quo_int hQ 1099511627775 40 (by decide) (by decide)
  have e1 : (one64 : Int) = 1099511627776 * ((2 ^ (1074 - 40) : Nat) : Int) := by decide +kernel
  have pu : (0 : Int) < ((2 ^ (1074 - 40) : Nat) : Int) := Int.natCast_pos.mpr (Nat.two_pow_pos _)
  have k40 : ((2 ^ 40 : Nat) : Int) = 1099511627776 := rfl
  rw [k40] at a1
  have c2 := hq.cmp own_one
  have eo : r = o ↔ r.toInt = o.toInt := by rw [← Int64.toInt_inj]
  rw [hk3, e2, if_neg (by decide)]
  simp only [c2, own_c_eq, own_cmp_eq, eo]
  generalize ((2 ^ (1074 - 40) : Nat) : Int) = u at *
  generalize (one64 : Int) = w at *
  by_cases ro : r.toInt = o.toInt
  · rw [if_pos ro, if_pos (zo ro)]
  · have := a1.1 (by omega)
    rw [if_neg ro, if_neg (by omega)]
theorem own_ok3 (hwd : wd = (if (ic &&& (1 : Int32)) = (0 : Int32) then (0 : Int32) else (1 : Int32))) (hos : (((ic.toUInt32 >>> ((1 : Int32) &&& 31).toUInt32).toInt32) &&& (3 : Int32)) = os) (ho : o = (if os = (0 : Int32) then (0 : Int64) else (if os = (1 : Int32) then (if wd = (0 : Int32) then ((1 : Int64) <<< ((((ja &&& (63 : Int64)) % (40 : Int64)).toInt32) &&& 0x3f).toInt64) else ((1 : Int64) <<< ((((ja &&& (63 : Int64)) % (63 : Int64)).toInt32) &&& 0x3f).toInt64)) else (if wd = (0 : Int32) then (ja &&& (1099511627775 : Int64)) else (ja &&& (9223372036854775807 : Int64)))))) (hrs : (((ic.toUInt32 >>> ((3 : Int32) &&& 31).toUInt32).toInt32) &&& (3 : Int32)) = rs) (hbb : (jb &&& (9223372036854775807 : Int64)) = bb) (hr : r = (if rs = (0 : Int32) then (0 : Int64) else (if rs = (1 : Int32) then o else (if o = (9223372036854775807 : Int64) then bb else (bb % (o + (1 : Int64))))))) (h : ¬ o = (0 : Int64)) (hs : shareV o r = s_) (hk1 : k1 = (if (0 : Int32) < (cmpValue (FP.dcmp (0 : UInt64) s_) .g) then (0 : Int32) else (if (0 : Int32) < (cmpValue (FP.dcmp s_ (4607182418800017408 : UInt64)) .g) then (0 : Int32) else (if r = (0 : Int64) then (if (cmpValue (FP.dcmp s_ (0 : UInt64)) .l) = (0 : Int32) then (if r = o then (if (cmpValue (FP.dcmp s_ (4607182418800017408 : UInt64)) .l) = (0 : Int32) then (1 : Int32) else (0 : Int32)) else (1 : Int32)) else (0 : Int32)) else (if (cmpValue (FP.dcmp s_ (0 : UInt64)) .l) = (0 : Int32) then (0 : Int32) else (if r = o then (if (cmpValue (FP.dcmp s_ (4607182418800017408 : UInt64)) .l) = (0 : Int32) then (1 : Int32) else (0 : Int32)) else (1 : Int32))))))) (hk2 : k2 = (if (o &&& (o - (1 : Int64))) = (0 : Int64) then (if k1 = (0 : Int32) then (0 : Int32) else (if (cmpValue (FP.dcmp (FP.dmul s_ (FP.l2d o)) (FP.l2d r)) .l) = (0 : Int32) then (1 : Int32) else (0 : Int32))) else k1)) (hk3 : k3 = (if k2 = (0 : Int32) then (0 : Int32) else (if r = o then (if (cmpValue (FP.dcmp s_ (4607182418800017408 : UInt64)) .l) = (0 : Int32) then (1 : Int32) else (0 : Int32)) else (if (cmpValue (FP.dcmp s_ (4607182418800017408 : UInt64)) .l) = (0 : Int32) then (0 : Int32) else (1 : Int32))))) (hw : wd = (0 : Int32)) : ¬ (k3 = (0 : Int32)) := by
  rw [own_K3 hwd hos ho hrs hbb hr h hs hk1 hk2 hk3 hw]; decide
theorem own_K4 (hwd : wd = (if (ic &&& (1 : Int32)) = (0 : Int32) then (0 : Int32) else (1 : Int32))) (hos : (((ic.toUInt32 >>> ((1 : Int32) &&& 31).toUInt32).toInt32) &&& (3 : Int32)) = os) (ho : o = (if os = (0 : Int32) then (0 : Int64) else (if os = (1 : Int32) then (if wd = (0 : Int32) then ((1 : Int64) <<< ((((ja &&& (63 : Int64)) % (40 : Int64)).toInt32) &&& 0x3f).toInt64) else ((1 : Int64) <<< ((((ja &&& (63 : Int64)) % (63 : Int64)).toInt32) &&& 0x3f).toInt64)) else (if wd = (0 : Int32) then (ja &&& (1099511627775 : Int64)) else (ja &&& (9223372036854775807 : Int64)))))) (hrs : (((ic.toUInt32 >>> ((3 : Int32) &&& 31).toUInt32).toInt32) &&& (3 : Int32)) = rs) (hbb : (jb &&& (9223372036854775807 : Int64)) = bb) (hr : r = (if rs = (0 : Int32) then (0 : Int64) else (if rs = (1 : Int32) then o else (if o = (9223372036854775807 : Int64) then bb else (bb % (o + (1 : Int64))))))) (h : ¬ o = (0 : Int64)) (hs : shareV o r = s_) (hw : wd = (0 : Int32)) (hs2 : shareV ((2 : Int64) * o) ((2 : Int64) * r) = s2) (hk4 : k4 = (if (cmpValue (FP.dcmp s2 s_) .l) = (0 : Int32) then (1 : Int32) else (0 : Int32))) : k4 = 1 := by
  obtain ⟨a, b, c, e, lt⟩ := own_all hwd hos ho hrs hbb hr h hs
  have lt := lt hw
  have l2 : (2 : Int64).toInt = 2 := by decide
  have e1 : ((2 : Int64) * o).toInt = 2 * o.toInt := by rw [Jvm.Kit.i64_mul (by rw [l2]; omega) (by rw [l2]; omega), l2]
  have e2 : ((2 : Int64) * r).toInt = 2 * r.toInt := by rw [Jvm.Kit.i64_mul (by rw [l2]; omega) (by rw [l2]; omega), l2]
  have hne : ¬ ((2 : Int64) * o) = (0 : Int64) := fun q => by rw [q, show (0 : Int64).toInt = 0 from by decide] at e1; omega
  have es2 : s2 = FP.ddiv (FP.l2d ((2 : Int64) * r)) (FP.l2d ((2 : Int64) * o)) := by rw [← hs2]; unfold shareV; rw [if_neg hne]
  have zr := own_l2d (n := r) (by omega)
  have zo := own_l2d (n := o) (by omega)
  have zr2 := own_l2d (n := (2 : Int64) * r) (by omega)
  have zo2 := own_l2d (n := (2 : Int64) * o) (by omega)
  rw [e2] at zr2; rw [e1] at zo2
  have op := own_opos
  have sg : ∀ n : Int64, 0 ≤ n.toInt → sgn (val64 (FP.l2d n)) = false := fun n hn => by
    obtain ⟨c, q, hv⟩ := l2d_shape n
    have hv' : val64 (FP.l2d n) = _ := hv
    rw [hv']; show decide (n.toInt < 0) = false
    simp; omega
  have key := own_same zr2 zo2 zr zo (Int.mul_pos (by omega) op) (Int.mul_pos (by omega) op) (sg _ (by omega)) (sg _ a) (by generalize (one64 : Int) = w; ac_rfl)
  have nn : val64 (FP.ddiv (FP.l2d r) (FP.l2d o)) ≠ .nan := by
    obtain ⟨q, hq, -⟩ := own_S a b c; exact hq.ne
  have eb : s2 = s_ := by rw [es2, e]; exact val64_inj (by rw [key]; exact nn) key
  rw [hk4, eb, show FP.dcmp s_ s_ = some .eq from dcmp_refl ((notNaN_iff _).mpr (by rw [e]; exact nn))]; decide
theorem own_ok4 (hwd : wd = (if (ic &&& (1 : Int32)) = (0 : Int32) then (0 : Int32) else (1 : Int32))) (hos : (((ic.toUInt32 >>> ((1 : Int32) &&& 31).toUInt32).toInt32) &&& (3 : Int32)) = os) (ho : o = (if os = (0 : Int32) then (0 : Int64) else (if os = (1 : Int32) then (if wd = (0 : Int32) then ((1 : Int64) <<< ((((ja &&& (63 : Int64)) % (40 : Int64)).toInt32) &&& 0x3f).toInt64) else ((1 : Int64) <<< ((((ja &&& (63 : Int64)) % (63 : Int64)).toInt32) &&& 0x3f).toInt64)) else (if wd = (0 : Int32) then (ja &&& (1099511627775 : Int64)) else (ja &&& (9223372036854775807 : Int64)))))) (hrs : (((ic.toUInt32 >>> ((3 : Int32) &&& 31).toUInt32).toInt32) &&& (3 : Int32)) = rs) (hbb : (jb &&& (9223372036854775807 : Int64)) = bb) (hr : r = (if rs = (0 : Int32) then (0 : Int64) else (if rs = (1 : Int32) then o else (if o = (9223372036854775807 : Int64) then bb else (bb % (o + (1 : Int64))))))) (h : ¬ o = (0 : Int64)) (hs : shareV o r = s_) (hk1 : k1 = (if (0 : Int32) < (cmpValue (FP.dcmp (0 : UInt64) s_) .g) then (0 : Int32) else (if (0 : Int32) < (cmpValue (FP.dcmp s_ (4607182418800017408 : UInt64)) .g) then (0 : Int32) else (if r = (0 : Int64) then (if (cmpValue (FP.dcmp s_ (0 : UInt64)) .l) = (0 : Int32) then (if r = o then (if (cmpValue (FP.dcmp s_ (4607182418800017408 : UInt64)) .l) = (0 : Int32) then (1 : Int32) else (0 : Int32)) else (1 : Int32)) else (0 : Int32)) else (if (cmpValue (FP.dcmp s_ (0 : UInt64)) .l) = (0 : Int32) then (0 : Int32) else (if r = o then (if (cmpValue (FP.dcmp s_ (4607182418800017408 : UInt64)) .l) = (0 : Int32) then (1 : Int32) else (0 : Int32)) else (1 : Int32))))))) (hk2 : k2 = (if (o &&& (o - (1 : Int64))) = (0 : Int64) then (if k1 = (0 : Int32) then (0 : Int32) else (if (cmpValue (FP.dcmp (FP.dmul s_ (FP.l2d o)) (FP.l2d r)) .l) = (0 : Int32) then (1 : Int32) else (0 : Int32))) else k1)) (hk3 : k3 = (if k2 = (0 : Int32) then (0 : Int32) else (if r = o then (if (cmpValue (FP.dcmp s_ (4607182418800017408 : UInt64)) .l) = (0 : Int32) then (1 : Int32) else (0 : Int32)) else (if (cmpValue (FP.dcmp s_ (4607182418800017408 : UInt64)) .l) = (0 : Int32) then (0 : Int32) else (1 : Int32))))) (hw : wd = (0 : Int32)) (hs2 : shareV ((2 : Int64) * o) ((2 : Int64) * r) = s2) (hk4 : k4 = (if (cmpValue (FP.dcmp s2 s_) .l) = (0 : Int32) then (1 : Int32) else (0 : Int32))) : ¬ (k4 = (0 : Int32)) := by
  rw [own_K4 hwd hos ho hrs hbb hr h hs hw hs2 hk4]; decide
theorem own_f3 (hwd : wd = (if (ic &&& (1 : Int32)) = (0 : Int32) then (0 : Int32) else (1 : Int32))) (hos : (((ic.toUInt32 >>> ((1 : Int32) &&& 31).toUInt32).toInt32) &&& (3 : Int32)) = os) (ho : o = (if os = (0 : Int32) then (0 : Int64) else (if os = (1 : Int32) then (if wd = (0 : Int32) then ((1 : Int64) <<< ((((ja &&& (63 : Int64)) % (40 : Int64)).toInt32) &&& 0x3f).toInt64) else ((1 : Int64) <<< ((((ja &&& (63 : Int64)) % (63 : Int64)).toInt32) &&& 0x3f).toInt64)) else (if wd = (0 : Int32) then (ja &&& (1099511627775 : Int64)) else (ja &&& (9223372036854775807 : Int64)))))) (hrs : (((ic.toUInt32 >>> ((3 : Int32) &&& 31).toUInt32).toInt32) &&& (3 : Int32)) = rs) (hbb : (jb &&& (9223372036854775807 : Int64)) = bb) (hr : r = (if rs = (0 : Int32) then (0 : Int64) else (if rs = (1 : Int32) then o else (if o = (9223372036854775807 : Int64) then bb else (bb % (o + (1 : Int64))))))) (h : ¬ o = (0 : Int64)) (hs : shareV o r = s_) (hk1 : k1 = (if (0 : Int32) < (cmpValue (FP.dcmp (0 : UInt64) s_) .g) then (0 : Int32) else (if (0 : Int32) < (cmpValue (FP.dcmp s_ (4607182418800017408 : UInt64)) .g) then (0 : Int32) else (if r = (0 : Int64) then (if (cmpValue (FP.dcmp s_ (0 : UInt64)) .l) = (0 : Int32) then (if r = o then (if (cmpValue (FP.dcmp s_ (4607182418800017408 : UInt64)) .l) = (0 : Int32) then (1 : Int32) else (0 : Int32)) else (1 : Int32)) else (0 : Int32)) else (if (cmpValue (FP.dcmp s_ (0 : UInt64)) .l) = (0 : Int32) then (0 : Int32) else (if r = o then (if (cmpValue (FP.dcmp s_ (4607182418800017408 : UInt64)) .l) = (0 : Int32) then (1 : Int32) else (0 : Int32)) else (1 : Int32))))))) (hk2 : k2 = (if (o &&& (o - (1 : Int64))) = (0 : Int64) then (if k1 = (0 : Int32) then (0 : Int32) else (if (cmpValue (FP.dcmp (FP.dmul s_ (FP.l2d o)) (FP.l2d r)) .l) = (0 : Int32) then (1 : Int32) else (0 : Int32))) else k1)) (hk3 : k3 = (if k2 = (0 : Int32) then (0 : Int32) else (if r = o then (if (cmpValue (FP.dcmp s_ (4607182418800017408 : UInt64)) .l) = (0 : Int32) then (1 : Int32) else (0 : Int32)) else (if (cmpValue (FP.dcmp s_ (4607182418800017408 : UInt64)) .l) = (0 : Int32) then (0 : Int32) else (1 : Int32))))) (hw : wd = (0 : Int32)) (hs2 : shareV ((2 : Int64) * o) ((2 : Int64) * r) = s2) (hk4 : k4 = (if (cmpValue (FP.dcmp s2 s_) .l) = (0 : Int32) then (1 : Int32) else (0 : Int32))) : k4 = 1 := own_K4 hwd hos ho hrs hbb hr h hs hw hs2 hk4
theorem own_f2 (hwd : wd = (if (ic &&& (1 : Int32)) = (0 : Int32) then (0 : Int32) else (1 : Int32))) (hos : (((ic.toUInt32 >>> ((1 : Int32) &&& 31).toUInt32).toInt32) &&& (3 : Int32)) = os) (ho : o = (if os = (0 : Int32) then (0 : Int64) else (if os = (1 : Int32) then (if wd = (0 : Int32) then ((1 : Int64) <<< ((((ja &&& (63 : Int64)) % (40 : Int64)).toInt32) &&& 0x3f).toInt64) else ((1 : Int64) <<< ((((ja &&& (63 : Int64)) % (63 : Int64)).toInt32) &&& 0x3f).toInt64)) else (if wd = (0 : Int32) then (ja &&& (1099511627775 : Int64)) else (ja &&& (9223372036854775807 : Int64)))))) (hrs : (((ic.toUInt32 >>> ((3 : Int32) &&& 31).toUInt32).toInt32) &&& (3 : Int32)) = rs) (hbb : (jb &&& (9223372036854775807 : Int64)) = bb) (hr : r = (if rs = (0 : Int32) then (0 : Int64) else (if rs = (1 : Int32) then o else (if o = (9223372036854775807 : Int64) then bb else (bb % (o + (1 : Int64))))))) (h : ¬ o = (0 : Int64)) (hs : shareV o r = s_) (hk1 : k1 = (if (0 : Int32) < (cmpValue (FP.dcmp (0 : UInt64) s_) .g) then (0 : Int32) else (if (0 : Int32) < (cmpValue (FP.dcmp s_ (4607182418800017408 : UInt64)) .g) then (0 : Int32) else (if r = (0 : Int64) then (if (cmpValue (FP.dcmp s_ (0 : UInt64)) .l) = (0 : Int32) then (if r = o then (if (cmpValue (FP.dcmp s_ (4607182418800017408 : UInt64)) .l) = (0 : Int32) then (1 : Int32) else (0 : Int32)) else (1 : Int32)) else (0 : Int32)) else (if (cmpValue (FP.dcmp s_ (0 : UInt64)) .l) = (0 : Int32) then (0 : Int32) else (if r = o then (if (cmpValue (FP.dcmp s_ (4607182418800017408 : UInt64)) .l) = (0 : Int32) then (1 : Int32) else (0 : Int32)) else (1 : Int32))))))) (hk2 : k2 = (if (o &&& (o - (1 : Int64))) = (0 : Int64) then (if k1 = (0 : Int32) then (0 : Int32) else (if (cmpValue (FP.dcmp (FP.dmul s_ (FP.l2d o)) (FP.l2d r)) .l) = (0 : Int32) then (1 : Int32) else (0 : Int32))) else k1)) (hk3 : k3 = (if k2 = (0 : Int32) then (0 : Int32) else (if r = o then (if (cmpValue (FP.dcmp s_ (4607182418800017408 : UInt64)) .l) = (0 : Int32) then (1 : Int32) else (0 : Int32)) else (if (cmpValue (FP.dcmp s_ (4607182418800017408 : UInt64)) .l) = (0 : Int32) then (0 : Int32) else (1 : Int32))))) (hw : wd = (0 : Int32)) (hs2 : shareV ((2 : Int64) * o) ((2 : Int64) * r) = s2) (hk4 : k4 = (if (cmpValue (FP.dcmp s2 s_) .l) = (0 : Int32) then (1 : Int32) else (0 : Int32))) (hlt : r < o) (hs3 : shareV o (r + (1 : Int64)) = s3) (hk5 : k5 = (if (0 : Int32) < (cmpValue (FP.dcmp s3 s_) .l) then (1 : Int32) else (0 : Int32))) : k5 = 1 := by
  obtain ⟨a, b, c, e, lt⟩ := own_all hwd hos ho hrs hbb hr h hs
  have lt := lt hw
  rw [Int64.lt_iff_toInt_lt] at hlt
  have l1 : (1 : Int64).toInt = 1 := by decide
  have e1 : (r + 1).toInt = r.toInt + 1 := by rw [Jvm.Kit.i64_add (by rw [l1]; omega) (by rw [l1]; omega), l1]
  have es3 : s3 = FP.ddiv (FP.l2d (r + (1 : Int64))) (FP.l2d o) := by rw [← hs3]; unfold shareV; rw [if_neg h]
  obtain ⟨q, hq, hQ, -⟩ := own_S a b c
  obtain ⟨q', hq', hQ', -⟩ := own_S (r := r + 1) (o := o) (by omega) (by omega) c
  rw [← e] at hq
  rw [← es3] at hq'
  rw [(own_l2d (n := r) (by omega)).2, (own_l2d (n := o) (by omega)).2] at hQ
  rw [(own_l2d (n := r + 1) (by omega)).2, (own_l2d (n := o) (by omega)).2, e1] at hQ'
  -- two neighbouring parts of 2^-42 lie between
  obtain ⟨i, hi⟩ : ∃ i : Int, i = r.toInt * 4398046511104 / o.toInt + 1 := ⟨_, rfl⟩
  have d1 := Int.ediv_mul_le (r.toInt * 4398046511104) (b := o.toInt) (by omega)
  have d2 := Int.lt_ediv_add_one_mul_self (r.toInt * 4398046511104) (show 0 < o.toInt by omega)
  have d3 : 0 ≤ r.toInt * 4398046511104 / o.toInt := Int.ediv_nonneg (by omega) (by omega)
  have d4 : r.toInt * 4398046511104 / o.toInt < 4398046511104 := Int.ediv_lt_of_lt_mul (by omega) (by rw [Int.mul_comm 4398046511104]; exact Int.mul_lt_mul_of_pos_right hlt (by decide))
  have m1 : (i + 1) * o.toInt = r.toInt * 4398046511104 / o.toInt * o.toInt + 2 * o.toInt := by rw [hi, Int.add_mul, Int.add_mul, Int.one_mul]; omega
  have m2 : i * o.toInt = r.toInt * 4398046511104 / o.toInt * o.toInt + o.toInt := by rw [hi, Int.add_mul, Int.one_mul]
  rw [Int.add_mul, Int.one_mul] at d2
  have a1 := own_quo_int hQ i 42 (by decide) (by omega)
  have a2 := own_quo_int hQ' (i + 1) 42 (by decide) (by omega)
  have k42 : ((2 ^ 42 : Nat) : Int) = 4398046511104 := rfl
  rw [k42] at a1 a2
  have pu : (0 : Int) < ((2 ^ (1074 - 42) : Nat) : Int) := Int.natCast_pos.mpr (Nat.two_pow_pos _)
  have b1 := a1.1 (by rw [m2]; omega)
  have b2 := a2.2 (by rw [m1]; omega)
  rw [Int.add_mul, Int.one_mul] at b2
  rw [hk5, if_pos]
  rw [own_cl_gt, hq'.cmp hq, own_cmp_gt]; omega
end Given
theorem own_f0 {o r : Int64} {s_ : UInt64} {v : Int32} (h : o = (0 : Int64)) (hs : shareV o r = s_) (hv : v = (if (cmpValue (FP.dcmp s_ (0 : UInt64)) .l) = (0 : Int32) then (1 : Int32) else (0 : Int32))) : v = 1 := by
  unfold shareV at hs
  rw [if_pos h] at hs
  rw [hv, ← hs]; decide +kernel
end PureLaw

theorem pd_3 : parseMethodDescriptor "(JJI)D" = some ⟨[.long, .long, .int], some .double⟩ := by decide +kernel
theorem ef_rm0 (m : MethodId) (ja : Int64) (jb : Int64) (ic : Int32) : entryFrame m #[(.long ja), (.long jb), (.int ic)] maxLocals = mkF m 0 #[.val (.long ja), .second, .val (.long jb), .second, .val (.int ic), .unset, .unset, .unset, .unset, .unset, .unset, .unset, .unset, .unset, .unset, .unset, .unset] [] := by first | (simp [entryFrame, mkF, argsToLocals, Value.category, maxLocals]; done) | rfl
def Q_rm0 (Z : State) (ja : Int64) (jb : Int64) (ic : Int32) (h0 : Heap) (n0 : Nat) (v : Option Value) (h : Heap) (L : List Loc) : Prop := v = some (.int 1) ∧ Fr n0 L
set_option maxRecDepth 65536 in
set_option maxHeartbeats 40000000 in
theorem rm0 (l : Launch) (Z : State) (aw : Array Value) (hw : ∀ d ∈ tables_1, d.before aw Z = true) (ws : List Jvm.Cond) (ja : Int64) (jb : Int64) (ic : Int32) (h0 : Heap) (n0 : Nat) (Z0 : n0 ≤ h0.size) :
    MetFree l x (head1 (Jvm.Cond.code x code maxLocals ret :: ws) room_1) (fun a U => a = #[(.long ja), (.long jb), (.int ic)] ∧ Z.Warmed39 U.vm ∧ U.heap = h0) (fun _ _ _ _ _ => True) (fun _ U o U' => ∃ v L, o = .returned v ∧ Q_rm0 Z ja jb ic h0 n0 v U'.heap L ∧ FrameEnd U o U' L 3 21) := by
  refine MetFree.of_bodySF (plainFor_of_name pn_2) hisR ?_
  intro p e s m args below meth c s₁ Bd hml0 hP hK
  obtain ⟨rfl, hZ, hh⟩ := hP
  have hx := Bd.exec
  have hby := Bd.bytes
  have hml : c.maxLocals = 17 := hml0
  have hown : s.vm.findClass "com/example/deliberate_scaler/deliberatescaler/model/OutcomeRejectedSharePinLaw" = some m.cls := findClass_of_methodNamed Bd.named
  have hnm := (name_of_methodNamed Bd.named Bd.method).1
  have hlk : meth.locks = false := BodyLoose.notSynchronized Bd
  have X0 : Stand p l e room_1 s m #[(.long ja), (.long jb), (.int ic)] below meth c s₁ [] 0 0 := Stand.of_body Bd
  have e0 : s₁.heap = h0 := by rw [← hh, Bd.state]; rfl
  have N0 := Fr.nil n0
  have ZZ := Z0
  show Go p e below s 3 21 (fun v h L => Q_rm0 Z ja jb ic h0 n0 v h L) s₁ (entryFrame m #[(.long ja), (.long jb), (.int ic)] maxLocals)
  refine Go.cast (ef_rm0 m ja jb ic) ?_
  refine Go.gen ?_
  intro K1 K2 QQ hK1 hK2 hQQ
  refine Go.on (fun _ k => XS.iload X0.here hx rfl (hb hby at_0) rfl k) ?_
  show Go _ _ _ _ _ _ _ _ (mkF m 2 #[.val (.long ja), .second, .val (.long jb), .second, .val (.int ic), .unset, .unset, .unset, .unset, .unset, .unset, .unset, .unset, .unset, .unset, .unset, .unset] [(.int ic)])
  refine Go.on (fun _ k => XS.iconst X0.here hx rfl (hb hby at_2) k) ?_
  show Go _ _ _ _ _ _ _ _ (mkF m 3 #[.val (.long ja), .second, .val (.long jb), .second, .val (.int ic), .unset, .unset, .unset, .unset, .unset, .unset, .unset, .unset, .unset, .unset, .unset, .unset] [(.int (1 : Int32)), (.int ic)])
  refine Go.on (fun _ k => XS.iand X0.here hx rfl (hb hby at_3) rfl k) ?_
  show Go _ _ _ _ _ _ _ _ (mkF m 4 #[.val (.long ja), .second, .val (.long jb), .second, .val (.int ic), .unset, .unset, .unset, .unset, .unset, .unset, .unset, .unset, .unset, .unset, .unset, .unset] [(.int (ic &&& (1 : Int32)))])
  suffices hJ1 : ∀ (wd : Int32), wd = (if (ic &&& (1 : Int32)) = (0 : Int32) then (0 : Int32) else (1 : Int32)) → Go p e below s K1 K2 QQ s₁ (mkF m 12 #[.val (.long ja), .second, .val (.long jb), .second, .val (.int ic), .unset, .unset, .unset, .unset, .unset, .unset, .unset, .unset, .unset, .unset, .unset, .unset] [(.int wd)]) by
    by_cases hc2 : (ic &&& (1 : Int32)) = (0 : Int32)
    · -- pc 4 yes
      refine Go.on (fun _ k => XS.ifYes X0.here hx rfl (pc0 := 4) (pc' := 11) rfl (hb hby at_4) rfl ((if0 _ _).trans (teq hc2).1) (by decide) (by decide) k) ?_
      show Go _ _ _ _ _ _ _ _ (mkF m 11 #[.val (.long ja), .second, .val (.long jb), .second, .val (.int ic), .unset, .unset, .unset, .unset, .unset, .unset, .unset, .unset, .unset, .unset, .unset, .unset] [])
      refine Go.on (fun _ k => XS.iconst X0.here hx rfl (hb hby at_11) k) ?_
      show Go _ _ _ _ _ _ _ _ (mkF m 12 #[.val (.long ja), .second, .val (.long jb), .second, .val (.int ic), .unset, .unset, .unset, .unset, .unset, .unset, .unset, .unset, .unset, .unset, .unset, .unset] [(.int (0 : Int32))])
      exact hJ1 _ (by rw [if_pos hc2])
    · -- pc 4 no
      refine Go.on (fun _ k => XS.ifNo X0.here hx rfl (hb hby at_4) rfl ((if0 _ _).trans (feq hc2).1) k) ?_
      show Go _ _ _ _ _ _ _ _ (mkF m 7 #[.val (.long ja), .second, .val (.long jb), .second, .val (.int ic), .unset, .unset, .unset, .unset, .unset, .unset, .unset, .unset, .unset, .unset, .unset, .unset] [])
      refine Go.on (fun _ k => XS.iconst X0.here hx rfl (hb hby at_7) k) ?_
      show Go _ _ _ _ _ _ _ _ (mkF m 8 #[.val (.long ja), .second, .val (.long jb), .second, .val (.int ic), .unset, .unset, .unset, .unset, .unset, .unset, .unset, .unset, .unset, .unset, .unset, .unset] [(.int (1 : Int32))])
      refine Go.on (fun _ k => XS.goto X0.here hx rfl (pc0 := 8) (pc' := 12) rfl (hb hby at_8) (by decide) (by decide) k) ?_
      show Go _ _ _ _ _ _ _ _ (mkF m 12 #[.val (.long ja), .second, .val (.long jb), .second, .val (.int ic), .unset, .unset, .unset, .unset, .unset, .unset, .unset, .unset, .unset, .unset, .unset, .unset] [(.int (1 : Int32))])
      exact hJ1 _ (by rw [if_neg hc2])
  intro wd hwd
  refine Go.on (fun _ k => XS.istore X0.here hx rfl (hb hby at_12) rfl (l' := #[.val (.long ja), .second, .val (.long jb), .second, .val (.int ic), .val (.int wd), .unset, .unset, .unset, .unset, .unset, .unset, .unset, .unset, .unset, .unset, .unset]) rfl k) ?_
  show Go _ _ _ _ _ _ _ _ (mkF m 14 #[.val (.long ja), .second, .val (.long jb), .second, .val (.int ic), .val (.int wd), .unset, .unset, .unset, .unset, .unset, .unset, .unset, .unset, .unset, .unset, .unset] [])
  refine Go.on (fun _ k => XS.iload X0.here hx rfl (hb hby at_14) rfl k) ?_
  show Go _ _ _ _ _ _ _ _ (mkF m 16 #[.val (.long ja), .second, .val (.long jb), .second, .val (.int ic), .val (.int wd), .unset, .unset, .unset, .unset, .unset, .unset, .unset, .unset, .unset, .unset, .unset] [(.int ic)])
  refine Go.on (fun _ k => XS.iconst X0.here hx rfl (hb hby at_16) k) ?_
  show Go _ _ _ _ _ _ _ _ (mkF m 17 #[.val (.long ja), .second, .val (.long jb), .second, .val (.int ic), .val (.int wd), .unset, .unset, .unset, .unset, .unset, .unset, .unset, .unset, .unset, .unset, .unset] [(.int (1 : Int32)), (.int ic)])
  refine Go.on (fun _ k => XS.iushr X0.here hx rfl (hb hby at_17) rfl k) ?_
  show Go _ _ _ _ _ _ _ _ (mkF m 18 #[.val (.long ja), .second, .val (.long jb), .second, .val (.int ic), .val (.int wd), .unset, .unset, .unset, .unset, .unset, .unset, .unset, .unset, .unset, .unset, .unset] [(.int ((ic.toUInt32 >>> ((1 : Int32) &&& 31).toUInt32).toInt32))])
  refine Go.on (fun _ k => XS.iconst X0.here hx rfl (hb hby at_18) k) ?_
  show Go _ _ _ _ _ _ _ _ (mkF m 19 #[.val (.long ja), .second, .val (.long jb), .second, .val (.int ic), .val (.int wd), .unset, .unset, .unset, .unset, .unset, .unset, .unset, .unset, .unset, .unset, .unset] [(.int (3 : Int32)), (.int ((ic.toUInt32 >>> ((1 : Int32) &&& 31).toUInt32).toInt32))])
  refine Go.on (fun _ k => XS.iand X0.here hx rfl (hb hby at_19) rfl k) ?_
  show Go _ _ _ _ _ _ _ _ (mkF m 20 #[.val (.long ja), .second, .val (.long jb), .second, .val (.int ic), .val (.int wd), .unset, .unset, .unset, .unset, .unset, .unset, .unset, .unset, .unset, .unset, .unset] [(.int (((ic.toUInt32 >>> ((1 : Int32) &&& 31).toUInt32).toInt32) &&& (3 : Int32)))])
  refine Go.on (fun _ k => XS.istore X0.here hx rfl (hb hby at_20) rfl (l' := #[.val (.long ja), .second, .val (.long jb), .second, .val (.int ic), .val (.int wd), .val (.int (((ic.toUInt32 >>> ((1 : Int32) &&& 31).toUInt32).toInt32) &&& (3 : Int32))), .unset, .unset, .unset, .unset, .unset, .unset, .unset, .unset, .unset, .unset]) rfl k) ?_
  show Go _ _ _ _ _ _ _ _ (mkF m 22 #[.val (.long ja), .second, .val (.long jb), .second, .val (.int ic), .val (.int wd), .val (.int (((ic.toUInt32 >>> ((1 : Int32) &&& 31).toUInt32).toInt32) &&& (3 : Int32))), .unset, .unset, .unset, .unset, .unset, .unset, .unset, .unset, .unset, .unset] [])
  generalize hos : (((ic.toUInt32 >>> ((1 : Int32) &&& 31).toUInt32).toInt32) &&& (3 : Int32)) = os
  show Go _ _ _ _ _ _ _ _ (mkF m 22 #[.val (.long ja), .second, .val (.long jb), .second, .val (.int ic), .val (.int wd), .val (.int os), .unset, .unset, .unset, .unset, .unset, .unset, .unset, .unset, .unset, .unset] [])
  refine Go.on (fun _ k => XS.iload X0.here hx rfl (hb hby at_22) rfl k) ?_
  show Go _ _ _ _ _ _ _ _ (mkF m 24 #[.val (.long ja), .second, .val (.long jb), .second, .val (.int ic), .val (.int wd), .val (.int os), .unset, .unset, .unset, .unset, .unset, .unset, .unset, .unset, .unset, .unset] [(.int os)])
  suffices hJ3 : ∀ (o : Int64), o = (if os = (0 : Int32) then (0 : Int64) else (if os = (1 : Int32) then (if wd = (0 : Int32) then ((1 : Int64) <<< ((((ja &&& (63 : Int64)) % (40 : Int64)).toInt32) &&& 0x3f).toInt64) else ((1 : Int64) <<< ((((ja &&& (63 : Int64)) % (63 : Int64)).toInt32) &&& 0x3f).toInt64)) else (if wd = (0 : Int32) then (ja &&& (1099511627775 : Int64)) else (ja &&& (9223372036854775807 : Int64))))) → Go p e below s K1 K2 QQ s₁ (mkF m 87 #[.val (.long ja), .second, .val (.long jb), .second, .val (.int ic), .val (.int wd), .val (.int os), .val (.long o), .second, .unset, .unset, .unset, .unset, .unset, .unset, .unset, .unset] []) by
    by_cases hc4 : os = (0 : Int32)
    · -- pc 24 yes
      refine Go.on (fun _ k => XS.ifNo X0.here hx rfl (hb hby at_24) rfl ((if0 _ _).trans (teq hc4).2) k) ?_
      show Go _ _ _ _ _ _ _ _ (mkF m 27 #[.val (.long ja), .second, .val (.long jb), .second, .val (.int ic), .val (.int wd), .val (.int os), .unset, .unset, .unset, .unset, .unset, .unset, .unset, .unset, .unset, .unset] [])
      refine Go.on (fun _ k => XS.lconst X0.here hx rfl (hb hby at_27) k) ?_
      show Go _ _ _ _ _ _ _ _ (mkF m 28 #[.val (.long ja), .second, .val (.long jb), .second, .val (.int ic), .val (.int wd), .val (.int os), .unset, .unset, .unset, .unset, .unset, .unset, .unset, .unset, .unset, .unset] [(.long (0 : Int64))])
      refine Go.on (fun _ k => XS.lstore X0.here hx rfl (hb hby at_28) rfl (l' := #[.val (.long ja), .second, .val (.long jb), .second, .val (.int ic), .val (.int wd), .val (.int os), .val (.long (0 : Int64)), .second, .unset, .unset, .unset, .unset, .unset, .unset, .unset, .unset]) rfl k) ?_
      show Go _ _ _ _ _ _ _ _ (mkF m 30 #[.val (.long ja), .second, .val (.long jb), .second, .val (.int ic), .val (.int wd), .val (.int os), .val (.long (0 : Int64)), .second, .unset, .unset, .unset, .unset, .unset, .unset, .unset, .unset] [])
      refine Go.on (fun _ k => XS.goto X0.here hx rfl (pc0 := 30) (pc' := 87) rfl (hb hby at_30) (by decide) (by decide) k) ?_
      show Go _ _ _ _ _ _ _ _ (mkF m 87 #[.val (.long ja), .second, .val (.long jb), .second, .val (.int ic), .val (.int wd), .val (.int os), .val (.long (0 : Int64)), .second, .unset, .unset, .unset, .unset, .unset, .unset, .unset, .unset] [])
      exact hJ3 _ (by rw [if_pos hc4])
    · -- pc 24 no
      refine Go.on (fun _ k => XS.ifYes X0.here hx rfl (pc0 := 24) (pc' := 33) rfl (hb hby at_24) rfl ((if0 _ _).trans (feq hc4).2) (by decide) (by decide) k) ?_
      show Go _ _ _ _ _ _ _ _ (mkF m 33 #[.val (.long ja), .second, .val (.long jb), .second, .val (.int ic), .val (.int wd), .val (.int os), .unset, .unset, .unset, .unset, .unset, .unset, .unset, .unset, .unset, .unset] [])
      refine Go.on (fun _ k => XS.iload X0.here hx rfl (hb hby at_33) rfl k) ?_
      show Go _ _ _ _ _ _ _ _ (mkF m 35 #[.val (.long ja), .second, .val (.long jb), .second, .val (.int ic), .val (.int wd), .val (.int os), .unset, .unset, .unset, .unset, .unset, .unset, .unset, .unset, .unset, .unset] [(.int os)])
      refine Go.on (fun _ k => XS.iconst X0.here hx rfl (hb hby at_35) k) ?_
      show Go _ _ _ _ _ _ _ _ (mkF m 36 #[.val (.long ja), .second, .val (.long jb), .second, .val (.int ic), .val (.int wd), .val (.int os), .unset, .unset, .unset, .unset, .unset, .unset, .unset, .unset, .unset, .unset] [(.int (1 : Int32)), (.int os)])
      by_cases hc5 : os = (1 : Int32)
      · -- pc 36 yes
        refine Go.on (fun _ k => XS.icmpNo X0.here hx rfl (hb hby at_36) rfl (teq hc5).2 k) ?_
        show Go _ _ _ _ _ _ _ _ (mkF m 39 #[.val (.long ja), .second, .val (.long jb), .second, .val (.int ic), .val (.int wd), .val (.int os), .unset, .unset, .unset, .unset, .unset, .unset, .unset, .unset, .unset, .unset] [])
        refine Go.on (fun _ k => XS.lconst X0.here hx rfl (hb hby at_39) k) ?_
        show Go _ _ _ _ _ _ _ _ (mkF m 40 #[.val (.long ja), .second, .val (.long jb), .second, .val (.int ic), .val (.int wd), .val (.int os), .unset, .unset, .unset, .unset, .unset, .unset, .unset, .unset, .unset, .unset] [(.long (1 : Int64))])
        refine Go.on (fun _ k => XS.lloadN X0.here hx rfl (hb hby at_40) rfl k) ?_
        show Go _ _ _ _ _ _ _ _ (mkF m 41 #[.val (.long ja), .second, .val (.long jb), .second, .val (.int ic), .val (.int wd), .val (.int os), .unset, .unset, .unset, .unset, .unset, .unset, .unset, .unset, .unset, .unset] [(.long ja), (.long (1 : Int64))])
        refine Go.on (fun _ k => X0.ldc2J hx hown (mvT hZ (hw _ (List.mem_of_getElem? (i := 38) rfl))) rfl (hb hby at_41) k) ?_
        show Go _ _ _ _ _ _ _ _ (mkF m 44 #[.val (.long ja), .second, .val (.long jb), .second, .val (.int ic), .val (.int wd), .val (.int os), .unset, .unset, .unset, .unset, .unset, .unset, .unset, .unset, .unset, .unset] [(.long (63 : Int64)), (.long ja), (.long (1 : Int64))])
        refine Go.on (fun _ k => XS.land X0.here hx rfl (hb hby at_44) rfl k) ?_
        show Go _ _ _ _ _ _ _ _ (mkF m 45 #[.val (.long ja), .second, .val (.long jb), .second, .val (.int ic), .val (.int wd), .val (.int os), .unset, .unset, .unset, .unset, .unset, .unset, .unset, .unset, .unset, .unset] [(.long (ja &&& (63 : Int64))), (.long (1 : Int64))])
        refine Go.on (fun _ k => XS.iload X0.here hx rfl (hb hby at_45) rfl k) ?_
        show Go _ _ _ _ _ _ _ _ (mkF m 47 #[.val (.long ja), .second, .val (.long jb), .second, .val (.int ic), .val (.int wd), .val (.int os), .unset, .unset, .unset, .unset, .unset, .unset, .unset, .unset, .unset, .unset] [(.int wd), (.long (ja &&& (63 : Int64))), (.long (1 : Int64))])
        by_cases hc6 : wd = (0 : Int32)
        · -- pc 47 yes
          refine Go.on (fun _ k => XS.ifYes X0.here hx rfl (pc0 := 47) (pc' := 56) rfl (hb hby at_47) rfl ((if0 _ _).trans (teq hc6).1) (by decide) (by decide) k) ?_
          show Go _ _ _ _ _ _ _ _ (mkF m 56 #[.val (.long ja), .second, .val (.long jb), .second, .val (.int ic), .val (.int wd), .val (.int os), .unset, .unset, .unset, .unset, .unset, .unset, .unset, .unset, .unset, .unset] [(.long (ja &&& (63 : Int64))), (.long (1 : Int64))])
          refine Go.on (fun _ k => X0.ldc2J hx hown (mvT hZ (hw _ (List.mem_of_getElem? (i := 39) rfl))) rfl (hb hby at_56) k) ?_
          show Go _ _ _ _ _ _ _ _ (mkF m 59 #[.val (.long ja), .second, .val (.long jb), .second, .val (.int ic), .val (.int wd), .val (.int os), .unset, .unset, .unset, .unset, .unset, .unset, .unset, .unset, .unset, .unset] [(.long (40 : Int64)), (.long (ja &&& (63 : Int64))), (.long (1 : Int64))])
          refine Go.on (fun _ k => own_lremM X0 hx rfl (hb hby at_59) rfl (by decide) k) ?_
          show Go _ _ _ _ _ _ _ _ (mkF m 60 #[.val (.long ja), .second, .val (.long jb), .second, .val (.int ic), .val (.int wd), .val (.int os), .unset, .unset, .unset, .unset, .unset, .unset, .unset, .unset, .unset, .unset] [(.long ((ja &&& (63 : Int64)) % (40 : Int64))), (.long (1 : Int64))])
          refine Go.on (fun _ k => XS.l2i X0.here hx rfl (hb hby at_60) rfl k) ?_
          show Go _ _ _ _ _ _ _ _ (mkF m 61 #[.val (.long ja), .second, .val (.long jb), .second, .val (.int ic), .val (.int wd), .val (.int os), .unset, .unset, .unset, .unset, .unset, .unset, .unset, .unset, .unset, .unset] [(.int (((ja &&& (63 : Int64)) % (40 : Int64)).toInt32)), (.long (1 : Int64))])
          refine Go.on (fun _ k => XS.lshl X0.here hx rfl (hb hby at_61) rfl k) ?_
          show Go _ _ _ _ _ _ _ _ (mkF m 62 #[.val (.long ja), .second, .val (.long jb), .second, .val (.int ic), .val (.int wd), .val (.int os), .unset, .unset, .unset, .unset, .unset, .unset, .unset, .unset, .unset, .unset] [(.long ((1 : Int64) <<< ((((ja &&& (63 : Int64)) % (40 : Int64)).toInt32) &&& 0x3f).toInt64))])
          refine Go.on (fun _ k => XS.lstore X0.here hx rfl (hb hby at_62) rfl (l' := #[.val (.long ja), .second, .val (.long jb), .second, .val (.int ic), .val (.int wd), .val (.int os), .val (.long ((1 : Int64) <<< ((((ja &&& (63 : Int64)) % (40 : Int64)).toInt32) &&& 0x3f).toInt64)), .second, .unset, .unset, .unset, .unset, .unset, .unset, .unset, .unset]) rfl k) ?_
          show Go _ _ _ _ _ _ _ _ (mkF m 64 #[.val (.long ja), .second, .val (.long jb), .second, .val (.int ic), .val (.int wd), .val (.int os), .val (.long ((1 : Int64) <<< ((((ja &&& (63 : Int64)) % (40 : Int64)).toInt32) &&& 0x3f).toInt64)), .second, .unset, .unset, .unset, .unset, .unset, .unset, .unset, .unset] [])
          refine Go.on (fun _ k => XS.goto X0.here hx rfl (pc0 := 64) (pc' := 87) rfl (hb hby at_64) (by decide) (by decide) k) ?_
          show Go _ _ _ _ _ _ _ _ (mkF m 87 #[.val (.long ja), .second, .val (.long jb), .second, .val (.int ic), .val (.int wd), .val (.int os), .val (.long ((1 : Int64) <<< ((((ja &&& (63 : Int64)) % (40 : Int64)).toInt32) &&& 0x3f).toInt64)), .second, .unset, .unset, .unset, .unset, .unset, .unset, .unset, .unset] [])
          exact hJ3 _ (by rw [if_neg hc4, if_pos hc5, if_pos hc6])
        · -- pc 47 no
          refine Go.on (fun _ k => XS.ifNo X0.here hx rfl (hb hby at_47) rfl ((if0 _ _).trans (feq hc6).1) k) ?_
          show Go _ _ _ _ _ _ _ _ (mkF m 50 #[.val (.long ja), .second, .val (.long jb), .second, .val (.int ic), .val (.int wd), .val (.int os), .unset, .unset, .unset, .unset, .unset, .unset, .unset, .unset, .unset, .unset] [(.long (ja &&& (63 : Int64))), (.long (1 : Int64))])
          refine Go.on (fun _ k => X0.ldc2J hx hown (mvT hZ (hw _ (List.mem_of_getElem? (i := 38) rfl))) rfl (hb hby at_50) k) ?_
          show Go _ _ _ _ _ _ _ _ (mkF m 53 #[.val (.long ja), .second, .val (.long jb), .second, .val (.int ic), .val (.int wd), .val (.int os), .unset, .unset, .unset, .unset, .unset, .unset, .unset, .unset, .unset, .unset] [(.long (63 : Int64)), (.long (ja &&& (63 : Int64))), (.long (1 : Int64))])
          refine Go.on (fun _ k => XS.goto X0.here hx rfl (pc0 := 53) (pc' := 59) rfl (hb hby at_53) (by decide) (by decide) k) ?_
          show Go _ _ _ _ _ _ _ _ (mkF m 59 #[.val (.long ja), .second, .val (.long jb), .second, .val (.int ic), .val (.int wd), .val (.int os), .unset, .unset, .unset, .unset, .unset, .unset, .unset, .unset, .unset, .unset] [(.long (63 : Int64)), (.long (ja &&& (63 : Int64))), (.long (1 : Int64))])
          refine Go.on (fun _ k => own_lremM X0 hx rfl (hb hby at_59) rfl (by decide) k) ?_
          show Go _ _ _ _ _ _ _ _ (mkF m 60 #[.val (.long ja), .second, .val (.long jb), .second, .val (.int ic), .val (.int wd), .val (.int os), .unset, .unset, .unset, .unset, .unset, .unset, .unset, .unset, .unset, .unset] [(.long ((ja &&& (63 : Int64)) % (63 : Int64))), (.long (1 : Int64))])
          refine Go.on (fun _ k => XS.l2i X0.here hx rfl (hb hby at_60) rfl k) ?_
          show Go _ _ _ _ _ _ _ _ (mkF m 61 #[.val (.long ja), .second, .val (.long jb), .second, .val (.int ic), .val (.int wd), .val (.int os), .unset, .unset, .unset, .unset, .unset, .unset, .unset, .unset, .unset, .unset] [(.int (((ja &&& (63 : Int64)) % (63 : Int64)).toInt32)), (.long (1 : Int64))])
          refine Go.on (fun _ k => XS.lshl X0.here hx rfl (hb hby at_61) rfl k) ?_
          show Go _ _ _ _ _ _ _ _ (mkF m 62 #[.val (.long ja), .second, .val (.long jb), .second, .val (.int ic), .val (.int wd), .val (.int os), .unset, .unset, .unset, .unset, .unset, .unset, .unset, .unset, .unset, .unset] [(.long ((1 : Int64) <<< ((((ja &&& (63 : Int64)) % (63 : Int64)).toInt32) &&& 0x3f).toInt64))])
          refine Go.on (fun _ k => XS.lstore X0.here hx rfl (hb hby at_62) rfl (l' := #[.val (.long ja), .second, .val (.long jb), .second, .val (.int ic), .val (.int wd), .val (.int os), .val (.long ((1 : Int64) <<< ((((ja &&& (63 : Int64)) % (63 : Int64)).toInt32) &&& 0x3f).toInt64)), .second, .unset, .unset, .unset, .unset, .unset, .unset, .unset, .unset]) rfl k) ?_
          show Go _ _ _ _ _ _ _ _ (mkF m 64 #[.val (.long ja), .second, .val (.long jb), .second, .val (.int ic), .val (.int wd), .val (.int os), .val (.long ((1 : Int64) <<< ((((ja &&& (63 : Int64)) % (63 : Int64)).toInt32) &&& 0x3f).toInt64)), .second, .unset, .unset, .unset, .unset, .unset, .unset, .unset, .unset] [])
          refine Go.on (fun _ k => XS.goto X0.here hx rfl (pc0 := 64) (pc' := 87) rfl (hb hby at_64) (by decide) (by decide) k) ?_
          show Go _ _ _ _ _ _ _ _ (mkF m 87 #[.val (.long ja), .second, .val (.long jb), .second, .val (.int ic), .val (.int wd), .val (.int os), .val (.long ((1 : Int64) <<< ((((ja &&& (63 : Int64)) % (63 : Int64)).toInt32) &&& 0x3f).toInt64)), .second, .unset, .unset, .unset, .unset, .unset, .unset, .unset, .unset] [])
          exact hJ3 _ (by rw [if_neg hc4, if_pos hc5, if_neg hc6])
      · -- pc 36 no
        refine Go.on (fun _ k => XS.icmpYes X0.here hx rfl (pc0 := 36) (pc' := 67) rfl (hb hby at_36) rfl (feq hc5).2 (by decide) (by decide) k) ?_
        show Go _ _ _ _ _ _ _ _ (mkF m 67 #[.val (.long ja), .second, .val (.long jb), .second, .val (.int ic), .val (.int wd), .val (.int os), .unset, .unset, .unset, .unset, .unset, .unset, .unset, .unset, .unset, .unset] [])
        refine Go.on (fun _ k => XS.iload X0.here hx rfl (hb hby at_67) rfl k) ?_
        show Go _ _ _ _ _ _ _ _ (mkF m 69 #[.val (.long ja), .second, .val (.long jb), .second, .val (.int ic), .val (.int wd), .val (.int os), .unset, .unset, .unset, .unset, .unset, .unset, .unset, .unset, .unset, .unset] [(.int wd)])
        by_cases hc7 : wd = (0 : Int32)
        · -- pc 69 yes
          refine Go.on (fun _ k => XS.ifYes X0.here hx rfl (pc0 := 69) (pc' := 80) rfl (hb hby at_69) rfl ((if0 _ _).trans (teq hc7).1) (by decide) (by decide) k) ?_
          show Go _ _ _ _ _ _ _ _ (mkF m 80 #[.val (.long ja), .second, .val (.long jb), .second, .val (.int ic), .val (.int wd), .val (.int os), .unset, .unset, .unset, .unset, .unset, .unset, .unset, .unset, .unset, .unset] [])
          refine Go.on (fun _ k => XS.lloadN X0.here hx rfl (hb hby at_80) rfl k) ?_
          show Go _ _ _ _ _ _ _ _ (mkF m 81 #[.val (.long ja), .second, .val (.long jb), .second, .val (.int ic), .val (.int wd), .val (.int os), .unset, .unset, .unset, .unset, .unset, .unset, .unset, .unset, .unset, .unset] [(.long ja)])
          refine Go.on (fun _ k => X0.ldc2J hx hown (mvT hZ (hw _ (List.mem_of_getElem? (i := 41) rfl))) rfl (hb hby at_81) k) ?_
          show Go _ _ _ _ _ _ _ _ (mkF m 84 #[.val (.long ja), .second, .val (.long jb), .second, .val (.int ic), .val (.int wd), .val (.int os), .unset, .unset, .unset, .unset, .unset, .unset, .unset, .unset, .unset, .unset] [(.long (1099511627775 : Int64)), (.long ja)])
          refine Go.on (fun _ k => XS.land X0.here hx rfl (hb hby at_84) rfl k) ?_
          show Go _ _ _ _ _ _ _ _ (mkF m 85 #[.val (.long ja), .second, .val (.long jb), .second, .val (.int ic), .val (.int wd), .val (.int os), .unset, .unset, .unset, .unset, .unset, .unset, .unset, .unset, .unset, .unset] [(.long (ja &&& (1099511627775 : Int64)))])
          refine Go.on (fun _ k => XS.lstore X0.here hx rfl (hb hby at_85) rfl (l' := #[.val (.long ja), .second, .val (.long jb), .second, .val (.int ic), .val (.int wd), .val (.int os), .val (.long (ja &&& (1099511627775 : Int64))), .second, .unset, .unset, .unset, .unset, .unset, .unset, .unset, .unset]) rfl k) ?_
          show Go _ _ _ _ _ _ _ _ (mkF m 87 #[.val (.long ja), .second, .val (.long jb), .second, .val (.int ic), .val (.int wd), .val (.int os), .val (.long (ja &&& (1099511627775 : Int64))), .second, .unset, .unset, .unset, .unset, .unset, .unset, .unset, .unset] [])
          exact hJ3 _ (by rw [if_neg hc4, if_neg hc5, if_pos hc7])
        · -- pc 69 no
          refine Go.on (fun _ k => XS.ifNo X0.here hx rfl (hb hby at_69) rfl ((if0 _ _).trans (feq hc7).1) k) ?_
          show Go _ _ _ _ _ _ _ _ (mkF m 72 #[.val (.long ja), .second, .val (.long jb), .second, .val (.int ic), .val (.int wd), .val (.int os), .unset, .unset, .unset, .unset, .unset, .unset, .unset, .unset, .unset, .unset] [])
          refine Go.on (fun _ k => XS.lloadN X0.here hx rfl (hb hby at_72) rfl k) ?_
          show Go _ _ _ _ _ _ _ _ (mkF m 73 #[.val (.long ja), .second, .val (.long jb), .second, .val (.int ic), .val (.int wd), .val (.int os), .unset, .unset, .unset, .unset, .unset, .unset, .unset, .unset, .unset, .unset] [(.long ja)])
          refine Go.on (fun _ k => X0.ldc2J hx hown (mvT hZ (hw _ (List.mem_of_getElem? (i := 0) rfl))) rfl (hb hby at_73) k) ?_
          show Go _ _ _ _ _ _ _ _ (mkF m 76 #[.val (.long ja), .second, .val (.long jb), .second, .val (.int ic), .val (.int wd), .val (.int os), .unset, .unset, .unset, .unset, .unset, .unset, .unset, .unset, .unset, .unset] [(.long (9223372036854775807 : Int64)), (.long ja)])
          refine Go.on (fun _ k => XS.land X0.here hx rfl (hb hby at_76) rfl k) ?_
          show Go _ _ _ _ _ _ _ _ (mkF m 77 #[.val (.long ja), .second, .val (.long jb), .second, .val (.int ic), .val (.int wd), .val (.int os), .unset, .unset, .unset, .unset, .unset, .unset, .unset, .unset, .unset, .unset] [(.long (ja &&& (9223372036854775807 : Int64)))])
          refine Go.on (fun _ k => XS.goto X0.here hx rfl (pc0 := 77) (pc' := 85) rfl (hb hby at_77) (by decide) (by decide) k) ?_
          show Go _ _ _ _ _ _ _ _ (mkF m 85 #[.val (.long ja), .second, .val (.long jb), .second, .val (.int ic), .val (.int wd), .val (.int os), .unset, .unset, .unset, .unset, .unset, .unset, .unset, .unset, .unset, .unset] [(.long (ja &&& (9223372036854775807 : Int64)))])
          refine Go.on (fun _ k => XS.lstore X0.here hx rfl (hb hby at_85) rfl (l' := #[.val (.long ja), .second, .val (.long jb), .second, .val (.int ic), .val (.int wd), .val (.int os), .val (.long (ja &&& (9223372036854775807 : Int64))), .second, .unset, .unset, .unset, .unset, .unset, .unset, .unset, .unset]) rfl k) ?_
          show Go _ _ _ _ _ _ _ _ (mkF m 87 #[.val (.long ja), .second, .val (.long jb), .second, .val (.int ic), .val (.int wd), .val (.int os), .val (.long (ja &&& (9223372036854775807 : Int64))), .second, .unset, .unset, .unset, .unset, .unset, .unset, .unset, .unset] [])
          exact hJ3 _ (by rw [if_neg hc4, if_neg hc5, if_neg hc7])
  intro o ho
  refine Go.on (fun _ k => XS.iload X0.here hx rfl (hb hby at_87) rfl k) ?_
  show Go _ _ _ _ _ _ _ _ (mkF m 89 #[.val (.long ja), .second, .val (.long jb), .second, .val (.int ic), .val (.int wd), .val (.int os), .val (.long o), .second, .unset, .unset, .unset, .unset, .unset, .unset, .unset, .unset] [(.int ic)])
  refine Go.on (fun _ k => XS.iconst X0.here hx rfl (hb hby at_89) k) ?_
  show Go _ _ _ _ _ _ _ _ (mkF m 90 #[.val (.long ja), .second, .val (.long jb), .second, .val (.int ic), .val (.int wd), .val (.int os), .val (.long o), .second, .unset, .unset, .unset, .unset, .unset, .unset, .unset, .unset] [(.int (3 : Int32)), (.int ic)])
  refine Go.on (fun _ k => XS.iushr X0.here hx rfl (hb hby at_90) rfl k) ?_
  show Go _ _ _ _ _ _ _ _ (mkF m 91 #[.val (.long ja), .second, .val (.long jb), .second, .val (.int ic), .val (.int wd), .val (.int os), .val (.long o), .second, .unset, .unset, .unset, .unset, .unset, .unset, .unset, .unset] [(.int ((ic.toUInt32 >>> ((3 : Int32) &&& 31).toUInt32).toInt32))])
  refine Go.on (fun _ k => XS.iconst X0.here hx rfl (hb hby at_91) k) ?_
  show Go _ _ _ _ _ _ _ _ (mkF m 92 #[.val (.long ja), .second, .val (.long jb), .second, .val (.int ic), .val (.int wd), .val (.int os), .val (.long o), .second, .unset, .unset, .unset, .unset, .unset, .unset, .unset, .unset] [(.int (3 : Int32)), (.int ((ic.toUInt32 >>> ((3 : Int32) &&& 31).toUInt32).toInt32))])
  refine Go.on (fun _ k => XS.iand X0.here hx rfl (hb hby at_92) rfl k) ?_
  show Go _ _ _ _ _ _ _ _ (mkF m 93 #[.val (.long ja), .second, .val (.long jb), .second, .val (.int ic), .val (.int wd), .val (.int os), .val (.long o), .second, .unset, .unset, .unset, .unset, .unset, .unset, .unset, .unset] [(.int (((ic.toUInt32 >>> ((3 : Int32) &&& 31).toUInt32).toInt32) &&& (3 : Int32)))])
  refine Go.on (fun _ k => XS.istore X0.here hx rfl (hb hby at_93) rfl (l' := #[.val (.long ja), .second, .val (.long jb), .second, .val (.int ic), .val (.int wd), .val (.int os), .val (.long o), .second, .val (.int (((ic.toUInt32 >>> ((3 : Int32) &&& 31).toUInt32).toInt32) &&& (3 : Int32))), .unset, .unset, .unset, .unset, .unset, .unset, .unset]) rfl k) ?_
  show Go _ _ _ _ _ _ _ _ (mkF m 95 #[.val (.long ja), .second, .val (.long jb), .second, .val (.int ic), .val (.int wd), .val (.int os), .val (.long o), .second, .val (.int (((ic.toUInt32 >>> ((3 : Int32) &&& 31).toUInt32).toInt32) &&& (3 : Int32))), .unset, .unset, .unset, .unset, .unset, .unset, .unset] [])
  generalize hrs : (((ic.toUInt32 >>> ((3 : Int32) &&& 31).toUInt32).toInt32) &&& (3 : Int32)) = rs
  show Go _ _ _ _ _ _ _ _ (mkF m 95 #[.val (.long ja), .second, .val (.long jb), .second, .val (.int ic), .val (.int wd), .val (.int os), .val (.long o), .second, .val (.int rs), .unset, .unset, .unset, .unset, .unset, .unset, .unset] [])
  refine Go.on (fun _ k => XS.lloadN X0.here hx rfl (hb hby at_95) rfl k) ?_
  show Go _ _ _ _ _ _ _ _ (mkF m 96 #[.val (.long ja), .second, .val (.long jb), .second, .val (.int ic), .val (.int wd), .val (.int os), .val (.long o), .second, .val (.int rs), .unset, .unset, .unset, .unset, .unset, .unset, .unset] [(.long jb)])
  refine Go.on (fun _ k => X0.ldc2J hx hown (mvT hZ (hw _ (List.mem_of_getElem? (i := 0) rfl))) rfl (hb hby at_96) k) ?_
  show Go _ _ _ _ _ _ _ _ (mkF m 99 #[.val (.long ja), .second, .val (.long jb), .second, .val (.int ic), .val (.int wd), .val (.int os), .val (.long o), .second, .val (.int rs), .unset, .unset, .unset, .unset, .unset, .unset, .unset] [(.long (9223372036854775807 : Int64)), (.long jb)])
  refine Go.on (fun _ k => XS.land X0.here hx rfl (hb hby at_99) rfl k) ?_
  show Go _ _ _ _ _ _ _ _ (mkF m 100 #[.val (.long ja), .second, .val (.long jb), .second, .val (.int ic), .val (.int wd), .val (.int os), .val (.long o), .second, .val (.int rs), .unset, .unset, .unset, .unset, .unset, .unset, .unset] [(.long (jb &&& (9223372036854775807 : Int64)))])
  refine Go.on (fun _ k => XS.lstore X0.here hx rfl (hb hby at_100) rfl (l' := #[.val (.long ja), .second, .val (.long jb), .second, .val (.int ic), .val (.int wd), .val (.int os), .val (.long o), .second, .val (.int rs), .val (.long (jb &&& (9223372036854775807 : Int64))), .second, .unset, .unset, .unset, .unset, .unset]) rfl k) ?_
  show Go _ _ _ _ _ _ _ _ (mkF m 102 #[.val (.long ja), .second, .val (.long jb), .second, .val (.int ic), .val (.int wd), .val (.int os), .val (.long o), .second, .val (.int rs), .val (.long (jb &&& (9223372036854775807 : Int64))), .second, .unset, .unset, .unset, .unset, .unset] [])
  generalize hbb : (jb &&& (9223372036854775807 : Int64)) = bb
  show Go _ _ _ _ _ _ _ _ (mkF m 102 #[.val (.long ja), .second, .val (.long jb), .second, .val (.int ic), .val (.int wd), .val (.int os), .val (.long o), .second, .val (.int rs), .val (.long bb), .second, .unset, .unset, .unset, .unset, .unset] [])
  refine Go.on (fun _ k => XS.iload X0.here hx rfl (hb hby at_102) rfl k) ?_
  show Go _ _ _ _ _ _ _ _ (mkF m 104 #[.val (.long ja), .second, .val (.long jb), .second, .val (.int ic), .val (.int wd), .val (.int os), .val (.long o), .second, .val (.int rs), .val (.long bb), .second, .unset, .unset, .unset, .unset, .unset] [(.int rs)])
  suffices hJ8 : ∀ (r : Int64), r = (if rs = (0 : Int32) then (0 : Int64) else (if rs = (1 : Int32) then o else (if o = (9223372036854775807 : Int64) then bb else (bb % (o + (1 : Int64)))))) → Go p e below s K1 K2 QQ s₁ (mkF m 151 #[.val (.long ja), .second, .val (.long jb), .second, .val (.int ic), .val (.int wd), .val (.int os), .val (.long o), .second, .val (.int rs), .val (.long bb), .second, .val (.long r), .second, .unset, .unset, .unset] []) by
    by_cases hc9 : rs = (0 : Int32)
    · -- pc 104 yes
      refine Go.on (fun _ k => XS.ifNo X0.here hx rfl (hb hby at_104) rfl ((if0 _ _).trans (teq hc9).2) k) ?_
      show Go _ _ _ _ _ _ _ _ (mkF m 107 #[.val (.long ja), .second, .val (.long jb), .second, .val (.int ic), .val (.int wd), .val (.int os), .val (.long o), .second, .val (.int rs), .val (.long bb), .second, .unset, .unset, .unset, .unset, .unset] [])
      refine Go.on (fun _ k => XS.lconst X0.here hx rfl (hb hby at_107) k) ?_
      show Go _ _ _ _ _ _ _ _ (mkF m 108 #[.val (.long ja), .second, .val (.long jb), .second, .val (.int ic), .val (.int wd), .val (.int os), .val (.long o), .second, .val (.int rs), .val (.long bb), .second, .unset, .unset, .unset, .unset, .unset] [(.long (0 : Int64))])
      refine Go.on (fun _ k => XS.lstore X0.here hx rfl (hb hby at_108) rfl (l' := #[.val (.long ja), .second, .val (.long jb), .second, .val (.int ic), .val (.int wd), .val (.int os), .val (.long o), .second, .val (.int rs), .val (.long bb), .second, .val (.long (0 : Int64)), .second, .unset, .unset, .unset]) rfl k) ?_
      show Go _ _ _ _ _ _ _ _ (mkF m 110 #[.val (.long ja), .second, .val (.long jb), .second, .val (.int ic), .val (.int wd), .val (.int os), .val (.long o), .second, .val (.int rs), .val (.long bb), .second, .val (.long (0 : Int64)), .second, .unset, .unset, .unset] [])
      refine Go.on (fun _ k => XS.goto X0.here hx rfl (pc0 := 110) (pc' := 151) rfl (hb hby at_110) (by decide) (by decide) k) ?_
      show Go _ _ _ _ _ _ _ _ (mkF m 151 #[.val (.long ja), .second, .val (.long jb), .second, .val (.int ic), .val (.int wd), .val (.int os), .val (.long o), .second, .val (.int rs), .val (.long bb), .second, .val (.long (0 : Int64)), .second, .unset, .unset, .unset] [])
      exact hJ8 _ (by rw [if_pos hc9])
    · -- pc 104 no
      refine Go.on (fun _ k => XS.ifYes X0.here hx rfl (pc0 := 104) (pc' := 113) rfl (hb hby at_104) rfl ((if0 _ _).trans (feq hc9).2) (by decide) (by decide) k) ?_
      show Go _ _ _ _ _ _ _ _ (mkF m 113 #[.val (.long ja), .second, .val (.long jb), .second, .val (.int ic), .val (.int wd), .val (.int os), .val (.long o), .second, .val (.int rs), .val (.long bb), .second, .unset, .unset, .unset, .unset, .unset] [])
      refine Go.on (fun _ k => XS.iload X0.here hx rfl (hb hby at_113) rfl k) ?_
      show Go _ _ _ _ _ _ _ _ (mkF m 115 #[.val (.long ja), .second, .val (.long jb), .second, .val (.int ic), .val (.int wd), .val (.int os), .val (.long o), .second, .val (.int rs), .val (.long bb), .second, .unset, .unset, .unset, .unset, .unset] [(.int rs)])
      refine Go.on (fun _ k => XS.iconst X0.here hx rfl (hb hby at_115) k) ?_
      show Go _ _ _ _ _ _ _ _ (mkF m 116 #[.val (.long ja), .second, .val (.long jb), .second, .val (.int ic), .val (.int wd), .val (.int os), .val (.long o), .second, .val (.int rs), .val (.long bb), .second, .unset, .unset, .unset, .unset, .unset] [(.int (1 : Int32)), (.int rs)])
      by_cases hc10 : rs = (1 : Int32)
      · -- pc 116 yes
        refine Go.on (fun _ k => XS.icmpNo X0.here hx rfl (hb hby at_116) rfl (teq hc10).2 k) ?_
        show Go _ _ _ _ _ _ _ _ (mkF m 119 #[.val (.long ja), .second, .val (.long jb), .second, .val (.int ic), .val (.int wd), .val (.int os), .val (.long o), .second, .val (.int rs), .val (.long bb), .second, .unset, .unset, .unset, .unset, .unset] [])
        refine Go.on (fun _ k => XS.lload X0.here hx rfl (hb hby at_119) rfl k) ?_
        show Go _ _ _ _ _ _ _ _ (mkF m 121 #[.val (.long ja), .second, .val (.long jb), .second, .val (.int ic), .val (.int wd), .val (.int os), .val (.long o), .second, .val (.int rs), .val (.long bb), .second, .unset, .unset, .unset, .unset, .unset] [(.long o)])
        refine Go.on (fun _ k => XS.lstore X0.here hx rfl (hb hby at_121) rfl (l' := #[.val (.long ja), .second, .val (.long jb), .second, .val (.int ic), .val (.int wd), .val (.int os), .val (.long o), .second, .val (.int rs), .val (.long bb), .second, .val (.long o), .second, .unset, .unset, .unset]) rfl k) ?_
        show Go _ _ _ _ _ _ _ _ (mkF m 123 #[.val (.long ja), .second, .val (.long jb), .second, .val (.int ic), .val (.int wd), .val (.int os), .val (.long o), .second, .val (.int rs), .val (.long bb), .second, .val (.long o), .second, .unset, .unset, .unset] [])
        refine Go.on (fun _ k => XS.goto X0.here hx rfl (pc0 := 123) (pc' := 151) rfl (hb hby at_123) (by decide) (by decide) k) ?_
        show Go _ _ _ _ _ _ _ _ (mkF m 151 #[.val (.long ja), .second, .val (.long jb), .second, .val (.int ic), .val (.int wd), .val (.int os), .val (.long o), .second, .val (.int rs), .val (.long bb), .second, .val (.long o), .second, .unset, .unset, .unset] [])
        exact hJ8 _ (by rw [if_neg hc9, if_pos hc10])
      · -- pc 116 no
        refine Go.on (fun _ k => XS.icmpYes X0.here hx rfl (pc0 := 116) (pc' := 126) rfl (hb hby at_116) rfl (feq hc10).2 (by decide) (by decide) k) ?_
        show Go _ _ _ _ _ _ _ _ (mkF m 126 #[.val (.long ja), .second, .val (.long jb), .second, .val (.int ic), .val (.int wd), .val (.int os), .val (.long o), .second, .val (.int rs), .val (.long bb), .second, .unset, .unset, .unset, .unset, .unset] [])
        refine Go.on (fun _ k => XS.lload X0.here hx rfl (hb hby at_126) rfl k) ?_
        show Go _ _ _ _ _ _ _ _ (mkF m 128 #[.val (.long ja), .second, .val (.long jb), .second, .val (.int ic), .val (.int wd), .val (.int os), .val (.long o), .second, .val (.int rs), .val (.long bb), .second, .unset, .unset, .unset, .unset, .unset] [(.long o)])
        refine Go.on (fun _ k => X0.ldc2J hx hown (mvT hZ (hw _ (List.mem_of_getElem? (i := 0) rfl))) rfl (hb hby at_128) k) ?_
        show Go _ _ _ _ _ _ _ _ (mkF m 131 #[.val (.long ja), .second, .val (.long jb), .second, .val (.int ic), .val (.int wd), .val (.int os), .val (.long o), .second, .val (.int rs), .val (.long bb), .second, .unset, .unset, .unset, .unset, .unset] [(.long (9223372036854775807 : Int64)), (.long o)])
        refine Go.on (fun _ k => XS.lcmp X0.here hx rfl (hb hby at_131) rfl k) ?_
        show Go _ _ _ _ _ _ _ _ (mkF m 132 #[.val (.long ja), .second, .val (.long jb), .second, .val (.int ic), .val (.int wd), .val (.int os), .val (.long o), .second, .val (.int rs), .val (.long bb), .second, .unset, .unset, .unset, .unset, .unset] [(.int (lcmpW o (9223372036854775807 : Int64)))])
        by_cases hc11 : o = (9223372036854775807 : Int64)
        · -- pc 132 yes
          refine Go.on (fun _ k => XS.ifNo X0.here hx rfl (hb hby at_132) rfl ((if0 _ _).trans (teq (own_lc_eq.mpr hc11)).2) k) ?_
          show Go _ _ _ _ _ _ _ _ (mkF m 135 #[.val (.long ja), .second, .val (.long jb), .second, .val (.int ic), .val (.int wd), .val (.int os), .val (.long o), .second, .val (.int rs), .val (.long bb), .second, .unset, .unset, .unset, .unset, .unset] [])
          refine Go.on (fun _ k => XS.lload X0.here hx rfl (hb hby at_135) rfl k) ?_
          show Go _ _ _ _ _ _ _ _ (mkF m 137 #[.val (.long ja), .second, .val (.long jb), .second, .val (.int ic), .val (.int wd), .val (.int os), .val (.long o), .second, .val (.int rs), .val (.long bb), .second, .unset, .unset, .unset, .unset, .unset] [(.long bb)])
          refine Go.on (fun _ k => XS.lstore X0.here hx rfl (hb hby at_137) rfl (l' := #[.val (.long ja), .second, .val (.long jb), .second, .val (.int ic), .val (.int wd), .val (.int os), .val (.long o), .second, .val (.int rs), .val (.long bb), .second, .val (.long bb), .second, .unset, .unset, .unset]) rfl k) ?_
          show Go _ _ _ _ _ _ _ _ (mkF m 139 #[.val (.long ja), .second, .val (.long jb), .second, .val (.int ic), .val (.int wd), .val (.int os), .val (.long o), .second, .val (.int rs), .val (.long bb), .second, .val (.long bb), .second, .unset, .unset, .unset] [])
          refine Go.on (fun _ k => XS.goto X0.here hx rfl (pc0 := 139) (pc' := 151) rfl (hb hby at_139) (by decide) (by decide) k) ?_
          show Go _ _ _ _ _ _ _ _ (mkF m 151 #[.val (.long ja), .second, .val (.long jb), .second, .val (.int ic), .val (.int wd), .val (.int os), .val (.long o), .second, .val (.int rs), .val (.long bb), .second, .val (.long bb), .second, .unset, .unset, .unset] [])
          exact hJ8 _ (by rw [if_neg hc9, if_neg hc10, if_pos hc11])
        · -- pc 132 no
          refine Go.on (fun _ k => XS.ifYes X0.here hx rfl (pc0 := 132) (pc' := 142) rfl (hb hby at_132) rfl ((if0 _ _).trans (feq (fun q => hc11 (own_lc_eq.mp q))).2) (by decide) (by decide) k) ?_
          show Go _ _ _ _ _ _ _ _ (mkF m 142 #[.val (.long ja), .second, .val (.long jb), .second, .val (.int ic), .val (.int wd), .val (.int os), .val (.long o), .second, .val (.int rs), .val (.long bb), .second, .unset, .unset, .unset, .unset, .unset] [])
          refine Go.on (fun _ k => XS.lload X0.here hx rfl (hb hby at_142) rfl k) ?_
          show Go _ _ _ _ _ _ _ _ (mkF m 144 #[.val (.long ja), .second, .val (.long jb), .second, .val (.int ic), .val (.int wd), .val (.int os), .val (.long o), .second, .val (.int rs), .val (.long bb), .second, .unset, .unset, .unset, .unset, .unset] [(.long bb)])
          refine Go.on (fun _ k => XS.lload X0.here hx rfl (hb hby at_144) rfl k) ?_
          show Go _ _ _ _ _ _ _ _ (mkF m 146 #[.val (.long ja), .second, .val (.long jb), .second, .val (.int ic), .val (.int wd), .val (.int os), .val (.long o), .second, .val (.int rs), .val (.long bb), .second, .unset, .unset, .unset, .unset, .unset] [(.long o), (.long bb)])
          refine Go.on (fun _ k => XS.lconst X0.here hx rfl (hb hby at_146) k) ?_
          show Go _ _ _ _ _ _ _ _ (mkF m 147 #[.val (.long ja), .second, .val (.long jb), .second, .val (.int ic), .val (.int wd), .val (.int os), .val (.long o), .second, .val (.int rs), .val (.long bb), .second, .unset, .unset, .unset, .unset, .unset] [(.long (1 : Int64)), (.long o), (.long bb)])
          refine Go.on (fun _ k => XS.ladd X0.here hx rfl (hb hby at_147) rfl k) ?_
          show Go _ _ _ _ _ _ _ _ (mkF m 148 #[.val (.long ja), .second, .val (.long jb), .second, .val (.int ic), .val (.int wd), .val (.int os), .val (.long o), .second, .val (.int rs), .val (.long bb), .second, .unset, .unset, .unset, .unset, .unset] [(.long (o + (1 : Int64))), (.long bb)])
          refine Go.on (fun _ k => own_lremM X0 hx rfl (hb hby at_148) rfl (own_nzo hwd hos ho hc11) k) ?_
          show Go _ _ _ _ _ _ _ _ (mkF m 149 #[.val (.long ja), .second, .val (.long jb), .second, .val (.int ic), .val (.int wd), .val (.int os), .val (.long o), .second, .val (.int rs), .val (.long bb), .second, .unset, .unset, .unset, .unset, .unset] [(.long (bb % (o + (1 : Int64))))])
          refine Go.on (fun _ k => XS.lstore X0.here hx rfl (hb hby at_149) rfl (l' := #[.val (.long ja), .second, .val (.long jb), .second, .val (.int ic), .val (.int wd), .val (.int os), .val (.long o), .second, .val (.int rs), .val (.long bb), .second, .val (.long (bb % (o + (1 : Int64)))), .second, .unset, .unset, .unset]) rfl k) ?_
          show Go _ _ _ _ _ _ _ _ (mkF m 151 #[.val (.long ja), .second, .val (.long jb), .second, .val (.int ic), .val (.int wd), .val (.int os), .val (.long o), .second, .val (.int rs), .val (.long bb), .second, .val (.long (bb % (o + (1 : Int64)))), .second, .unset, .unset, .unset] [])
          exact hJ8 _ (by rw [if_neg hc9, if_neg hc10, if_neg hc11])
  intro r hr
  refine Go.on (fun _ k => XS.lload X0.here hx rfl (hb hby at_151) rfl k) ?_
  show Go _ _ _ _ _ _ _ _ (mkF m 153 #[.val (.long ja), .second, .val (.long jb), .second, .val (.int ic), .val (.int wd), .val (.int os), .val (.long o), .second, .val (.int rs), .val (.long bb), .second, .val (.long r), .second, .unset, .unset, .unset] [(.long o)])
  refine Go.on (fun _ k => XS.lload X0.here hx rfl (hb hby at_153) rfl k) ?_
  show Go _ _ _ _ _ _ _ _ (mkF m 155 #[.val (.long ja), .second, .val (.long jb), .second, .val (.int ic), .val (.int wd), .val (.int os), .val (.long o), .second, .val (.int rs), .val (.long bb), .second, .val (.long r), .second, .unset, .unset, .unset] [(.long r), (.long o)])
  refine Go.on (fun _ k => XS.iload X0.here hx rfl (hb hby at_155) rfl k) ?_
  show Go _ _ _ _ _ _ _ _ (mkF m 157 #[.val (.long ja), .second, .val (.long jb), .second, .val (.int ic), .val (.int wd), .val (.int os), .val (.long o), .second, .val (.int rs), .val (.long bb), .second, .val (.long r), .second, .unset, .unset, .unset] [(.int ic), (.long r), (.long o)])
  obtain ⟨_, _, ⟨T12, L12, k12, n12⟩, -, X12, ⟨Lc12, hQ12, l12, y12, z12⟩, st12⟩ := Jvm.LawKit.callS X0 hx (y := (⟨"com/example/deliberate_scaler/deliberatescaler/model/OutcomeRejectedSharePinLaw", "share", "(JJI)D"⟩ : MethodName)) hown (mvT hZ (hw _ (List.mem_of_getElem? (i := 1) rfl))) (mvT hZ (hw _ (List.mem_of_getElem? (i := 2) rfl))) (mvT hZ (hw _ (List.mem_of_getElem? (i := 3) rfl))) (mvT hZ (hw _ (List.mem_of_getElem? (i := 4) rfl))) (by decide) (backOf (W := 0) (rm1 l Z aw hw [] o r ic  h0 n0 ZZ ) hZ (hw _ (List.mem_of_getElem? (i := 4) rfl)) (hw _ (List.mem_of_getElem? (i := 3) rfl)) (by decide) (by decide)) (g := (mkF m 157 #[.val (.long ja), .second, .val (.long jb), .second, .val (.int ic), .val (.int wd), .val (.int os), .val (.long o), .second, .val (.int rs), .val (.long bb), .second, .val (.long r), .second, .unset, .unset, .unset] [(.int ic), (.long r), (.long o)])) rfl (by rw [hml]; rfl) (argsL := [(.long o), (.long r), (.int ic)]) (rest := []) (lenOf pd_3 rfl) rfl (by show 2 * 0 + _ ≤ _; exact Nat.le_of_eq rfl) (hb hby at_157) (fun _ _ => ⟨rfl, e0, (by decide : 0 + 1 ≤ _), (by decide : 0 + 7 ≤ _)⟩)
  dsimp only [Pt.U, Pt.locs, Pt.cells, Pt.slots] at X12 l12 y12 z12 st12 hQ12
  subst l12 y12 z12
  obtain ⟨h12, e12⟩ : ∃ q, T12.heap = q := ⟨_, rfl⟩
  rw [e12] at hQ12
  obtain ⟨rfl, N12q, K12q⟩ := hQ12
  have N12 := Fr.app N0 N12q
  have ZZ12p := ZZ
  replace ZZ := Nat.le_trans ZZ K12q.1
  refine Go.on st12 ?_
  show Go _ _ _ _ _ _ _ _ (mkF m 160 #[.val (.long ja), .second, .val (.long jb), .second, .val (.int ic), .val (.int wd), .val (.int os), .val (.long o), .second, .val (.int rs), .val (.long bb), .second, .val (.long r), .second, .unset, .unset, .unset] [(.double (shareV o r))])
  generalize hs_ : (shareV o r) = s_
  show Go _ _ _ _ _ _ _ _ (mkF m 160 #[.val (.long ja), .second, .val (.long jb), .second, .val (.int ic), .val (.int wd), .val (.int os), .val (.long o), .second, .val (.int rs), .val (.long bb), .second, .val (.long r), .second, .unset, .unset, .unset] [(.double s_)])
  refine Go.on (fun _ k => XS.dstore X12.here hx rfl (hb hby at_160) rfl (l' := #[.val (.long ja), .second, .val (.long jb), .second, .val (.int ic), .val (.int wd), .val (.int os), .val (.long o), .second, .val (.int rs), .val (.long bb), .second, .val (.long r), .second, .val (.double s_), .second, .unset]) rfl k) ?_
  show Go _ _ _ _ _ _ _ _ (mkF m 162 #[.val (.long ja), .second, .val (.long jb), .second, .val (.int ic), .val (.int wd), .val (.int os), .val (.long o), .second, .val (.int rs), .val (.long bb), .second, .val (.long r), .second, .val (.double s_), .second, .unset] [])
  refine Go.on (fun _ k => XS.lload X12.here hx rfl (hb hby at_162) rfl k) ?_
  show Go _ _ _ _ _ _ _ _ (mkF m 164 #[.val (.long ja), .second, .val (.long jb), .second, .val (.int ic), .val (.int wd), .val (.int os), .val (.long o), .second, .val (.int rs), .val (.long bb), .second, .val (.long r), .second, .val (.double s_), .second, .unset] [(.long o)])
  refine Go.on (fun _ k => XS.lconst X12.here hx rfl (hb hby at_164) k) ?_
  show Go _ _ _ _ _ _ _ _ (mkF m 165 #[.val (.long ja), .second, .val (.long jb), .second, .val (.int ic), .val (.int wd), .val (.int os), .val (.long o), .second, .val (.int rs), .val (.long bb), .second, .val (.long r), .second, .val (.double s_), .second, .unset] [(.long (0 : Int64)), (.long o)])
  refine Go.on (fun _ k => XS.lcmp X12.here hx rfl (hb hby at_165) rfl k) ?_
  show Go _ _ _ _ _ _ _ _ (mkF m 166 #[.val (.long ja), .second, .val (.long jb), .second, .val (.int ic), .val (.int wd), .val (.int os), .val (.long o), .second, .val (.int rs), .val (.long bb), .second, .val (.long r), .second, .val (.double s_), .second, .unset] [(.int (lcmpW o (0 : Int64)))])
  by_cases hc13 : o = (0 : Int64)
  · -- pc 166 yes
    refine Go.on (fun _ k => XS.ifNo X12.here hx rfl (hb hby at_166) rfl ((if0 _ _).trans (teq (own_lc_eq.mpr hc13)).2) k) ?_
    show Go _ _ _ _ _ _ _ _ (mkF m 169 #[.val (.long ja), .second, .val (.long jb), .second, .val (.int ic), .val (.int wd), .val (.int os), .val (.long o), .second, .val (.int rs), .val (.long bb), .second, .val (.long r), .second, .val (.double s_), .second, .unset] [])
    refine Go.on (fun _ k => XS.dload X12.here hx rfl (hb hby at_169) rfl k) ?_
    show Go _ _ _ _ _ _ _ _ (mkF m 171 #[.val (.long ja), .second, .val (.long jb), .second, .val (.int ic), .val (.int wd), .val (.int os), .val (.long o), .second, .val (.int rs), .val (.long bb), .second, .val (.long r), .second, .val (.double s_), .second, .unset] [(.double s_)])
    refine Go.on (fun _ k => XS.dconst0 X12.here hx rfl (v := (0 : UInt64)) (hb hby at_171) rfl k) ?_
    show Go _ _ _ _ _ _ _ _ (mkF m 172 #[.val (.long ja), .second, .val (.long jb), .second, .val (.int ic), .val (.int wd), .val (.int os), .val (.long o), .second, .val (.int rs), .val (.long bb), .second, .val (.long r), .second, .val (.double s_), .second, .unset] [(.double (0 : UInt64)), (.double s_)])
    refine Go.on (fun _ k => XS.dcmpS X12.here hx rfl (hb hby at_172) rfl rfl k) ?_
    show Go _ _ _ _ _ _ _ _ (mkF m 173 #[.val (.long ja), .second, .val (.long jb), .second, .val (.int ic), .val (.int wd), .val (.int os), .val (.long o), .second, .val (.int rs), .val (.long bb), .second, .val (.long r), .second, .val (.double s_), .second, .unset] [(.int (cmpValue (FP.dcmp s_ (0 : UInt64)) .l))])
    suffices hJ15 : ∀ (v14 : Int32), v14 = (if (cmpValue (FP.dcmp s_ (0 : UInt64)) .l) = (0 : Int32) then (1 : Int32) else (0 : Int32)) → Go p e below s K1 K2 QQ T12 (mkF m 181 #[.val (.long ja), .second, .val (.long jb), .second, .val (.int ic), .val (.int wd), .val (.int os), .val (.long o), .second, .val (.int rs), .val (.long bb), .second, .val (.long r), .second, .val (.double s_), .second, .unset] [(.int v14)]) by
      by_cases hc16 : (cmpValue (FP.dcmp s_ (0 : UInt64)) .l) = (0 : Int32)
      · -- pc 173 yes
        refine Go.on (fun _ k => XS.ifNo X12.here hx rfl (hb hby at_173) rfl ((if0 _ _).trans (teq hc16).2) k) ?_
        show Go _ _ _ _ _ _ _ _ (mkF m 176 #[.val (.long ja), .second, .val (.long jb), .second, .val (.int ic), .val (.int wd), .val (.int os), .val (.long o), .second, .val (.int rs), .val (.long bb), .second, .val (.long r), .second, .val (.double s_), .second, .unset] [])
        refine Go.on (fun _ k => XS.iconst X12.here hx rfl (hb hby at_176) k) ?_
        show Go _ _ _ _ _ _ _ _ (mkF m 177 #[.val (.long ja), .second, .val (.long jb), .second, .val (.int ic), .val (.int wd), .val (.int os), .val (.long o), .second, .val (.int rs), .val (.long bb), .second, .val (.long r), .second, .val (.double s_), .second, .unset] [(.int (1 : Int32))])
        refine Go.on (fun _ k => XS.goto X12.here hx rfl (pc0 := 177) (pc' := 181) rfl (hb hby at_177) (by decide) (by decide) k) ?_
        show Go _ _ _ _ _ _ _ _ (mkF m 181 #[.val (.long ja), .second, .val (.long jb), .second, .val (.int ic), .val (.int wd), .val (.int os), .val (.long o), .second, .val (.int rs), .val (.long bb), .second, .val (.long r), .second, .val (.double s_), .second, .unset] [(.int (1 : Int32))])
        exact hJ15 _ (by rw [if_pos hc16])
      · -- pc 173 no
        refine Go.on (fun _ k => XS.ifYes X12.here hx rfl (pc0 := 173) (pc' := 180) rfl (hb hby at_173) rfl ((if0 _ _).trans (feq hc16).2) (by decide) (by decide) k) ?_
        show Go _ _ _ _ _ _ _ _ (mkF m 180 #[.val (.long ja), .second, .val (.long jb), .second, .val (.int ic), .val (.int wd), .val (.int os), .val (.long o), .second, .val (.int rs), .val (.long bb), .second, .val (.long r), .second, .val (.double s_), .second, .unset] [])
        refine Go.on (fun _ k => XS.iconst X12.here hx rfl (hb hby at_180) k) ?_
        show Go _ _ _ _ _ _ _ _ (mkF m 181 #[.val (.long ja), .second, .val (.long jb), .second, .val (.int ic), .val (.int wd), .val (.int os), .val (.long o), .second, .val (.int rs), .val (.long bb), .second, .val (.long r), .second, .val (.double s_), .second, .unset] [(.int (0 : Int32))])
        exact hJ15 _ (by rw [if_neg hc16])
    intro v14 hv14
    refine Go.retN X12 hx (t := .boolean) Bd.returns (by simp) (hb hby at_181) ?_ (by rw [hK1]; decide) (by rw [hK2]; decide)
    rw [e12, ← hQQ]
    have hres : v14 = 1 := own_f0 hc13 hs_ hv14
    rw [hres]
    exact ⟨rfl, N12⟩
  · -- pc 166 no
    refine Go.on (fun _ k => XS.ifYes X12.here hx rfl (pc0 := 166) (pc' := 182) rfl (hb hby at_166) rfl ((if0 _ _).trans (feq (fun q => hc13 (own_lc_eq.mp q))).2) (by decide) (by decide) k) ?_
    show Go _ _ _ _ _ _ _ _ (mkF m 182 #[.val (.long ja), .second, .val (.long jb), .second, .val (.int ic), .val (.int wd), .val (.int os), .val (.long o), .second, .val (.int rs), .val (.long bb), .second, .val (.long r), .second, .val (.double s_), .second, .unset] [])
    refine Go.on (fun _ k => XS.dconst0 X12.here hx rfl (v := (0 : UInt64)) (hb hby at_182) rfl k) ?_
    show Go _ _ _ _ _ _ _ _ (mkF m 183 #[.val (.long ja), .second, .val (.long jb), .second, .val (.int ic), .val (.int wd), .val (.int os), .val (.long o), .second, .val (.int rs), .val (.long bb), .second, .val (.long r), .second, .val (.double s_), .second, .unset] [(.double (0 : UInt64))])
    refine Go.on (fun _ k => XS.dload X12.here hx rfl (hb hby at_183) rfl k) ?_
    show Go _ _ _ _ _ _ _ _ (mkF m 185 #[.val (.long ja), .second, .val (.long jb), .second, .val (.int ic), .val (.int wd), .val (.int os), .val (.long o), .second, .val (.int rs), .val (.long bb), .second, .val (.long r), .second, .val (.double s_), .second, .unset] [(.double s_), (.double (0 : UInt64))])
    refine Go.on (fun _ k => XS.dcmpS X12.here hx rfl (hb hby at_185) rfl rfl k) ?_
    show Go _ _ _ _ _ _ _ _ (mkF m 186 #[.val (.long ja), .second, .val (.long jb), .second, .val (.int ic), .val (.int wd), .val (.int os), .val (.long o), .second, .val (.int rs), .val (.long bb), .second, .val (.long r), .second, .val (.double s_), .second, .unset] [(.int (cmpValue (FP.dcmp (0 : UInt64) s_) .g))])
    suffices hJ17 : ∀ (k1 : Int32), k1 = (if (0 : Int32) < (cmpValue (FP.dcmp (0 : UInt64) s_) .g) then (0 : Int32) else (if (0 : Int32) < (cmpValue (FP.dcmp s_ (4607182418800017408 : UInt64)) .g) then (0 : Int32) else (if r = (0 : Int64) then (if (cmpValue (FP.dcmp s_ (0 : UInt64)) .l) = (0 : Int32) then (if r = o then (if (cmpValue (FP.dcmp s_ (4607182418800017408 : UInt64)) .l) = (0 : Int32) then (1 : Int32) else (0 : Int32)) else (1 : Int32)) else (0 : Int32)) else (if (cmpValue (FP.dcmp s_ (0 : UInt64)) .l) = (0 : Int32) then (0 : Int32) else (if r = o then (if (cmpValue (FP.dcmp s_ (4607182418800017408 : UInt64)) .l) = (0 : Int32) then (1 : Int32) else (0 : Int32)) else (1 : Int32)))))) → Go p e below s K1 K2 QQ T12 (mkF m 243 #[.val (.long ja), .second, .val (.long jb), .second, .val (.int ic), .val (.int wd), .val (.int os), .val (.long o), .second, .val (.int rs), .val (.long bb), .second, .val (.long r), .second, .val (.double s_), .second, .unset] [(.int k1)]) by
      by_cases hc18 : (0 : Int32) < (cmpValue (FP.dcmp (0 : UInt64) s_) .g)
      · -- pc 186 yes
        refine Go.on (fun _ k => XS.ifYes X12.here hx rfl (pc0 := 186) (pc' := 242) rfl (hb hby at_186) rfl ((if0 _ _).trans (tlt hc18).2.2.1) (by decide) (by decide) k) ?_
        show Go _ _ _ _ _ _ _ _ (mkF m 242 #[.val (.long ja), .second, .val (.long jb), .second, .val (.int ic), .val (.int wd), .val (.int os), .val (.long o), .second, .val (.int rs), .val (.long bb), .second, .val (.long r), .second, .val (.double s_), .second, .unset] [])
        refine Go.on (fun _ k => XS.iconst X12.here hx rfl (hb hby at_242) k) ?_
        show Go _ _ _ _ _ _ _ _ (mkF m 243 #[.val (.long ja), .second, .val (.long jb), .second, .val (.int ic), .val (.int wd), .val (.int os), .val (.long o), .second, .val (.int rs), .val (.long bb), .second, .val (.long r), .second, .val (.double s_), .second, .unset] [(.int (0 : Int32))])
        exact hJ17 _ (by rw [if_pos hc18])
      · -- pc 186 no
        refine Go.on (fun _ k => XS.ifNo X12.here hx rfl (hb hby at_186) rfl ((if0 _ _).trans (flt hc18).2.2.1) k) ?_
        show Go _ _ _ _ _ _ _ _ (mkF m 189 #[.val (.long ja), .second, .val (.long jb), .second, .val (.int ic), .val (.int wd), .val (.int os), .val (.long o), .second, .val (.int rs), .val (.long bb), .second, .val (.long r), .second, .val (.double s_), .second, .unset] [])
        refine Go.on (fun _ k => XS.dload X12.here hx rfl (hb hby at_189) rfl k) ?_
        show Go _ _ _ _ _ _ _ _ (mkF m 191 #[.val (.long ja), .second, .val (.long jb), .second, .val (.int ic), .val (.int wd), .val (.int os), .val (.long o), .second, .val (.int rs), .val (.long bb), .second, .val (.long r), .second, .val (.double s_), .second, .unset] [(.double s_)])
        refine Go.on (fun _ k => XS.dconst1 X12.here hx rfl (v := (4607182418800017408 : UInt64)) (hb hby at_191) rfl k) ?_
        show Go _ _ _ _ _ _ _ _ (mkF m 192 #[.val (.long ja), .second, .val (.long jb), .second, .val (.int ic), .val (.int wd), .val (.int os), .val (.long o), .second, .val (.int rs), .val (.long bb), .second, .val (.long r), .second, .val (.double s_), .second, .unset] [(.double (4607182418800017408 : UInt64)), (.double s_)])
        refine Go.on (fun _ k => XS.dcmpS X12.here hx rfl (hb hby at_192) rfl rfl k) ?_
        show Go _ _ _ _ _ _ _ _ (mkF m 193 #[.val (.long ja), .second, .val (.long jb), .second, .val (.int ic), .val (.int wd), .val (.int os), .val (.long o), .second, .val (.int rs), .val (.long bb), .second, .val (.long r), .second, .val (.double s_), .second, .unset] [(.int (cmpValue (FP.dcmp s_ (4607182418800017408 : UInt64)) .g))])
        by_cases hc19 : (0 : Int32) < (cmpValue (FP.dcmp s_ (4607182418800017408 : UInt64)) .g)
        · -- pc 193 yes
          refine Go.on (fun _ k => XS.ifYes X12.here hx rfl (pc0 := 193) (pc' := 242) rfl (hb hby at_193) rfl ((if0 _ _).trans (tlt hc19).2.2.1) (by decide) (by decide) k) ?_
          show Go _ _ _ _ _ _ _ _ (mkF m 242 #[.val (.long ja), .second, .val (.long jb), .second, .val (.int ic), .val (.int wd), .val (.int os), .val (.long o), .second, .val (.int rs), .val (.long bb), .second, .val (.long r), .second, .val (.double s_), .second, .unset] [])
          refine Go.on (fun _ k => XS.iconst X12.here hx rfl (hb hby at_242) k) ?_
          show Go _ _ _ _ _ _ _ _ (mkF m 243 #[.val (.long ja), .second, .val (.long jb), .second, .val (.int ic), .val (.int wd), .val (.int os), .val (.long o), .second, .val (.int rs), .val (.long bb), .second, .val (.long r), .second, .val (.double s_), .second, .unset] [(.int (0 : Int32))])
          exact hJ17 _ (by rw [if_neg hc18, if_pos hc19])
        · -- pc 193 no
          refine Go.on (fun _ k => XS.ifNo X12.here hx rfl (hb hby at_193) rfl ((if0 _ _).trans (flt hc19).2.2.1) k) ?_
          show Go _ _ _ _ _ _ _ _ (mkF m 196 #[.val (.long ja), .second, .val (.long jb), .second, .val (.int ic), .val (.int wd), .val (.int os), .val (.long o), .second, .val (.int rs), .val (.long bb), .second, .val (.long r), .second, .val (.double s_), .second, .unset] [])
          refine Go.on (fun _ k => XS.lload X12.here hx rfl (hb hby at_196) rfl k) ?_
          show Go _ _ _ _ _ _ _ _ (mkF m 198 #[.val (.long ja), .second, .val (.long jb), .second, .val (.int ic), .val (.int wd), .val (.int os), .val (.long o), .second, .val (.int rs), .val (.long bb), .second, .val (.long r), .second, .val (.double s_), .second, .unset] [(.long r)])
          refine Go.on (fun _ k => XS.lconst X12.here hx rfl (hb hby at_198) k) ?_
          show Go _ _ _ _ _ _ _ _ (mkF m 199 #[.val (.long ja), .second, .val (.long jb), .second, .val (.int ic), .val (.int wd), .val (.int os), .val (.long o), .second, .val (.int rs), .val (.long bb), .second, .val (.long r), .second, .val (.double s_), .second, .unset] [(.long (0 : Int64)), (.long r)])
          refine Go.on (fun _ k => XS.lcmp X12.here hx rfl (hb hby at_199) rfl k) ?_
          show Go _ _ _ _ _ _ _ _ (mkF m 200 #[.val (.long ja), .second, .val (.long jb), .second, .val (.int ic), .val (.int wd), .val (.int os), .val (.long o), .second, .val (.int rs), .val (.long bb), .second, .val (.long r), .second, .val (.double s_), .second, .unset] [(.int (lcmpW r (0 : Int64)))])
          by_cases hc20 : r = (0 : Int64)
          · -- pc 200 yes
            refine Go.on (fun _ k => XS.ifNo X12.here hx rfl (hb hby at_200) rfl ((if0 _ _).trans (teq (own_lc_eq.mpr hc20)).2) k) ?_
            show Go _ _ _ _ _ _ _ _ (mkF m 203 #[.val (.long ja), .second, .val (.long jb), .second, .val (.int ic), .val (.int wd), .val (.int os), .val (.long o), .second, .val (.int rs), .val (.long bb), .second, .val (.long r), .second, .val (.double s_), .second, .unset] [])
            refine Go.on (fun _ k => XS.iconst X12.here hx rfl (hb hby at_203) k) ?_
            show Go _ _ _ _ _ _ _ _ (mkF m 204 #[.val (.long ja), .second, .val (.long jb), .second, .val (.int ic), .val (.int wd), .val (.int os), .val (.long o), .second, .val (.int rs), .val (.long bb), .second, .val (.long r), .second, .val (.double s_), .second, .unset] [(.int (1 : Int32))])
            refine Go.on (fun _ k => XS.goto X12.here hx rfl (pc0 := 204) (pc' := 208) rfl (hb hby at_204) (by decide) (by decide) k) ?_
            show Go _ _ _ _ _ _ _ _ (mkF m 208 #[.val (.long ja), .second, .val (.long jb), .second, .val (.int ic), .val (.int wd), .val (.int os), .val (.long o), .second, .val (.int rs), .val (.long bb), .second, .val (.long r), .second, .val (.double s_), .second, .unset] [(.int (1 : Int32))])
            refine Go.on (fun _ k => XS.dload X12.here hx rfl (hb hby at_208) rfl k) ?_
            show Go _ _ _ _ _ _ _ _ (mkF m 210 #[.val (.long ja), .second, .val (.long jb), .second, .val (.int ic), .val (.int wd), .val (.int os), .val (.long o), .second, .val (.int rs), .val (.long bb), .second, .val (.long r), .second, .val (.double s_), .second, .unset] [(.double s_), (.int (1 : Int32))])
            refine Go.on (fun _ k => XS.dconst0 X12.here hx rfl (v := (0 : UInt64)) (hb hby at_210) rfl k) ?_
            show Go _ _ _ _ _ _ _ _ (mkF m 211 #[.val (.long ja), .second, .val (.long jb), .second, .val (.int ic), .val (.int wd), .val (.int os), .val (.long o), .second, .val (.int rs), .val (.long bb), .second, .val (.long r), .second, .val (.double s_), .second, .unset] [(.double (0 : UInt64)), (.double s_), (.int (1 : Int32))])
            refine Go.on (fun _ k => XS.dcmpS X12.here hx rfl (hb hby at_211) rfl rfl k) ?_
            show Go _ _ _ _ _ _ _ _ (mkF m 212 #[.val (.long ja), .second, .val (.long jb), .second, .val (.int ic), .val (.int wd), .val (.int os), .val (.long o), .second, .val (.int rs), .val (.long bb), .second, .val (.long r), .second, .val (.double s_), .second, .unset] [(.int (cmpValue (FP.dcmp s_ (0 : UInt64)) .l)), (.int (1 : Int32))])
            by_cases hc21 : (cmpValue (FP.dcmp s_ (0 : UInt64)) .l) = (0 : Int32)
            · -- pc 212 yes
              refine Go.on (fun _ k => XS.ifNo X12.here hx rfl (hb hby at_212) rfl ((if0 _ _).trans (teq hc21).2) k) ?_
              show Go _ _ _ _ _ _ _ _ (mkF m 215 #[.val (.long ja), .second, .val (.long jb), .second, .val (.int ic), .val (.int wd), .val (.int os), .val (.long o), .second, .val (.int rs), .val (.long bb), .second, .val (.long r), .second, .val (.double s_), .second, .unset] [(.int (1 : Int32))])
              refine Go.on (fun _ k => XS.iconst X12.here hx rfl (hb hby at_215) k) ?_
              show Go _ _ _ _ _ _ _ _ (mkF m 216 #[.val (.long ja), .second, .val (.long jb), .second, .val (.int ic), .val (.int wd), .val (.int os), .val (.long o), .second, .val (.int rs), .val (.long bb), .second, .val (.long r), .second, .val (.double s_), .second, .unset] [(.int (1 : Int32)), (.int (1 : Int32))])
              refine Go.on (fun _ k => XS.goto X12.here hx rfl (pc0 := 216) (pc' := 220) rfl (hb hby at_216) (by decide) (by decide) k) ?_
              show Go _ _ _ _ _ _ _ _ (mkF m 220 #[.val (.long ja), .second, .val (.long jb), .second, .val (.int ic), .val (.int wd), .val (.int os), .val (.long o), .second, .val (.int rs), .val (.long bb), .second, .val (.long r), .second, .val (.double s_), .second, .unset] [(.int (1 : Int32)), (.int (1 : Int32))])
              have hc22 : (1 : Int32) = (1 : Int32) := by decide
              refine Go.on (fun _ k => XS.icmpNo X12.here hx rfl (hb hby at_220) rfl (teq hc22).2 k) ?_
              show Go _ _ _ _ _ _ _ _ (mkF m 223 #[.val (.long ja), .second, .val (.long jb), .second, .val (.int ic), .val (.int wd), .val (.int os), .val (.long o), .second, .val (.int rs), .val (.long bb), .second, .val (.long r), .second, .val (.double s_), .second, .unset] [])
              refine Go.on (fun _ k => XS.lload X12.here hx rfl (hb hby at_223) rfl k) ?_
              show Go _ _ _ _ _ _ _ _ (mkF m 225 #[.val (.long ja), .second, .val (.long jb), .second, .val (.int ic), .val (.int wd), .val (.int os), .val (.long o), .second, .val (.int rs), .val (.long bb), .second, .val (.long r), .second, .val (.double s_), .second, .unset] [(.long r)])
              refine Go.on (fun _ k => XS.lload X12.here hx rfl (hb hby at_225) rfl k) ?_
              show Go _ _ _ _ _ _ _ _ (mkF m 227 #[.val (.long ja), .second, .val (.long jb), .second, .val (.int ic), .val (.int wd), .val (.int os), .val (.long o), .second, .val (.int rs), .val (.long bb), .second, .val (.long r), .second, .val (.double s_), .second, .unset] [(.long o), (.long r)])
              refine Go.on (fun _ k => XS.lcmp X12.here hx rfl (hb hby at_227) rfl k) ?_
              show Go _ _ _ _ _ _ _ _ (mkF m 228 #[.val (.long ja), .second, .val (.long jb), .second, .val (.int ic), .val (.int wd), .val (.int os), .val (.long o), .second, .val (.int rs), .val (.long bb), .second, .val (.long r), .second, .val (.double s_), .second, .unset] [(.int (lcmpW r o))])
              by_cases hc23 : r = o
              · -- pc 228 yes
                refine Go.on (fun _ k => XS.ifNo X12.here hx rfl (hb hby at_228) rfl ((if0 _ _).trans (teq (own_lc_eq.mpr hc23)).2) k) ?_
                show Go _ _ _ _ _ _ _ _ (mkF m 231 #[.val (.long ja), .second, .val (.long jb), .second, .val (.int ic), .val (.int wd), .val (.int os), .val (.long o), .second, .val (.int rs), .val (.long bb), .second, .val (.long r), .second, .val (.double s_), .second, .unset] [])
                refine Go.on (fun _ k => XS.dload X12.here hx rfl (hb hby at_231) rfl k) ?_
                show Go _ _ _ _ _ _ _ _ (mkF m 233 #[.val (.long ja), .second, .val (.long jb), .second, .val (.int ic), .val (.int wd), .val (.int os), .val (.long o), .second, .val (.int rs), .val (.long bb), .second, .val (.long r), .second, .val (.double s_), .second, .unset] [(.double s_)])
                refine Go.on (fun _ k => XS.dconst1 X12.here hx rfl (v := (4607182418800017408 : UInt64)) (hb hby at_233) rfl k) ?_
                show Go _ _ _ _ _ _ _ _ (mkF m 234 #[.val (.long ja), .second, .val (.long jb), .second, .val (.int ic), .val (.int wd), .val (.int os), .val (.long o), .second, .val (.int rs), .val (.long bb), .second, .val (.long r), .second, .val (.double s_), .second, .unset] [(.double (4607182418800017408 : UInt64)), (.double s_)])
                refine Go.on (fun _ k => XS.dcmpS X12.here hx rfl (hb hby at_234) rfl rfl k) ?_
                show Go _ _ _ _ _ _ _ _ (mkF m 235 #[.val (.long ja), .second, .val (.long jb), .second, .val (.int ic), .val (.int wd), .val (.int os), .val (.long o), .second, .val (.int rs), .val (.long bb), .second, .val (.long r), .second, .val (.double s_), .second, .unset] [(.int (cmpValue (FP.dcmp s_ (4607182418800017408 : UInt64)) .l))])
                by_cases hc24 : (cmpValue (FP.dcmp s_ (4607182418800017408 : UInt64)) .l) = (0 : Int32)
                · -- pc 235 yes
                  refine Go.on (fun _ k => XS.ifNo X12.here hx rfl (hb hby at_235) rfl ((if0 _ _).trans (teq hc24).2) k) ?_
                  show Go _ _ _ _ _ _ _ _ (mkF m 238 #[.val (.long ja), .second, .val (.long jb), .second, .val (.int ic), .val (.int wd), .val (.int os), .val (.long o), .second, .val (.int rs), .val (.long bb), .second, .val (.long r), .second, .val (.double s_), .second, .unset] [])
                  refine Go.on (fun _ k => XS.iconst X12.here hx rfl (hb hby at_238) k) ?_
                  show Go _ _ _ _ _ _ _ _ (mkF m 239 #[.val (.long ja), .second, .val (.long jb), .second, .val (.int ic), .val (.int wd), .val (.int os), .val (.long o), .second, .val (.int rs), .val (.long bb), .second, .val (.long r), .second, .val (.double s_), .second, .unset] [(.int (1 : Int32))])
                  refine Go.on (fun _ k => XS.goto X12.here hx rfl (pc0 := 239) (pc' := 243) rfl (hb hby at_239) (by decide) (by decide) k) ?_
                  show Go _ _ _ _ _ _ _ _ (mkF m 243 #[.val (.long ja), .second, .val (.long jb), .second, .val (.int ic), .val (.int wd), .val (.int os), .val (.long o), .second, .val (.int rs), .val (.long bb), .second, .val (.long r), .second, .val (.double s_), .second, .unset] [(.int (1 : Int32))])
                  exact hJ17 _ (by rw [if_neg hc18, if_neg hc19, if_pos hc20, if_pos hc21, if_pos hc23, if_pos hc24])
                · -- pc 235 no
                  refine Go.on (fun _ k => XS.ifYes X12.here hx rfl (pc0 := 235) (pc' := 242) rfl (hb hby at_235) rfl ((if0 _ _).trans (feq hc24).2) (by decide) (by decide) k) ?_
                  show Go _ _ _ _ _ _ _ _ (mkF m 242 #[.val (.long ja), .second, .val (.long jb), .second, .val (.int ic), .val (.int wd), .val (.int os), .val (.long o), .second, .val (.int rs), .val (.long bb), .second, .val (.long r), .second, .val (.double s_), .second, .unset] [])
                  refine Go.on (fun _ k => XS.iconst X12.here hx rfl (hb hby at_242) k) ?_
                  show Go _ _ _ _ _ _ _ _ (mkF m 243 #[.val (.long ja), .second, .val (.long jb), .second, .val (.int ic), .val (.int wd), .val (.int os), .val (.long o), .second, .val (.int rs), .val (.long bb), .second, .val (.long r), .second, .val (.double s_), .second, .unset] [(.int (0 : Int32))])
                  exact hJ17 _ (by rw [if_neg hc18, if_neg hc19, if_pos hc20, if_pos hc21, if_pos hc23, if_neg hc24])
              · -- pc 228 no
                refine Go.on (fun _ k => XS.ifYes X12.here hx rfl (pc0 := 228) (pc' := 238) rfl (hb hby at_228) rfl ((if0 _ _).trans (feq (fun q => hc23 (own_lc_eq.mp q))).2) (by decide) (by decide) k) ?_
                show Go _ _ _ _ _ _ _ _ (mkF m 238 #[.val (.long ja), .second, .val (.long jb), .second, .val (.int ic), .val (.int wd), .val (.int os), .val (.long o), .second, .val (.int rs), .val (.long bb), .second, .val (.long r), .second, .val (.double s_), .second, .unset] [])
                refine Go.on (fun _ k => XS.iconst X12.here hx rfl (hb hby at_238) k) ?_
                show Go _ _ _ _ _ _ _ _ (mkF m 239 #[.val (.long ja), .second, .val (.long jb), .second, .val (.int ic), .val (.int wd), .val (.int os), .val (.long o), .second, .val (.int rs), .val (.long bb), .second, .val (.long r), .second, .val (.double s_), .second, .unset] [(.int (1 : Int32))])
                refine Go.on (fun _ k => XS.goto X12.here hx rfl (pc0 := 239) (pc' := 243) rfl (hb hby at_239) (by decide) (by decide) k) ?_
                show Go _ _ _ _ _ _ _ _ (mkF m 243 #[.val (.long ja), .second, .val (.long jb), .second, .val (.int ic), .val (.int wd), .val (.int os), .val (.long o), .second, .val (.int rs), .val (.long bb), .second, .val (.long r), .second, .val (.double s_), .second, .unset] [(.int (1 : Int32))])
                exact hJ17 _ (by rw [if_neg hc18, if_neg hc19, if_pos hc20, if_pos hc21, if_neg hc23])
            · -- pc 212 no
              refine Go.on (fun _ k => XS.ifYes X12.here hx rfl (pc0 := 212) (pc' := 219) rfl (hb hby at_212) rfl ((if0 _ _).trans (feq hc21).2) (by decide) (by decide) k) ?_
              show Go _ _ _ _ _ _ _ _ (mkF m 219 #[.val (.long ja), .second, .val (.long jb), .second, .val (.int ic), .val (.int wd), .val (.int os), .val (.long o), .second, .val (.int rs), .val (.long bb), .second, .val (.long r), .second, .val (.double s_), .second, .unset] [(.int (1 : Int32))])
              refine Go.on (fun _ k => XS.iconst X12.here hx rfl (hb hby at_219) k) ?_
              show Go _ _ _ _ _ _ _ _ (mkF m 220 #[.val (.long ja), .second, .val (.long jb), .second, .val (.int ic), .val (.int wd), .val (.int os), .val (.long o), .second, .val (.int rs), .val (.long bb), .second, .val (.long r), .second, .val (.double s_), .second, .unset] [(.int (0 : Int32)), (.int (1 : Int32))])
              have hc25 : ¬ ((1 : Int32) = (0 : Int32)) := by decide
              refine Go.on (fun _ k => XS.icmpYes X12.here hx rfl (pc0 := 220) (pc' := 242) rfl (hb hby at_220) rfl (feq hc25).2 (by decide) (by decide) k) ?_
              show Go _ _ _ _ _ _ _ _ (mkF m 242 #[.val (.long ja), .second, .val (.long jb), .second, .val (.int ic), .val (.int wd), .val (.int os), .val (.long o), .second, .val (.int rs), .val (.long bb), .second, .val (.long r), .second, .val (.double s_), .second, .unset] [])
              refine Go.on (fun _ k => XS.iconst X12.here hx rfl (hb hby at_242) k) ?_
              show Go _ _ _ _ _ _ _ _ (mkF m 243 #[.val (.long ja), .second, .val (.long jb), .second, .val (.int ic), .val (.int wd), .val (.int os), .val (.long o), .second, .val (.int rs), .val (.long bb), .second, .val (.long r), .second, .val (.double s_), .second, .unset] [(.int (0 : Int32))])
              exact hJ17 _ (by rw [if_neg hc18, if_neg hc19, if_pos hc20, if_neg hc21])
          · -- pc 200 no
            refine Go.on (fun _ k => XS.ifYes X12.here hx rfl (pc0 := 200) (pc' := 207) rfl (hb hby at_200) rfl ((if0 _ _).trans (feq (fun q => hc20 (own_lc_eq.mp q))).2) (by decide) (by decide) k) ?_
            show Go _ _ _ _ _ _ _ _ (mkF m 207 #[.val (.long ja), .second, .val (.long jb), .second, .val (.int ic), .val (.int wd), .val (.int os), .val (.long o), .second, .val (.int rs), .val (.long bb), .second, .val (.long r), .second, .val (.double s_), .second, .unset] [])
            refine Go.on (fun _ k => XS.iconst X12.here hx rfl (hb hby at_207) k) ?_
            show Go _ _ _ _ _ _ _ _ (mkF m 208 #[.val (.long ja), .second, .val (.long jb), .second, .val (.int ic), .val (.int wd), .val (.int os), .val (.long o), .second, .val (.int rs), .val (.long bb), .second, .val (.long r), .second, .val (.double s_), .second, .unset] [(.int (0 : Int32))])
            refine Go.on (fun _ k => XS.dload X12.here hx rfl (hb hby at_208) rfl k) ?_
            show Go _ _ _ _ _ _ _ _ (mkF m 210 #[.val (.long ja), .second, .val (.long jb), .second, .val (.int ic), .val (.int wd), .val (.int os), .val (.long o), .second, .val (.int rs), .val (.long bb), .second, .val (.long r), .second, .val (.double s_), .second, .unset] [(.double s_), (.int (0 : Int32))])
            refine Go.on (fun _ k => XS.dconst0 X12.here hx rfl (v := (0 : UInt64)) (hb hby at_210) rfl k) ?_
            show Go _ _ _ _ _ _ _ _ (mkF m 211 #[.val (.long ja), .second, .val (.long jb), .second, .val (.int ic), .val (.int wd), .val (.int os), .val (.long o), .second, .val (.int rs), .val (.long bb), .second, .val (.long r), .second, .val (.double s_), .second, .unset] [(.double (0 : UInt64)), (.double s_), (.int (0 : Int32))])
            refine Go.on (fun _ k => XS.dcmpS X12.here hx rfl (hb hby at_211) rfl rfl k) ?_
            show Go _ _ _ _ _ _ _ _ (mkF m 212 #[.val (.long ja), .second, .val (.long jb), .second, .val (.int ic), .val (.int wd), .val (.int os), .val (.long o), .second, .val (.int rs), .val (.long bb), .second, .val (.long r), .second, .val (.double s_), .second, .unset] [(.int (cmpValue (FP.dcmp s_ (0 : UInt64)) .l)), (.int (0 : Int32))])
            by_cases hc26 : (cmpValue (FP.dcmp s_ (0 : UInt64)) .l) = (0 : Int32)
            · -- pc 212 yes
              refine Go.on (fun _ k => XS.ifNo X12.here hx rfl (hb hby at_212) rfl ((if0 _ _).trans (teq hc26).2) k) ?_
              show Go _ _ _ _ _ _ _ _ (mkF m 215 #[.val (.long ja), .second, .val (.long jb), .second, .val (.int ic), .val (.int wd), .val (.int os), .val (.long o), .second, .val (.int rs), .val (.long bb), .second, .val (.long r), .second, .val (.double s_), .second, .unset] [(.int (0 : Int32))])
              refine Go.on (fun _ k => XS.iconst X12.here hx rfl (hb hby at_215) k) ?_
              show Go _ _ _ _ _ _ _ _ (mkF m 216 #[.val (.long ja), .second, .val (.long jb), .second, .val (.int ic), .val (.int wd), .val (.int os), .val (.long o), .second, .val (.int rs), .val (.long bb), .second, .val (.long r), .second, .val (.double s_), .second, .unset] [(.int (1 : Int32)), (.int (0 : Int32))])
              refine Go.on (fun _ k => XS.goto X12.here hx rfl (pc0 := 216) (pc' := 220) rfl (hb hby at_216) (by decide) (by decide) k) ?_
              show Go _ _ _ _ _ _ _ _ (mkF m 220 #[.val (.long ja), .second, .val (.long jb), .second, .val (.int ic), .val (.int wd), .val (.int os), .val (.long o), .second, .val (.int rs), .val (.long bb), .second, .val (.long r), .second, .val (.double s_), .second, .unset] [(.int (1 : Int32)), (.int (0 : Int32))])
              have hc27 : ¬ ((0 : Int32) = (1 : Int32)) := by decide
              refine Go.on (fun _ k => XS.icmpYes X12.here hx rfl (pc0 := 220) (pc' := 242) rfl (hb hby at_220) rfl (feq hc27).2 (by decide) (by decide) k) ?_
              show Go _ _ _ _ _ _ _ _ (mkF m 242 #[.val (.long ja), .second, .val (.long jb), .second, .val (.int ic), .val (.int wd), .val (.int os), .val (.long o), .second, .val (.int rs), .val (.long bb), .second, .val (.long r), .second, .val (.double s_), .second, .unset] [])
              refine Go.on (fun _ k => XS.iconst X12.here hx rfl (hb hby at_242) k) ?_
              show Go _ _ _ _ _ _ _ _ (mkF m 243 #[.val (.long ja), .second, .val (.long jb), .second, .val (.int ic), .val (.int wd), .val (.int os), .val (.long o), .second, .val (.int rs), .val (.long bb), .second, .val (.long r), .second, .val (.double s_), .second, .unset] [(.int (0 : Int32))])
              exact hJ17 _ (by rw [if_neg hc18, if_neg hc19, if_neg hc20, if_pos hc26])
            · -- pc 212 no
              refine Go.on (fun _ k => XS.ifYes X12.here hx rfl (pc0 := 212) (pc' := 219) rfl (hb hby at_212) rfl ((if0 _ _).trans (feq hc26).2) (by decide) (by decide) k) ?_
              show Go _ _ _ _ _ _ _ _ (mkF m 219 #[.val (.long ja), .second, .val (.long jb), .second, .val (.int ic), .val (.int wd), .val (.int os), .val (.long o), .second, .val (.int rs), .val (.long bb), .second, .val (.long r), .second, .val (.double s_), .second, .unset] [(.int (0 : Int32))])
              refine Go.on (fun _ k => XS.iconst X12.here hx rfl (hb hby at_219) k) ?_
              show Go _ _ _ _ _ _ _ _ (mkF m 220 #[.val (.long ja), .second, .val (.long jb), .second, .val (.int ic), .val (.int wd), .val (.int os), .val (.long o), .second, .val (.int rs), .val (.long bb), .second, .val (.long r), .second, .val (.double s_), .second, .unset] [(.int (0 : Int32)), (.int (0 : Int32))])
              have hc28 : (0 : Int32) = (0 : Int32) := by decide
              refine Go.on (fun _ k => XS.icmpNo X12.here hx rfl (hb hby at_220) rfl (teq hc28).2 k) ?_
              show Go _ _ _ _ _ _ _ _ (mkF m 223 #[.val (.long ja), .second, .val (.long jb), .second, .val (.int ic), .val (.int wd), .val (.int os), .val (.long o), .second, .val (.int rs), .val (.long bb), .second, .val (.long r), .second, .val (.double s_), .second, .unset] [])
              refine Go.on (fun _ k => XS.lload X12.here hx rfl (hb hby at_223) rfl k) ?_
              show Go _ _ _ _ _ _ _ _ (mkF m 225 #[.val (.long ja), .second, .val (.long jb), .second, .val (.int ic), .val (.int wd), .val (.int os), .val (.long o), .second, .val (.int rs), .val (.long bb), .second, .val (.long r), .second, .val (.double s_), .second, .unset] [(.long r)])
              refine Go.on (fun _ k => XS.lload X12.here hx rfl (hb hby at_225) rfl k) ?_
              show Go _ _ _ _ _ _ _ _ (mkF m 227 #[.val (.long ja), .second, .val (.long jb), .second, .val (.int ic), .val (.int wd), .val (.int os), .val (.long o), .second, .val (.int rs), .val (.long bb), .second, .val (.long r), .second, .val (.double s_), .second, .unset] [(.long o), (.long r)])
              refine Go.on (fun _ k => XS.lcmp X12.here hx rfl (hb hby at_227) rfl k) ?_
              show Go _ _ _ _ _ _ _ _ (mkF m 228 #[.val (.long ja), .second, .val (.long jb), .second, .val (.int ic), .val (.int wd), .val (.int os), .val (.long o), .second, .val (.int rs), .val (.long bb), .second, .val (.long r), .second, .val (.double s_), .second, .unset] [(.int (lcmpW r o))])
              by_cases hc29 : r = o
              · -- pc 228 yes
                refine Go.on (fun _ k => XS.ifNo X12.here hx rfl (hb hby at_228) rfl ((if0 _ _).trans (teq (own_lc_eq.mpr hc29)).2) k) ?_
                show Go _ _ _ _ _ _ _ _ (mkF m 231 #[.val (.long ja), .second, .val (.long jb), .second, .val (.int ic), .val (.int wd), .val (.int os), .val (.long o), .second, .val (.int rs), .val (.long bb), .second, .val (.long r), .second, .val (.double s_), .second, .unset] [])
                refine Go.on (fun _ k => XS.dload X12.here hx rfl (hb hby at_231) rfl k) ?_
                show Go _ _ _ _ _ _ _ _ (mkF m 233 #[.val (.long ja), .second, .val (.long jb), .second, .val (.int ic), .val (.int wd), .val (.int os), .val (.long o), .second, .val (.int rs), .val (.long bb), .second, .val (.long r), .second, .val (.double s_), .second, .unset] [(.double s_)])
                refine Go.on (fun _ k => XS.dconst1 X12.here hx rfl (v := (4607182418800017408 : UInt64)) (hb hby at_233) rfl k) ?_
                show Go _ _ _ _ _ _ _ _ (mkF m 234 #[.val (.long ja), .second, .val (.long jb), .second, .val (.int ic), .val (.int wd), .val (.int os), .val (.long o), .second, .val (.int rs), .val (.long bb), .second, .val (.long r), .second, .val (.double s_), .second, .unset] [(.double (4607182418800017408 : UInt64)), (.double s_)])
                refine Go.on (fun _ k => XS.dcmpS X12.here hx rfl (hb hby at_234) rfl rfl k) ?_
                show Go _ _ _ _ _ _ _ _ (mkF m 235 #[.val (.long ja), .second, .val (.long jb), .second, .val (.int ic), .val (.int wd), .val (.int os), .val (.long o), .second, .val (.int rs), .val (.long bb), .second, .val (.long r), .second, .val (.double s_), .second, .unset] [(.int (cmpValue (FP.dcmp s_ (4607182418800017408 : UInt64)) .l))])
                by_cases hc30 : (cmpValue (FP.dcmp s_ (4607182418800017408 : UInt64)) .l) = (0 : Int32)
                · -- pc 235 yes
                  refine Go.on (fun _ k => XS.ifNo X12.here hx rfl (hb hby at_235) rfl ((if0 _ _).trans (teq hc30).2) k) ?_
                  show Go _ _ _ _ _ _ _ _ (mkF m 238 #[.val (.long ja), .second, .val (.long jb), .second, .val (.int ic), .val (.int wd), .val (.int os), .val (.long o), .second, .val (.int rs), .val (.long bb), .second, .val (.long r), .second, .val (.double s_), .second, .unset] [])
                  refine Go.on (fun _ k => XS.iconst X12.here hx rfl (hb hby at_238) k) ?_
                  show Go _ _ _ _ _ _ _ _ (mkF m 239 #[.val (.long ja), .second, .val (.long jb), .second, .val (.int ic), .val (.int wd), .val (.int os), .val (.long o), .second, .val (.int rs), .val (.long bb), .second, .val (.long r), .second, .val (.double s_), .second, .unset] [(.int (1 : Int32))])
                  refine Go.on (fun _ k => XS.goto X12.here hx rfl (pc0 := 239) (pc' := 243) rfl (hb hby at_239) (by decide) (by decide) k) ?_
                  show Go _ _ _ _ _ _ _ _ (mkF m 243 #[.val (.long ja), .second, .val (.long jb), .second, .val (.int ic), .val (.int wd), .val (.int os), .val (.long o), .second, .val (.int rs), .val (.long bb), .second, .val (.long r), .second, .val (.double s_), .second, .unset] [(.int (1 : Int32))])
                  exact hJ17 _ (by rw [if_neg hc18, if_neg hc19, if_neg hc20, if_neg hc26, if_pos hc29, if_pos hc30])
                · -- pc 235 no
                  refine Go.on (fun _ k => XS.ifYes X12.here hx rfl (pc0 := 235) (pc' := 242) rfl (hb hby at_235) rfl ((if0 _ _).trans (feq hc30).2) (by decide) (by decide) k) ?_
                  show Go _ _ _ _ _ _ _ _ (mkF m 242 #[.val (.long ja), .second, .val (.long jb), .second, .val (.int ic), .val (.int wd), .val (.int os), .val (.long o), .second, .val (.int rs), .val (.long bb), .second, .val (.long r), .second, .val (.double s_), .second, .unset] [])
                  refine Go.on (fun _ k => XS.iconst X12.here hx rfl (hb hby at_242) k) ?_
                  show Go _ _ _ _ _ _ _ _ (mkF m 243 #[.val (.long ja), .second, .val (.long jb), .second, .val (.int ic), .val (.int wd), .val (.int os), .val (.long o), .second, .val (.int rs), .val (.long bb), .second, .val (.long r), .second, .val (.double s_), .second, .unset] [(.int (0 : Int32))])
                  exact hJ17 _ (by rw [if_neg hc18, if_neg hc19, if_neg hc20, if_neg hc26, if_pos hc29, if_neg hc30])
              · -- pc 228 no
                refine Go.on (fun _ k => XS.ifYes X12.here hx rfl (pc0 := 228) (pc' := 238) rfl (hb hby at_228) rfl ((if0 _ _).trans (feq (fun q => hc29 (own_lc_eq.mp q))).2) (by decide) (by decide) k) ?_
                show Go _ _ _ _ _ _ _ _ (mkF m 238 #[.val (.long ja), .second, .val (.long jb), .second, .val (.int ic), .val (.int wd), .val (.int os), .val (.long o), .second, .val (.int rs), .val (.long bb), .second, .val (.long r), .second, .val (.double s_), .second, .unset] [])
                refine Go.on (fun _ k => XS.iconst X12.here hx rfl (hb hby at_238) k) ?_
                show Go _ _ _ _ _ _ _ _ (mkF m 239 #[.val (.long ja), .second, .val (.long jb), .second, .val (.int ic), .val (.int wd), .val (.int os), .val (.long o), .second, .val (.int rs), .val (.long bb), .second, .val (.long r), .second, .val (.double s_), .second, .unset] [(.int (1 : Int32))])
                refine Go.on (fun _ k => XS.goto X12.here hx rfl (pc0 := 239) (pc' := 243) rfl (hb hby at_239) (by decide) (by decide) k) ?_
                show Go _ _ _ _ _ _ _ _ (mkF m 243 #[.val (.long ja), .second, .val (.long jb), .second, .val (.int ic), .val (.int wd), .val (.int os), .val (.long o), .second, .val (.int rs), .val (.long bb), .second, .val (.long r), .second, .val (.double s_), .second, .unset] [(.int (1 : Int32))])
                exact hJ17 _ (by rw [if_neg hc18, if_neg hc19, if_neg hc20, if_neg hc26, if_neg hc29])
    intro k1 hk1
    refine Go.on (fun _ k => XS.istore X12.here hx rfl (hb hby at_243) rfl (l' := #[.val (.long ja), .second, .val (.long jb), .second, .val (.int ic), .val (.int wd), .val (.int os), .val (.long o), .second, .val (.int rs), .val (.long bb), .second, .val (.long r), .second, .val (.double s_), .second, .val (.int k1)]) rfl k) ?_
    show Go _ _ _ _ _ _ _ _ (mkF m 245 #[.val (.long ja), .second, .val (.long jb), .second, .val (.int ic), .val (.int wd), .val (.int os), .val (.long o), .second, .val (.int rs), .val (.long bb), .second, .val (.long r), .second, .val (.double s_), .second, .val (.int k1)] [])
    refine Go.on (fun _ k => XS.lload X12.here hx rfl (hb hby at_245) rfl k) ?_
    show Go _ _ _ _ _ _ _ _ (mkF m 247 #[.val (.long ja), .second, .val (.long jb), .second, .val (.int ic), .val (.int wd), .val (.int os), .val (.long o), .second, .val (.int rs), .val (.long bb), .second, .val (.long r), .second, .val (.double s_), .second, .val (.int k1)] [(.long o)])
    refine Go.on (fun _ k => XS.lload X12.here hx rfl (hb hby at_247) rfl k) ?_
    show Go _ _ _ _ _ _ _ _ (mkF m 249 #[.val (.long ja), .second, .val (.long jb), .second, .val (.int ic), .val (.int wd), .val (.int os), .val (.long o), .second, .val (.int rs), .val (.long bb), .second, .val (.long r), .second, .val (.double s_), .second, .val (.int k1)] [(.long o), (.long o)])
    refine Go.on (fun _ k => XS.lconst X12.here hx rfl (hb hby at_249) k) ?_
    show Go _ _ _ _ _ _ _ _ (mkF m 250 #[.val (.long ja), .second, .val (.long jb), .second, .val (.int ic), .val (.int wd), .val (.int os), .val (.long o), .second, .val (.int rs), .val (.long bb), .second, .val (.long r), .second, .val (.double s_), .second, .val (.int k1)] [(.long (1 : Int64)), (.long o), (.long o)])
    refine Go.on (fun _ k => XS.lsub X12.here hx rfl (hb hby at_250) rfl k) ?_
    show Go _ _ _ _ _ _ _ _ (mkF m 251 #[.val (.long ja), .second, .val (.long jb), .second, .val (.int ic), .val (.int wd), .val (.int os), .val (.long o), .second, .val (.int rs), .val (.long bb), .second, .val (.long r), .second, .val (.double s_), .second, .val (.int k1)] [(.long (o - (1 : Int64))), (.long o)])
    refine Go.on (fun _ k => XS.land X12.here hx rfl (hb hby at_251) rfl k) ?_
    show Go _ _ _ _ _ _ _ _ (mkF m 252 #[.val (.long ja), .second, .val (.long jb), .second, .val (.int ic), .val (.int wd), .val (.int os), .val (.long o), .second, .val (.int rs), .val (.long bb), .second, .val (.long r), .second, .val (.double s_), .second, .val (.int k1)] [(.long (o &&& (o - (1 : Int64))))])
    refine Go.on (fun _ k => XS.lconst X12.here hx rfl (hb hby at_252) k) ?_
    show Go _ _ _ _ _ _ _ _ (mkF m 253 #[.val (.long ja), .second, .val (.long jb), .second, .val (.int ic), .val (.int wd), .val (.int os), .val (.long o), .second, .val (.int rs), .val (.long bb), .second, .val (.long r), .second, .val (.double s_), .second, .val (.int k1)] [(.long (0 : Int64)), (.long (o &&& (o - (1 : Int64))))])
    refine Go.on (fun _ k => XS.lcmp X12.here hx rfl (hb hby at_253) rfl k) ?_
    show Go _ _ _ _ _ _ _ _ (mkF m 254 #[.val (.long ja), .second, .val (.long jb), .second, .val (.int ic), .val (.int wd), .val (.int os), .val (.long o), .second, .val (.int rs), .val (.long bb), .second, .val (.long r), .second, .val (.double s_), .second, .val (.int k1)] [(.int (lcmpW (o &&& (o - (1 : Int64))) (0 : Int64)))])
    suffices hJ31 : ∀ (k2 : Int32), k2 = (if (o &&& (o - (1 : Int64))) = (0 : Int64) then (if k1 = (0 : Int32) then (0 : Int32) else (if (cmpValue (FP.dcmp (FP.dmul s_ (FP.l2d o)) (FP.l2d r)) .l) = (0 : Int32) then (1 : Int32) else (0 : Int32))) else k1) → Go p e below s K1 K2 QQ T12 (mkF m 282 #[.val (.long ja), .second, .val (.long jb), .second, .val (.int ic), .val (.int wd), .val (.int os), .val (.long o), .second, .val (.int rs), .val (.long bb), .second, .val (.long r), .second, .val (.double s_), .second, .val (.int k2)] []) by
      by_cases hc32 : (o &&& (o - (1 : Int64))) = (0 : Int64)
      · -- pc 254 yes
        refine Go.on (fun _ k => XS.ifNo X12.here hx rfl (hb hby at_254) rfl ((if0 _ _).trans (teq (own_lc_eq.mpr hc32)).2) k) ?_
        show Go _ _ _ _ _ _ _ _ (mkF m 257 #[.val (.long ja), .second, .val (.long jb), .second, .val (.int ic), .val (.int wd), .val (.int os), .val (.long o), .second, .val (.int rs), .val (.long bb), .second, .val (.long r), .second, .val (.double s_), .second, .val (.int k1)] [])
        refine Go.on (fun _ k => XS.iload X12.here hx rfl (hb hby at_257) rfl k) ?_
        show Go _ _ _ _ _ _ _ _ (mkF m 259 #[.val (.long ja), .second, .val (.long jb), .second, .val (.int ic), .val (.int wd), .val (.int os), .val (.long o), .second, .val (.int rs), .val (.long bb), .second, .val (.long r), .second, .val (.double s_), .second, .val (.int k1)] [(.int k1)])
        by_cases hc33 : k1 = (0 : Int32)
        · -- pc 259 yes
          refine Go.on (fun _ k => XS.ifYes X12.here hx rfl (pc0 := 259) (pc' := 279) rfl (hb hby at_259) rfl ((if0 _ _).trans (teq hc33).1) (by decide) (by decide) k) ?_
          show Go _ _ _ _ _ _ _ _ (mkF m 279 #[.val (.long ja), .second, .val (.long jb), .second, .val (.int ic), .val (.int wd), .val (.int os), .val (.long o), .second, .val (.int rs), .val (.long bb), .second, .val (.long r), .second, .val (.double s_), .second, .val (.int k1)] [])
          refine Go.on (fun _ k => XS.iconst X12.here hx rfl (hb hby at_279) k) ?_
          show Go _ _ _ _ _ _ _ _ (mkF m 280 #[.val (.long ja), .second, .val (.long jb), .second, .val (.int ic), .val (.int wd), .val (.int os), .val (.long o), .second, .val (.int rs), .val (.long bb), .second, .val (.long r), .second, .val (.double s_), .second, .val (.int k1)] [(.int (0 : Int32))])
          refine Go.on (fun _ k => XS.istore X12.here hx rfl (hb hby at_280) rfl (l' := #[.val (.long ja), .second, .val (.long jb), .second, .val (.int ic), .val (.int wd), .val (.int os), .val (.long o), .second, .val (.int rs), .val (.long bb), .second, .val (.long r), .second, .val (.double s_), .second, .val (.int (0 : Int32))]) rfl k) ?_
          show Go _ _ _ _ _ _ _ _ (mkF m 282 #[.val (.long ja), .second, .val (.long jb), .second, .val (.int ic), .val (.int wd), .val (.int os), .val (.long o), .second, .val (.int rs), .val (.long bb), .second, .val (.long r), .second, .val (.double s_), .second, .val (.int (0 : Int32))] [])
          exact hJ31 _ (by rw [if_pos hc32, if_pos hc33])
        · -- pc 259 no
          refine Go.on (fun _ k => XS.ifNo X12.here hx rfl (hb hby at_259) rfl ((if0 _ _).trans (feq hc33).1) k) ?_
          show Go _ _ _ _ _ _ _ _ (mkF m 262 #[.val (.long ja), .second, .val (.long jb), .second, .val (.int ic), .val (.int wd), .val (.int os), .val (.long o), .second, .val (.int rs), .val (.long bb), .second, .val (.long r), .second, .val (.double s_), .second, .val (.int k1)] [])
          refine Go.on (fun _ k => XS.dload X12.here hx rfl (hb hby at_262) rfl k) ?_
          show Go _ _ _ _ _ _ _ _ (mkF m 264 #[.val (.long ja), .second, .val (.long jb), .second, .val (.int ic), .val (.int wd), .val (.int os), .val (.long o), .second, .val (.int rs), .val (.long bb), .second, .val (.long r), .second, .val (.double s_), .second, .val (.int k1)] [(.double s_)])
          refine Go.on (fun _ k => XS.lload X12.here hx rfl (hb hby at_264) rfl k) ?_
          show Go _ _ _ _ _ _ _ _ (mkF m 266 #[.val (.long ja), .second, .val (.long jb), .second, .val (.int ic), .val (.int wd), .val (.int os), .val (.long o), .second, .val (.int rs), .val (.long bb), .second, .val (.long r), .second, .val (.double s_), .second, .val (.int k1)] [(.long o), (.double s_)])
          refine Go.on (fun _ k => XS.l2dS X12.here hx rfl (hb hby at_266) rfl rfl k) ?_
          show Go _ _ _ _ _ _ _ _ (mkF m 267 #[.val (.long ja), .second, .val (.long jb), .second, .val (.int ic), .val (.int wd), .val (.int os), .val (.long o), .second, .val (.int rs), .val (.long bb), .second, .val (.long r), .second, .val (.double s_), .second, .val (.int k1)] [(.double (FP.l2d o)), (.double s_)])
          refine Go.on (fun _ k => XS.dmulS X12.here hx rfl (hb hby at_267) rfl (own_nnm hwd hos ho hrs hbb hr hc13 hs_) rfl k) ?_
          show Go _ _ _ _ _ _ _ _ (mkF m 268 #[.val (.long ja), .second, .val (.long jb), .second, .val (.int ic), .val (.int wd), .val (.int os), .val (.long o), .second, .val (.int rs), .val (.long bb), .second, .val (.long r), .second, .val (.double s_), .second, .val (.int k1)] [(.double (FP.dmul s_ (FP.l2d o)))])
          refine Go.on (fun _ k => XS.lload X12.here hx rfl (hb hby at_268) rfl k) ?_
          show Go _ _ _ _ _ _ _ _ (mkF m 270 #[.val (.long ja), .second, .val (.long jb), .second, .val (.int ic), .val (.int wd), .val (.int os), .val (.long o), .second, .val (.int rs), .val (.long bb), .second, .val (.long r), .second, .val (.double s_), .second, .val (.int k1)] [(.long r), (.double (FP.dmul s_ (FP.l2d o)))])
          refine Go.on (fun _ k => XS.l2dS X12.here hx rfl (hb hby at_270) rfl rfl k) ?_
          show Go _ _ _ _ _ _ _ _ (mkF m 271 #[.val (.long ja), .second, .val (.long jb), .second, .val (.int ic), .val (.int wd), .val (.int os), .val (.long o), .second, .val (.int rs), .val (.long bb), .second, .val (.long r), .second, .val (.double s_), .second, .val (.int k1)] [(.double (FP.l2d r)), (.double (FP.dmul s_ (FP.l2d o)))])
          refine Go.on (fun _ k => XS.dcmpS X12.here hx rfl (hb hby at_271) rfl rfl k) ?_
          show Go _ _ _ _ _ _ _ _ (mkF m 272 #[.val (.long ja), .second, .val (.long jb), .second, .val (.int ic), .val (.int wd), .val (.int os), .val (.long o), .second, .val (.int rs), .val (.long bb), .second, .val (.long r), .second, .val (.double s_), .second, .val (.int k1)] [(.int (cmpValue (FP.dcmp (FP.dmul s_ (FP.l2d o)) (FP.l2d r)) .l))])
          by_cases hc34 : (cmpValue (FP.dcmp (FP.dmul s_ (FP.l2d o)) (FP.l2d r)) .l) = (0 : Int32)
          · -- pc 272 yes
            refine Go.on (fun _ k => XS.ifNo X12.here hx rfl (hb hby at_272) rfl ((if0 _ _).trans (teq hc34).2) k) ?_
            show Go _ _ _ _ _ _ _ _ (mkF m 275 #[.val (.long ja), .second, .val (.long jb), .second, .val (.int ic), .val (.int wd), .val (.int os), .val (.long o), .second, .val (.int rs), .val (.long bb), .second, .val (.long r), .second, .val (.double s_), .second, .val (.int k1)] [])
            refine Go.on (fun _ k => XS.iconst X12.here hx rfl (hb hby at_275) k) ?_
            show Go _ _ _ _ _ _ _ _ (mkF m 276 #[.val (.long ja), .second, .val (.long jb), .second, .val (.int ic), .val (.int wd), .val (.int os), .val (.long o), .second, .val (.int rs), .val (.long bb), .second, .val (.long r), .second, .val (.double s_), .second, .val (.int k1)] [(.int (1 : Int32))])
            refine Go.on (fun _ k => XS.goto X12.here hx rfl (pc0 := 276) (pc' := 280) rfl (hb hby at_276) (by decide) (by decide) k) ?_
            show Go _ _ _ _ _ _ _ _ (mkF m 280 #[.val (.long ja), .second, .val (.long jb), .second, .val (.int ic), .val (.int wd), .val (.int os), .val (.long o), .second, .val (.int rs), .val (.long bb), .second, .val (.long r), .second, .val (.double s_), .second, .val (.int k1)] [(.int (1 : Int32))])
            refine Go.on (fun _ k => XS.istore X12.here hx rfl (hb hby at_280) rfl (l' := #[.val (.long ja), .second, .val (.long jb), .second, .val (.int ic), .val (.int wd), .val (.int os), .val (.long o), .second, .val (.int rs), .val (.long bb), .second, .val (.long r), .second, .val (.double s_), .second, .val (.int (1 : Int32))]) rfl k) ?_
            show Go _ _ _ _ _ _ _ _ (mkF m 282 #[.val (.long ja), .second, .val (.long jb), .second, .val (.int ic), .val (.int wd), .val (.int os), .val (.long o), .second, .val (.int rs), .val (.long bb), .second, .val (.long r), .second, .val (.double s_), .second, .val (.int (1 : Int32))] [])
            exact hJ31 _ (by rw [if_pos hc32, if_neg hc33, if_pos hc34])
          · -- pc 272 no
            refine Go.on (fun _ k => XS.ifYes X12.here hx rfl (pc0 := 272) (pc' := 279) rfl (hb hby at_272) rfl ((if0 _ _).trans (feq hc34).2) (by decide) (by decide) k) ?_
            show Go _ _ _ _ _ _ _ _ (mkF m 279 #[.val (.long ja), .second, .val (.long jb), .second, .val (.int ic), .val (.int wd), .val (.int os), .val (.long o), .second, .val (.int rs), .val (.long bb), .second, .val (.long r), .second, .val (.double s_), .second, .val (.int k1)] [])
            refine Go.on (fun _ k => XS.iconst X12.here hx rfl (hb hby at_279) k) ?_
            show Go _ _ _ _ _ _ _ _ (mkF m 280 #[.val (.long ja), .second, .val (.long jb), .second, .val (.int ic), .val (.int wd), .val (.int os), .val (.long o), .second, .val (.int rs), .val (.long bb), .second, .val (.long r), .second, .val (.double s_), .second, .val (.int k1)] [(.int (0 : Int32))])
            refine Go.on (fun _ k => XS.istore X12.here hx rfl (hb hby at_280) rfl (l' := #[.val (.long ja), .second, .val (.long jb), .second, .val (.int ic), .val (.int wd), .val (.int os), .val (.long o), .second, .val (.int rs), .val (.long bb), .second, .val (.long r), .second, .val (.double s_), .second, .val (.int (0 : Int32))]) rfl k) ?_
            show Go _ _ _ _ _ _ _ _ (mkF m 282 #[.val (.long ja), .second, .val (.long jb), .second, .val (.int ic), .val (.int wd), .val (.int os), .val (.long o), .second, .val (.int rs), .val (.long bb), .second, .val (.long r), .second, .val (.double s_), .second, .val (.int (0 : Int32))] [])
            exact hJ31 _ (by rw [if_pos hc32, if_neg hc33, if_neg hc34])
      · -- pc 254 no
        refine Go.on (fun _ k => XS.ifYes X12.here hx rfl (pc0 := 254) (pc' := 282) rfl (hb hby at_254) rfl ((if0 _ _).trans (feq (fun q => hc32 (own_lc_eq.mp q))).2) (by decide) (by decide) k) ?_
        show Go _ _ _ _ _ _ _ _ (mkF m 282 #[.val (.long ja), .second, .val (.long jb), .second, .val (.int ic), .val (.int wd), .val (.int os), .val (.long o), .second, .val (.int rs), .val (.long bb), .second, .val (.long r), .second, .val (.double s_), .second, .val (.int k1)] [])
        exact hJ31 _ (by rw [if_neg hc32])
    intro k2 hk2
    refine Go.on (fun _ k => XS.iload X12.here hx rfl (hb hby at_282) rfl k) ?_
    show Go _ _ _ _ _ _ _ _ (mkF m 284 #[.val (.long ja), .second, .val (.long jb), .second, .val (.int ic), .val (.int wd), .val (.int os), .val (.long o), .second, .val (.int rs), .val (.long bb), .second, .val (.long r), .second, .val (.double s_), .second, .val (.int k2)] [(.int wd)])
    by_cases hc35 : wd = (0 : Int32)
    · -- pc 284 yes
      refine Go.on (fun _ k => XS.ifYes X12.here hx rfl (pc0 := 284) (pc' := 290) rfl (hb hby at_284) rfl ((if0 _ _).trans (teq hc35).1) (by decide) (by decide) k) ?_
      show Go _ _ _ _ _ _ _ _ (mkF m 290 #[.val (.long ja), .second, .val (.long jb), .second, .val (.int ic), .val (.int wd), .val (.int os), .val (.long o), .second, .val (.int rs), .val (.long bb), .second, .val (.long r), .second, .val (.double s_), .second, .val (.int k2)] [])
      refine Go.on (fun _ k => XS.iload X12.here hx rfl (hb hby at_290) rfl k) ?_
      show Go _ _ _ _ _ _ _ _ (mkF m 292 #[.val (.long ja), .second, .val (.long jb), .second, .val (.int ic), .val (.int wd), .val (.int os), .val (.long o), .second, .val (.int rs), .val (.long bb), .second, .val (.long r), .second, .val (.double s_), .second, .val (.int k2)] [(.int k2)])
      suffices hJ36 : ∀ (k3 : Int32), k3 = (if k2 = (0 : Int32) then (0 : Int32) else (if r = o then (if (cmpValue (FP.dcmp s_ (4607182418800017408 : UInt64)) .l) = (0 : Int32) then (1 : Int32) else (0 : Int32)) else (if (cmpValue (FP.dcmp s_ (4607182418800017408 : UInt64)) .l) = (0 : Int32) then (0 : Int32) else (1 : Int32)))) → Go p e below s K1 K2 QQ T12 (mkF m 328 #[.val (.long ja), .second, .val (.long jb), .second, .val (.int ic), .val (.int wd), .val (.int os), .val (.long o), .second, .val (.int rs), .val (.long bb), .second, .val (.long r), .second, .val (.double s_), .second, .val (.int k2)] [(.int k3)]) by
        by_cases hc37 : k2 = (0 : Int32)
        · -- pc 292 yes
          refine Go.on (fun _ k => XS.ifYes X12.here hx rfl (pc0 := 292) (pc' := 327) rfl (hb hby at_292) rfl ((if0 _ _).trans (teq hc37).1) (by decide) (by decide) k) ?_
          show Go _ _ _ _ _ _ _ _ (mkF m 327 #[.val (.long ja), .second, .val (.long jb), .second, .val (.int ic), .val (.int wd), .val (.int os), .val (.long o), .second, .val (.int rs), .val (.long bb), .second, .val (.long r), .second, .val (.double s_), .second, .val (.int k2)] [])
          refine Go.on (fun _ k => XS.iconst X12.here hx rfl (hb hby at_327) k) ?_
          show Go _ _ _ _ _ _ _ _ (mkF m 328 #[.val (.long ja), .second, .val (.long jb), .second, .val (.int ic), .val (.int wd), .val (.int os), .val (.long o), .second, .val (.int rs), .val (.long bb), .second, .val (.long r), .second, .val (.double s_), .second, .val (.int k2)] [(.int (0 : Int32))])
          exact hJ36 _ (by rw [if_pos hc37])
        · -- pc 292 no
          refine Go.on (fun _ k => XS.ifNo X12.here hx rfl (hb hby at_292) rfl ((if0 _ _).trans (feq hc37).1) k) ?_
          show Go _ _ _ _ _ _ _ _ (mkF m 295 #[.val (.long ja), .second, .val (.long jb), .second, .val (.int ic), .val (.int wd), .val (.int os), .val (.long o), .second, .val (.int rs), .val (.long bb), .second, .val (.long r), .second, .val (.double s_), .second, .val (.int k2)] [])
          refine Go.on (fun _ k => XS.lload X12.here hx rfl (hb hby at_295) rfl k) ?_
          show Go _ _ _ _ _ _ _ _ (mkF m 297 #[.val (.long ja), .second, .val (.long jb), .second, .val (.int ic), .val (.int wd), .val (.int os), .val (.long o), .second, .val (.int rs), .val (.long bb), .second, .val (.long r), .second, .val (.double s_), .second, .val (.int k2)] [(.long r)])
          refine Go.on (fun _ k => XS.lload X12.here hx rfl (hb hby at_297) rfl k) ?_
          show Go _ _ _ _ _ _ _ _ (mkF m 299 #[.val (.long ja), .second, .val (.long jb), .second, .val (.int ic), .val (.int wd), .val (.int os), .val (.long o), .second, .val (.int rs), .val (.long bb), .second, .val (.long r), .second, .val (.double s_), .second, .val (.int k2)] [(.long o), (.long r)])
          refine Go.on (fun _ k => XS.lcmp X12.here hx rfl (hb hby at_299) rfl k) ?_
          show Go _ _ _ _ _ _ _ _ (mkF m 300 #[.val (.long ja), .second, .val (.long jb), .second, .val (.int ic), .val (.int wd), .val (.int os), .val (.long o), .second, .val (.int rs), .val (.long bb), .second, .val (.long r), .second, .val (.double s_), .second, .val (.int k2)] [(.int (lcmpW r o))])
          by_cases hc38 : r = o
          · -- pc 300 yes
            refine Go.on (fun _ k => XS.ifNo X12.here hx rfl (hb hby at_300) rfl ((if0 _ _).trans (teq (own_lc_eq.mpr hc38)).2) k) ?_
            show Go _ _ _ _ _ _ _ _ (mkF m 303 #[.val (.long ja), .second, .val (.long jb), .second, .val (.int ic), .val (.int wd), .val (.int os), .val (.long o), .second, .val (.int rs), .val (.long bb), .second, .val (.long r), .second, .val (.double s_), .second, .val (.int k2)] [])
            refine Go.on (fun _ k => XS.iconst X12.here hx rfl (hb hby at_303) k) ?_
            show Go _ _ _ _ _ _ _ _ (mkF m 304 #[.val (.long ja), .second, .val (.long jb), .second, .val (.int ic), .val (.int wd), .val (.int os), .val (.long o), .second, .val (.int rs), .val (.long bb), .second, .val (.long r), .second, .val (.double s_), .second, .val (.int k2)] [(.int (1 : Int32))])
            refine Go.on (fun _ k => XS.goto X12.here hx rfl (pc0 := 304) (pc' := 308) rfl (hb hby at_304) (by decide) (by decide) k) ?_
            show Go _ _ _ _ _ _ _ _ (mkF m 308 #[.val (.long ja), .second, .val (.long jb), .second, .val (.int ic), .val (.int wd), .val (.int os), .val (.long o), .second, .val (.int rs), .val (.long bb), .second, .val (.long r), .second, .val (.double s_), .second, .val (.int k2)] [(.int (1 : Int32))])
            refine Go.on (fun _ k => XS.dload X12.here hx rfl (hb hby at_308) rfl k) ?_
            show Go _ _ _ _ _ _ _ _ (mkF m 310 #[.val (.long ja), .second, .val (.long jb), .second, .val (.int ic), .val (.int wd), .val (.int os), .val (.long o), .second, .val (.int rs), .val (.long bb), .second, .val (.long r), .second, .val (.double s_), .second, .val (.int k2)] [(.double s_), (.int (1 : Int32))])
            refine Go.on (fun _ k => XS.dconst1 X12.here hx rfl (v := (4607182418800017408 : UInt64)) (hb hby at_310) rfl k) ?_
            show Go _ _ _ _ _ _ _ _ (mkF m 311 #[.val (.long ja), .second, .val (.long jb), .second, .val (.int ic), .val (.int wd), .val (.int os), .val (.long o), .second, .val (.int rs), .val (.long bb), .second, .val (.long r), .second, .val (.double s_), .second, .val (.int k2)] [(.double (4607182418800017408 : UInt64)), (.double s_), (.int (1 : Int32))])
            refine Go.on (fun _ k => XS.dcmpS X12.here hx rfl (hb hby at_311) rfl rfl k) ?_
            show Go _ _ _ _ _ _ _ _ (mkF m 312 #[.val (.long ja), .second, .val (.long jb), .second, .val (.int ic), .val (.int wd), .val (.int os), .val (.long o), .second, .val (.int rs), .val (.long bb), .second, .val (.long r), .second, .val (.double s_), .second, .val (.int k2)] [(.int (cmpValue (FP.dcmp s_ (4607182418800017408 : UInt64)) .l)), (.int (1 : Int32))])
            by_cases hc39 : (cmpValue (FP.dcmp s_ (4607182418800017408 : UInt64)) .l) = (0 : Int32)
            · -- pc 312 yes
              refine Go.on (fun _ k => XS.ifNo X12.here hx rfl (hb hby at_312) rfl ((if0 _ _).trans (teq hc39).2) k) ?_
              show Go _ _ _ _ _ _ _ _ (mkF m 315 #[.val (.long ja), .second, .val (.long jb), .second, .val (.int ic), .val (.int wd), .val (.int os), .val (.long o), .second, .val (.int rs), .val (.long bb), .second, .val (.long r), .second, .val (.double s_), .second, .val (.int k2)] [(.int (1 : Int32))])
              refine Go.on (fun _ k => XS.iconst X12.here hx rfl (hb hby at_315) k) ?_
              show Go _ _ _ _ _ _ _ _ (mkF m 316 #[.val (.long ja), .second, .val (.long jb), .second, .val (.int ic), .val (.int wd), .val (.int os), .val (.long o), .second, .val (.int rs), .val (.long bb), .second, .val (.long r), .second, .val (.double s_), .second, .val (.int k2)] [(.int (1 : Int32)), (.int (1 : Int32))])
              refine Go.on (fun _ k => XS.goto X12.here hx rfl (pc0 := 316) (pc' := 320) rfl (hb hby at_316) (by decide) (by decide) k) ?_
              show Go _ _ _ _ _ _ _ _ (mkF m 320 #[.val (.long ja), .second, .val (.long jb), .second, .val (.int ic), .val (.int wd), .val (.int os), .val (.long o), .second, .val (.int rs), .val (.long bb), .second, .val (.long r), .second, .val (.double s_), .second, .val (.int k2)] [(.int (1 : Int32)), (.int (1 : Int32))])
              have hc40 : (1 : Int32) = (1 : Int32) := by decide
              refine Go.on (fun _ k => XS.icmpNo X12.here hx rfl (hb hby at_320) rfl (teq hc40).2 k) ?_
              show Go _ _ _ _ _ _ _ _ (mkF m 323 #[.val (.long ja), .second, .val (.long jb), .second, .val (.int ic), .val (.int wd), .val (.int os), .val (.long o), .second, .val (.int rs), .val (.long bb), .second, .val (.long r), .second, .val (.double s_), .second, .val (.int k2)] [])
              refine Go.on (fun _ k => XS.iconst X12.here hx rfl (hb hby at_323) k) ?_
              show Go _ _ _ _ _ _ _ _ (mkF m 324 #[.val (.long ja), .second, .val (.long jb), .second, .val (.int ic), .val (.int wd), .val (.int os), .val (.long o), .second, .val (.int rs), .val (.long bb), .second, .val (.long r), .second, .val (.double s_), .second, .val (.int k2)] [(.int (1 : Int32))])
              refine Go.on (fun _ k => XS.goto X12.here hx rfl (pc0 := 324) (pc' := 328) rfl (hb hby at_324) (by decide) (by decide) k) ?_
              show Go _ _ _ _ _ _ _ _ (mkF m 328 #[.val (.long ja), .second, .val (.long jb), .second, .val (.int ic), .val (.int wd), .val (.int os), .val (.long o), .second, .val (.int rs), .val (.long bb), .second, .val (.long r), .second, .val (.double s_), .second, .val (.int k2)] [(.int (1 : Int32))])
              exact hJ36 _ (by rw [if_neg hc37, if_pos hc38, if_pos hc39])
            · -- pc 312 no
              refine Go.on (fun _ k => XS.ifYes X12.here hx rfl (pc0 := 312) (pc' := 319) rfl (hb hby at_312) rfl ((if0 _ _).trans (feq hc39).2) (by decide) (by decide) k) ?_
              show Go _ _ _ _ _ _ _ _ (mkF m 319 #[.val (.long ja), .second, .val (.long jb), .second, .val (.int ic), .val (.int wd), .val (.int os), .val (.long o), .second, .val (.int rs), .val (.long bb), .second, .val (.long r), .second, .val (.double s_), .second, .val (.int k2)] [(.int (1 : Int32))])
              refine Go.on (fun _ k => XS.iconst X12.here hx rfl (hb hby at_319) k) ?_
              show Go _ _ _ _ _ _ _ _ (mkF m 320 #[.val (.long ja), .second, .val (.long jb), .second, .val (.int ic), .val (.int wd), .val (.int os), .val (.long o), .second, .val (.int rs), .val (.long bb), .second, .val (.long r), .second, .val (.double s_), .second, .val (.int k2)] [(.int (0 : Int32)), (.int (1 : Int32))])
              have hc41 : ¬ ((1 : Int32) = (0 : Int32)) := by decide
              refine Go.on (fun _ k => XS.icmpYes X12.here hx rfl (pc0 := 320) (pc' := 327) rfl (hb hby at_320) rfl (feq hc41).2 (by decide) (by decide) k) ?_
              show Go _ _ _ _ _ _ _ _ (mkF m 327 #[.val (.long ja), .second, .val (.long jb), .second, .val (.int ic), .val (.int wd), .val (.int os), .val (.long o), .second, .val (.int rs), .val (.long bb), .second, .val (.long r), .second, .val (.double s_), .second, .val (.int k2)] [])
              refine Go.on (fun _ k => XS.iconst X12.here hx rfl (hb hby at_327) k) ?_
              show Go _ _ _ _ _ _ _ _ (mkF m 328 #[.val (.long ja), .second, .val (.long jb), .second, .val (.int ic), .val (.int wd), .val (.int os), .val (.long o), .second, .val (.int rs), .val (.long bb), .second, .val (.long r), .second, .val (.double s_), .second, .val (.int k2)] [(.int (0 : Int32))])
              exact hJ36 _ (by rw [if_neg hc37, if_pos hc38, if_neg hc39])
          · -- pc 300 no
            refine Go.on (fun _ k => XS.ifYes X12.here hx rfl (pc0 := 300) (pc' := 307) rfl (hb hby at_300) rfl ((if0 _ _).trans (feq (fun q => hc38 (own_lc_eq.mp q))).2) (by decide) (by decide) k) ?_
            show Go _ _ _ _ _ _ _ _ (mkF m 307 #[.val (.long ja), .second, .val (.long jb), .second, .val (.int ic), .val (.int wd), .val (.int os), .val (.long o), .second, .val (.int rs), .val (.long bb), .second, .val (.long r), .second, .val (.double s_), .second, .val (.int k2)] [])
            refine Go.on (fun _ k => XS.iconst X12.here hx rfl (hb hby at_307) k) ?_
            show Go _ _ _ _ _ _ _ _ (mkF m 308 #[.val (.long ja), .second, .val (.long jb), .second, .val (.int ic), .val (.int wd), .val (.int os), .val (.long o), .second, .val (.int rs), .val (.long bb), .second, .val (.long r), .second, .val (.double s_), .second, .val (.int k2)] [(.int (0 : Int32))])
            refine Go.on (fun _ k => XS.dload X12.here hx rfl (hb hby at_308) rfl k) ?_
            show Go _ _ _ _ _ _ _ _ (mkF m 310 #[.val (.long ja), .second, .val (.long jb), .second, .val (.int ic), .val (.int wd), .val (.int os), .val (.long o), .second, .val (.int rs), .val (.long bb), .second, .val (.long r), .second, .val (.double s_), .second, .val (.int k2)] [(.double s_), (.int (0 : Int32))])
            refine Go.on (fun _ k => XS.dconst1 X12.here hx rfl (v := (4607182418800017408 : UInt64)) (hb hby at_310) rfl k) ?_
            show Go _ _ _ _ _ _ _ _ (mkF m 311 #[.val (.long ja), .second, .val (.long jb), .second, .val (.int ic), .val (.int wd), .val (.int os), .val (.long o), .second, .val (.int rs), .val (.long bb), .second, .val (.long r), .second, .val (.double s_), .second, .val (.int k2)] [(.double (4607182418800017408 : UInt64)), (.double s_), (.int (0 : Int32))])
            refine Go.on (fun _ k => XS.dcmpS X12.here hx rfl (hb hby at_311) rfl rfl k) ?_
            show Go _ _ _ _ _ _ _ _ (mkF m 312 #[.val (.long ja), .second, .val (.long jb), .second, .val (.int ic), .val (.int wd), .val (.int os), .val (.long o), .second, .val (.int rs), .val (.long bb), .second, .val (.long r), .second, .val (.double s_), .second, .val (.int k2)] [(.int (cmpValue (FP.dcmp s_ (4607182418800017408 : UInt64)) .l)), (.int (0 : Int32))])
            by_cases hc42 : (cmpValue (FP.dcmp s_ (4607182418800017408 : UInt64)) .l) = (0 : Int32)
            · -- pc 312 yes
              refine Go.on (fun _ k => XS.ifNo X12.here hx rfl (hb hby at_312) rfl ((if0 _ _).trans (teq hc42).2) k) ?_
              show Go _ _ _ _ _ _ _ _ (mkF m 315 #[.val (.long ja), .second, .val (.long jb), .second, .val (.int ic), .val (.int wd), .val (.int os), .val (.long o), .second, .val (.int rs), .val (.long bb), .second, .val (.long r), .second, .val (.double s_), .second, .val (.int k2)] [(.int (0 : Int32))])
              refine Go.on (fun _ k => XS.iconst X12.here hx rfl (hb hby at_315) k) ?_
              show Go _ _ _ _ _ _ _ _ (mkF m 316 #[.val (.long ja), .second, .val (.long jb), .second, .val (.int ic), .val (.int wd), .val (.int os), .val (.long o), .second, .val (.int rs), .val (.long bb), .second, .val (.long r), .second, .val (.double s_), .second, .val (.int k2)] [(.int (1 : Int32)), (.int (0 : Int32))])
              refine Go.on (fun _ k => XS.goto X12.here hx rfl (pc0 := 316) (pc' := 320) rfl (hb hby at_316) (by decide) (by decide) k) ?_
              show Go _ _ _ _ _ _ _ _ (mkF m 320 #[.val (.long ja), .second, .val (.long jb), .second, .val (.int ic), .val (.int wd), .val (.int os), .val (.long o), .second, .val (.int rs), .val (.long bb), .second, .val (.long r), .second, .val (.double s_), .second, .val (.int k2)] [(.int (1 : Int32)), (.int (0 : Int32))])
              have hc43 : ¬ ((0 : Int32) = (1 : Int32)) := by decide
              refine Go.on (fun _ k => XS.icmpYes X12.here hx rfl (pc0 := 320) (pc' := 327) rfl (hb hby at_320) rfl (feq hc43).2 (by decide) (by decide) k) ?_
              show Go _ _ _ _ _ _ _ _ (mkF m 327 #[.val (.long ja), .second, .val (.long jb), .second, .val (.int ic), .val (.int wd), .val (.int os), .val (.long o), .second, .val (.int rs), .val (.long bb), .second, .val (.long r), .second, .val (.double s_), .second, .val (.int k2)] [])
              refine Go.on (fun _ k => XS.iconst X12.here hx rfl (hb hby at_327) k) ?_
              show Go _ _ _ _ _ _ _ _ (mkF m 328 #[.val (.long ja), .second, .val (.long jb), .second, .val (.int ic), .val (.int wd), .val (.int os), .val (.long o), .second, .val (.int rs), .val (.long bb), .second, .val (.long r), .second, .val (.double s_), .second, .val (.int k2)] [(.int (0 : Int32))])
              exact hJ36 _ (by rw [if_neg hc37, if_neg hc38, if_pos hc42])
            · -- pc 312 no
              refine Go.on (fun _ k => XS.ifYes X12.here hx rfl (pc0 := 312) (pc' := 319) rfl (hb hby at_312) rfl ((if0 _ _).trans (feq hc42).2) (by decide) (by decide) k) ?_
              show Go _ _ _ _ _ _ _ _ (mkF m 319 #[.val (.long ja), .second, .val (.long jb), .second, .val (.int ic), .val (.int wd), .val (.int os), .val (.long o), .second, .val (.int rs), .val (.long bb), .second, .val (.long r), .second, .val (.double s_), .second, .val (.int k2)] [(.int (0 : Int32))])
              refine Go.on (fun _ k => XS.iconst X12.here hx rfl (hb hby at_319) k) ?_
              show Go _ _ _ _ _ _ _ _ (mkF m 320 #[.val (.long ja), .second, .val (.long jb), .second, .val (.int ic), .val (.int wd), .val (.int os), .val (.long o), .second, .val (.int rs), .val (.long bb), .second, .val (.long r), .second, .val (.double s_), .second, .val (.int k2)] [(.int (0 : Int32)), (.int (0 : Int32))])
              have hc44 : (0 : Int32) = (0 : Int32) := by decide
              refine Go.on (fun _ k => XS.icmpNo X12.here hx rfl (hb hby at_320) rfl (teq hc44).2 k) ?_
              show Go _ _ _ _ _ _ _ _ (mkF m 323 #[.val (.long ja), .second, .val (.long jb), .second, .val (.int ic), .val (.int wd), .val (.int os), .val (.long o), .second, .val (.int rs), .val (.long bb), .second, .val (.long r), .second, .val (.double s_), .second, .val (.int k2)] [])
              refine Go.on (fun _ k => XS.iconst X12.here hx rfl (hb hby at_323) k) ?_
              show Go _ _ _ _ _ _ _ _ (mkF m 324 #[.val (.long ja), .second, .val (.long jb), .second, .val (.int ic), .val (.int wd), .val (.int os), .val (.long o), .second, .val (.int rs), .val (.long bb), .second, .val (.long r), .second, .val (.double s_), .second, .val (.int k2)] [(.int (1 : Int32))])
              refine Go.on (fun _ k => XS.goto X12.here hx rfl (pc0 := 324) (pc' := 328) rfl (hb hby at_324) (by decide) (by decide) k) ?_
              show Go _ _ _ _ _ _ _ _ (mkF m 328 #[.val (.long ja), .second, .val (.long jb), .second, .val (.int ic), .val (.int wd), .val (.int os), .val (.long o), .second, .val (.int rs), .val (.long bb), .second, .val (.long r), .second, .val (.double s_), .second, .val (.int k2)] [(.int (1 : Int32))])
              exact hJ36 _ (by rw [if_neg hc37, if_neg hc38, if_neg hc42])
      intro k3 hk3
      refine Go.on (fun _ k => XS.istore X12.here hx rfl (hb hby at_328) rfl (l' := #[.val (.long ja), .second, .val (.long jb), .second, .val (.int ic), .val (.int wd), .val (.int os), .val (.long o), .second, .val (.int rs), .val (.long bb), .second, .val (.long r), .second, .val (.double s_), .second, .val (.int k3)]) rfl k) ?_
      show Go _ _ _ _ _ _ _ _ (mkF m 330 #[.val (.long ja), .second, .val (.long jb), .second, .val (.int ic), .val (.int wd), .val (.int os), .val (.long o), .second, .val (.int rs), .val (.long bb), .second, .val (.long r), .second, .val (.double s_), .second, .val (.int k3)] [])
      refine Go.on (fun _ k => XS.iload X12.here hx rfl (hb hby at_330) rfl k) ?_
      show Go _ _ _ _ _ _ _ _ (mkF m 332 #[.val (.long ja), .second, .val (.long jb), .second, .val (.int ic), .val (.int wd), .val (.int os), .val (.long o), .second, .val (.int rs), .val (.long bb), .second, .val (.long r), .second, .val (.double s_), .second, .val (.int k3)] [(.int k3)])
      have hc45 : ¬ (k3 = (0 : Int32)) := own_ok3 hwd hos ho hrs hbb hr hc13 hs_ hk1 hk2 hk3 hc35
      refine Go.on (fun _ k => XS.ifNo X12.here hx rfl (hb hby at_332) rfl ((if0 _ _).trans (feq hc45).1) k) ?_
      show Go _ _ _ _ _ _ _ _ (mkF m 335 #[.val (.long ja), .second, .val (.long jb), .second, .val (.int ic), .val (.int wd), .val (.int os), .val (.long o), .second, .val (.int rs), .val (.long bb), .second, .val (.long r), .second, .val (.double s_), .second, .val (.int k3)] [])
      refine Go.on (fun _ k => X12.ldc2J hx hown (mvT hZ (hw _ (List.mem_of_getElem? (i := 40) rfl))) rfl (hb hby at_335) k) ?_
      show Go _ _ _ _ _ _ _ _ (mkF m 338 #[.val (.long ja), .second, .val (.long jb), .second, .val (.int ic), .val (.int wd), .val (.int os), .val (.long o), .second, .val (.int rs), .val (.long bb), .second, .val (.long r), .second, .val (.double s_), .second, .val (.int k3)] [(.long (2 : Int64))])
      refine Go.on (fun _ k => XS.lload X12.here hx rfl (hb hby at_338) rfl k) ?_
      show Go _ _ _ _ _ _ _ _ (mkF m 340 #[.val (.long ja), .second, .val (.long jb), .second, .val (.int ic), .val (.int wd), .val (.int os), .val (.long o), .second, .val (.int rs), .val (.long bb), .second, .val (.long r), .second, .val (.double s_), .second, .val (.int k3)] [(.long o), (.long (2 : Int64))])
      refine Go.on (fun _ k => XS.lmul X12.here hx rfl (hb hby at_340) rfl k) ?_
      show Go _ _ _ _ _ _ _ _ (mkF m 341 #[.val (.long ja), .second, .val (.long jb), .second, .val (.int ic), .val (.int wd), .val (.int os), .val (.long o), .second, .val (.int rs), .val (.long bb), .second, .val (.long r), .second, .val (.double s_), .second, .val (.int k3)] [(.long ((2 : Int64) * o))])
      refine Go.on (fun _ k => X12.ldc2J hx hown (mvT hZ (hw _ (List.mem_of_getElem? (i := 40) rfl))) rfl (hb hby at_341) k) ?_
      show Go _ _ _ _ _ _ _ _ (mkF m 344 #[.val (.long ja), .second, .val (.long jb), .second, .val (.int ic), .val (.int wd), .val (.int os), .val (.long o), .second, .val (.int rs), .val (.long bb), .second, .val (.long r), .second, .val (.double s_), .second, .val (.int k3)] [(.long (2 : Int64)), (.long ((2 : Int64) * o))])
      refine Go.on (fun _ k => XS.lload X12.here hx rfl (hb hby at_344) rfl k) ?_
      show Go _ _ _ _ _ _ _ _ (mkF m 346 #[.val (.long ja), .second, .val (.long jb), .second, .val (.int ic), .val (.int wd), .val (.int os), .val (.long o), .second, .val (.int rs), .val (.long bb), .second, .val (.long r), .second, .val (.double s_), .second, .val (.int k3)] [(.long r), (.long (2 : Int64)), (.long ((2 : Int64) * o))])
      refine Go.on (fun _ k => XS.lmul X12.here hx rfl (hb hby at_346) rfl k) ?_
      show Go _ _ _ _ _ _ _ _ (mkF m 347 #[.val (.long ja), .second, .val (.long jb), .second, .val (.int ic), .val (.int wd), .val (.int os), .val (.long o), .second, .val (.int rs), .val (.long bb), .second, .val (.long r), .second, .val (.double s_), .second, .val (.int k3)] [(.long ((2 : Int64) * r)), (.long ((2 : Int64) * o))])
      refine Go.on (fun _ k => XS.iload X12.here hx rfl (hb hby at_347) rfl k) ?_
      show Go _ _ _ _ _ _ _ _ (mkF m 349 #[.val (.long ja), .second, .val (.long jb), .second, .val (.int ic), .val (.int wd), .val (.int os), .val (.long o), .second, .val (.int rs), .val (.long bb), .second, .val (.long r), .second, .val (.double s_), .second, .val (.int k3)] [(.int ic), (.long ((2 : Int64) * r)), (.long ((2 : Int64) * o))])
      obtain ⟨_, _, ⟨T46, L46, k46, n46⟩, -, X46, ⟨Lc46, hQ46, l46, y46, z46⟩, st46⟩ := Jvm.LawKit.callS X12 hx (y := (⟨"com/example/deliberate_scaler/deliberatescaler/model/OutcomeRejectedSharePinLaw", "share", "(JJI)D"⟩ : MethodName)) hown (mvT hZ (hw _ (List.mem_of_getElem? (i := 1) rfl))) (mvT hZ (hw _ (List.mem_of_getElem? (i := 2) rfl))) (mvT hZ (hw _ (List.mem_of_getElem? (i := 3) rfl))) (mvT hZ (hw _ (List.mem_of_getElem? (i := 4) rfl))) (by decide) (backOf (W := 0) (rm1 l Z aw hw [] ((2 : Int64) * o) ((2 : Int64) * r) ic  h12 n0 ZZ ) hZ (hw _ (List.mem_of_getElem? (i := 4) rfl)) (hw _ (List.mem_of_getElem? (i := 3) rfl)) (by decide) (by decide)) (g := (mkF m 349 #[.val (.long ja), .second, .val (.long jb), .second, .val (.int ic), .val (.int wd), .val (.int os), .val (.long o), .second, .val (.int rs), .val (.long bb), .second, .val (.long r), .second, .val (.double s_), .second, .val (.int k3)] [(.int ic), (.long ((2 : Int64) * r)), (.long ((2 : Int64) * o))])) rfl (by rw [hml]; rfl) (argsL := [(.long ((2 : Int64) * o)), (.long ((2 : Int64) * r)), (.int ic)]) (rest := []) (lenOf pd_3 rfl) rfl (by show 2 * 0 + _ ≤ _; exact Nat.le_of_eq rfl) (hb hby at_349) (fun _ _ => ⟨rfl, e12, (by decide : 1 + 1 ≤ _), (by decide : 7 + 7 ≤ _)⟩)
      dsimp only [Pt.U, Pt.locs, Pt.cells, Pt.slots] at X46 l46 y46 z46 st46 hQ46
      subst l46 y46 z46
      obtain ⟨h46, e46⟩ : ∃ q, T46.heap = q := ⟨_, rfl⟩
      rw [e46] at hQ46
      obtain ⟨rfl, N46q, K46q⟩ := hQ46
      have N46 := Fr.app N12 N46q
      have ZZ46p := ZZ
      replace ZZ := Nat.le_trans ZZ K46q.1
      refine Go.on st46 ?_
      show Go _ _ _ _ _ _ _ _ (mkF m 352 #[.val (.long ja), .second, .val (.long jb), .second, .val (.int ic), .val (.int wd), .val (.int os), .val (.long o), .second, .val (.int rs), .val (.long bb), .second, .val (.long r), .second, .val (.double s_), .second, .val (.int k3)] [(.double (shareV ((2 : Int64) * o) ((2 : Int64) * r)))])
      generalize hs2 : (shareV ((2 : Int64) * o) ((2 : Int64) * r)) = s2
      show Go _ _ _ _ _ _ _ _ (mkF m 352 #[.val (.long ja), .second, .val (.long jb), .second, .val (.int ic), .val (.int wd), .val (.int os), .val (.long o), .second, .val (.int rs), .val (.long bb), .second, .val (.long r), .second, .val (.double s_), .second, .val (.int k3)] [(.double s2)])
      refine Go.on (fun _ k => XS.dload X46.here hx rfl (hb hby at_352) rfl k) ?_
      show Go _ _ _ _ _ _ _ _ (mkF m 354 #[.val (.long ja), .second, .val (.long jb), .second, .val (.int ic), .val (.int wd), .val (.int os), .val (.long o), .second, .val (.int rs), .val (.long bb), .second, .val (.long r), .second, .val (.double s_), .second, .val (.int k3)] [(.double s_), (.double s2)])
      refine Go.on (fun _ k => XS.dcmpS X46.here hx rfl (hb hby at_354) rfl rfl k) ?_
      show Go _ _ _ _ _ _ _ _ (mkF m 355 #[.val (.long ja), .second, .val (.long jb), .second, .val (.int ic), .val (.int wd), .val (.int os), .val (.long o), .second, .val (.int rs), .val (.long bb), .second, .val (.long r), .second, .val (.double s_), .second, .val (.int k3)] [(.int (cmpValue (FP.dcmp s2 s_) .l))])
      suffices hJ47 : ∀ (k4 : Int32), k4 = (if (cmpValue (FP.dcmp s2 s_) .l) = (0 : Int32) then (1 : Int32) else (0 : Int32)) → Go p e below s K1 K2 QQ T46 (mkF m 363 #[.val (.long ja), .second, .val (.long jb), .second, .val (.int ic), .val (.int wd), .val (.int os), .val (.long o), .second, .val (.int rs), .val (.long bb), .second, .val (.long r), .second, .val (.double s_), .second, .val (.int k3)] [(.int k4)]) by
        by_cases hc48 : (cmpValue (FP.dcmp s2 s_) .l) = (0 : Int32)
        · -- pc 355 yes
          refine Go.on (fun _ k => XS.ifNo X46.here hx rfl (hb hby at_355) rfl ((if0 _ _).trans (teq hc48).2) k) ?_
          show Go _ _ _ _ _ _ _ _ (mkF m 358 #[.val (.long ja), .second, .val (.long jb), .second, .val (.int ic), .val (.int wd), .val (.int os), .val (.long o), .second, .val (.int rs), .val (.long bb), .second, .val (.long r), .second, .val (.double s_), .second, .val (.int k3)] [])
          refine Go.on (fun _ k => XS.iconst X46.here hx rfl (hb hby at_358) k) ?_
          show Go _ _ _ _ _ _ _ _ (mkF m 359 #[.val (.long ja), .second, .val (.long jb), .second, .val (.int ic), .val (.int wd), .val (.int os), .val (.long o), .second, .val (.int rs), .val (.long bb), .second, .val (.long r), .second, .val (.double s_), .second, .val (.int k3)] [(.int (1 : Int32))])
          refine Go.on (fun _ k => XS.goto X46.here hx rfl (pc0 := 359) (pc' := 363) rfl (hb hby at_359) (by decide) (by decide) k) ?_
          show Go _ _ _ _ _ _ _ _ (mkF m 363 #[.val (.long ja), .second, .val (.long jb), .second, .val (.int ic), .val (.int wd), .val (.int os), .val (.long o), .second, .val (.int rs), .val (.long bb), .second, .val (.long r), .second, .val (.double s_), .second, .val (.int k3)] [(.int (1 : Int32))])
          exact hJ47 _ (by rw [if_pos hc48])
        · -- pc 355 no
          refine Go.on (fun _ k => XS.ifYes X46.here hx rfl (pc0 := 355) (pc' := 362) rfl (hb hby at_355) rfl ((if0 _ _).trans (feq hc48).2) (by decide) (by decide) k) ?_
          show Go _ _ _ _ _ _ _ _ (mkF m 362 #[.val (.long ja), .second, .val (.long jb), .second, .val (.int ic), .val (.int wd), .val (.int os), .val (.long o), .second, .val (.int rs), .val (.long bb), .second, .val (.long r), .second, .val (.double s_), .second, .val (.int k3)] [])
          refine Go.on (fun _ k => XS.iconst X46.here hx rfl (hb hby at_362) k) ?_
          show Go _ _ _ _ _ _ _ _ (mkF m 363 #[.val (.long ja), .second, .val (.long jb), .second, .val (.int ic), .val (.int wd), .val (.int os), .val (.long o), .second, .val (.int rs), .val (.long bb), .second, .val (.long r), .second, .val (.double s_), .second, .val (.int k3)] [(.int (0 : Int32))])
          exact hJ47 _ (by rw [if_neg hc48])
      intro k4 hk4
      refine Go.on (fun _ k => XS.istore X46.here hx rfl (hb hby at_363) rfl (l' := #[.val (.long ja), .second, .val (.long jb), .second, .val (.int ic), .val (.int wd), .val (.int os), .val (.long o), .second, .val (.int rs), .val (.long bb), .second, .val (.long r), .second, .val (.double s_), .second, .val (.int k4)]) rfl k) ?_
      show Go _ _ _ _ _ _ _ _ (mkF m 365 #[.val (.long ja), .second, .val (.long jb), .second, .val (.int ic), .val (.int wd), .val (.int os), .val (.long o), .second, .val (.int rs), .val (.long bb), .second, .val (.long r), .second, .val (.double s_), .second, .val (.int k4)] [])
      refine Go.on (fun _ k => XS.lload X46.here hx rfl (hb hby at_365) rfl k) ?_
      show Go _ _ _ _ _ _ _ _ (mkF m 367 #[.val (.long ja), .second, .val (.long jb), .second, .val (.int ic), .val (.int wd), .val (.int os), .val (.long o), .second, .val (.int rs), .val (.long bb), .second, .val (.long r), .second, .val (.double s_), .second, .val (.int k4)] [(.long r)])
      refine Go.on (fun _ k => XS.lload X46.here hx rfl (hb hby at_367) rfl k) ?_
      show Go _ _ _ _ _ _ _ _ (mkF m 369 #[.val (.long ja), .second, .val (.long jb), .second, .val (.int ic), .val (.int wd), .val (.int os), .val (.long o), .second, .val (.int rs), .val (.long bb), .second, .val (.long r), .second, .val (.double s_), .second, .val (.int k4)] [(.long o), (.long r)])
      refine Go.on (fun _ k => XS.lcmp X46.here hx rfl (hb hby at_369) rfl k) ?_
      show Go _ _ _ _ _ _ _ _ (mkF m 370 #[.val (.long ja), .second, .val (.long jb), .second, .val (.int ic), .val (.int wd), .val (.int os), .val (.long o), .second, .val (.int rs), .val (.long bb), .second, .val (.long r), .second, .val (.double s_), .second, .val (.int k4)] [(.int (lcmpW r o))])
      by_cases hc49 : r < o
      · -- pc 370 yes
        refine Go.on (fun _ k => XS.ifNo X46.here hx rfl (hb hby at_370) rfl ((if0 _ _).trans (tlt (own_lc_lt.mpr hc49)).2.1) k) ?_
        show Go _ _ _ _ _ _ _ _ (mkF m 373 #[.val (.long ja), .second, .val (.long jb), .second, .val (.int ic), .val (.int wd), .val (.int os), .val (.long o), .second, .val (.int rs), .val (.long bb), .second, .val (.long r), .second, .val (.double s_), .second, .val (.int k4)] [])
        refine Go.on (fun _ k => XS.iload X46.here hx rfl (hb hby at_373) rfl k) ?_
        show Go _ _ _ _ _ _ _ _ (mkF m 375 #[.val (.long ja), .second, .val (.long jb), .second, .val (.int ic), .val (.int wd), .val (.int os), .val (.long o), .second, .val (.int rs), .val (.long bb), .second, .val (.long r), .second, .val (.double s_), .second, .val (.int k4)] [(.int k4)])
        have hc50 : ¬ (k4 = (0 : Int32)) := own_ok4 hwd hos ho hrs hbb hr hc13 hs_ hk1 hk2 hk3 hc35 hs2 hk4
        refine Go.on (fun _ k => XS.ifNo X46.here hx rfl (hb hby at_375) rfl ((if0 _ _).trans (feq hc50).1) k) ?_
        show Go _ _ _ _ _ _ _ _ (mkF m 378 #[.val (.long ja), .second, .val (.long jb), .second, .val (.int ic), .val (.int wd), .val (.int os), .val (.long o), .second, .val (.int rs), .val (.long bb), .second, .val (.long r), .second, .val (.double s_), .second, .val (.int k4)] [])
        refine Go.on (fun _ k => XS.lload X46.here hx rfl (hb hby at_378) rfl k) ?_
        show Go _ _ _ _ _ _ _ _ (mkF m 380 #[.val (.long ja), .second, .val (.long jb), .second, .val (.int ic), .val (.int wd), .val (.int os), .val (.long o), .second, .val (.int rs), .val (.long bb), .second, .val (.long r), .second, .val (.double s_), .second, .val (.int k4)] [(.long o)])
        refine Go.on (fun _ k => XS.lload X46.here hx rfl (hb hby at_380) rfl k) ?_
        show Go _ _ _ _ _ _ _ _ (mkF m 382 #[.val (.long ja), .second, .val (.long jb), .second, .val (.int ic), .val (.int wd), .val (.int os), .val (.long o), .second, .val (.int rs), .val (.long bb), .second, .val (.long r), .second, .val (.double s_), .second, .val (.int k4)] [(.long r), (.long o)])
        refine Go.on (fun _ k => XS.lconst X46.here hx rfl (hb hby at_382) k) ?_
        show Go _ _ _ _ _ _ _ _ (mkF m 383 #[.val (.long ja), .second, .val (.long jb), .second, .val (.int ic), .val (.int wd), .val (.int os), .val (.long o), .second, .val (.int rs), .val (.long bb), .second, .val (.long r), .second, .val (.double s_), .second, .val (.int k4)] [(.long (1 : Int64)), (.long r), (.long o)])
        refine Go.on (fun _ k => XS.ladd X46.here hx rfl (hb hby at_383) rfl k) ?_
        show Go _ _ _ _ _ _ _ _ (mkF m 384 #[.val (.long ja), .second, .val (.long jb), .second, .val (.int ic), .val (.int wd), .val (.int os), .val (.long o), .second, .val (.int rs), .val (.long bb), .second, .val (.long r), .second, .val (.double s_), .second, .val (.int k4)] [(.long (r + (1 : Int64))), (.long o)])
        refine Go.on (fun _ k => XS.iload X46.here hx rfl (hb hby at_384) rfl k) ?_
        show Go _ _ _ _ _ _ _ _ (mkF m 386 #[.val (.long ja), .second, .val (.long jb), .second, .val (.int ic), .val (.int wd), .val (.int os), .val (.long o), .second, .val (.int rs), .val (.long bb), .second, .val (.long r), .second, .val (.double s_), .second, .val (.int k4)] [(.int ic), (.long (r + (1 : Int64))), (.long o)])
        obtain ⟨_, _, ⟨T51, L51, k51, n51⟩, -, X51, ⟨Lc51, hQ51, l51, y51, z51⟩, st51⟩ := Jvm.LawKit.callS X46 hx (y := (⟨"com/example/deliberate_scaler/deliberatescaler/model/OutcomeRejectedSharePinLaw", "share", "(JJI)D"⟩ : MethodName)) hown (mvT hZ (hw _ (List.mem_of_getElem? (i := 1) rfl))) (mvT hZ (hw _ (List.mem_of_getElem? (i := 2) rfl))) (mvT hZ (hw _ (List.mem_of_getElem? (i := 3) rfl))) (mvT hZ (hw _ (List.mem_of_getElem? (i := 4) rfl))) (by decide) (backOf (W := 0) (rm1 l Z aw hw [] o (r + (1 : Int64)) ic  h46 n0 ZZ ) hZ (hw _ (List.mem_of_getElem? (i := 4) rfl)) (hw _ (List.mem_of_getElem? (i := 3) rfl)) (by decide) (by decide)) (g := (mkF m 386 #[.val (.long ja), .second, .val (.long jb), .second, .val (.int ic), .val (.int wd), .val (.int os), .val (.long o), .second, .val (.int rs), .val (.long bb), .second, .val (.long r), .second, .val (.double s_), .second, .val (.int k4)] [(.int ic), (.long (r + (1 : Int64))), (.long o)])) rfl (by rw [hml]; rfl) (argsL := [(.long o), (.long (r + (1 : Int64))), (.int ic)]) (rest := []) (lenOf pd_3 rfl) rfl (by show 2 * 0 + _ ≤ _; exact Nat.le_of_eq rfl) (hb hby at_386) (fun _ _ => ⟨rfl, e46, (by decide : 2 + 1 ≤ _), (by decide : 14 + 7 ≤ _)⟩)
        dsimp only [Pt.U, Pt.locs, Pt.cells, Pt.slots] at X51 l51 y51 z51 st51 hQ51
        subst l51 y51 z51
        obtain ⟨h51, e51⟩ : ∃ q, T51.heap = q := ⟨_, rfl⟩
        rw [e51] at hQ51
        obtain ⟨rfl, N51q, K51q⟩ := hQ51
        have N51 := Fr.app N46 N51q
        have ZZ51p := ZZ
        replace ZZ := Nat.le_trans ZZ K51q.1
        refine Go.on st51 ?_
        show Go _ _ _ _ _ _ _ _ (mkF m 389 #[.val (.long ja), .second, .val (.long jb), .second, .val (.int ic), .val (.int wd), .val (.int os), .val (.long o), .second, .val (.int rs), .val (.long bb), .second, .val (.long r), .second, .val (.double s_), .second, .val (.int k4)] [(.double (shareV o (r + (1 : Int64))))])
        generalize hs3 : (shareV o (r + (1 : Int64))) = s3
        show Go _ _ _ _ _ _ _ _ (mkF m 389 #[.val (.long ja), .second, .val (.long jb), .second, .val (.int ic), .val (.int wd), .val (.int os), .val (.long o), .second, .val (.int rs), .val (.long bb), .second, .val (.long r), .second, .val (.double s_), .second, .val (.int k4)] [(.double s3)])
        refine Go.on (fun _ k => XS.dload X51.here hx rfl (hb hby at_389) rfl k) ?_
        show Go _ _ _ _ _ _ _ _ (mkF m 391 #[.val (.long ja), .second, .val (.long jb), .second, .val (.int ic), .val (.int wd), .val (.int os), .val (.long o), .second, .val (.int rs), .val (.long bb), .second, .val (.long r), .second, .val (.double s_), .second, .val (.int k4)] [(.double s_), (.double s3)])
        refine Go.on (fun _ k => XS.dcmpS X51.here hx rfl (hb hby at_391) rfl rfl k) ?_
        show Go _ _ _ _ _ _ _ _ (mkF m 392 #[.val (.long ja), .second, .val (.long jb), .second, .val (.int ic), .val (.int wd), .val (.int os), .val (.long o), .second, .val (.int rs), .val (.long bb), .second, .val (.long r), .second, .val (.double s_), .second, .val (.int k4)] [(.int (cmpValue (FP.dcmp s3 s_) .l))])
        suffices hJ52 : ∀ (k5 : Int32), k5 = (if (0 : Int32) < (cmpValue (FP.dcmp s3 s_) .l) then (1 : Int32) else (0 : Int32)) → Go p e below s K1 K2 QQ T51 (mkF m 400 #[.val (.long ja), .second, .val (.long jb), .second, .val (.int ic), .val (.int wd), .val (.int os), .val (.long o), .second, .val (.int rs), .val (.long bb), .second, .val (.long r), .second, .val (.double s_), .second, .val (.int k4)] [(.int k5)]) by
          by_cases hc53 : (0 : Int32) < (cmpValue (FP.dcmp s3 s_) .l)
          · -- pc 392 yes
            refine Go.on (fun _ k => XS.ifNo X51.here hx rfl (hb hby at_392) rfl ((if0 _ _).trans (tlt hc53).2.2.2) k) ?_
            show Go _ _ _ _ _ _ _ _ (mkF m 395 #[.val (.long ja), .second, .val (.long jb), .second, .val (.int ic), .val (.int wd), .val (.int os), .val (.long o), .second, .val (.int rs), .val (.long bb), .second, .val (.long r), .second, .val (.double s_), .second, .val (.int k4)] [])
            refine Go.on (fun _ k => XS.iconst X51.here hx rfl (hb hby at_395) k) ?_
            show Go _ _ _ _ _ _ _ _ (mkF m 396 #[.val (.long ja), .second, .val (.long jb), .second, .val (.int ic), .val (.int wd), .val (.int os), .val (.long o), .second, .val (.int rs), .val (.long bb), .second, .val (.long r), .second, .val (.double s_), .second, .val (.int k4)] [(.int (1 : Int32))])
            refine Go.on (fun _ k => XS.goto X51.here hx rfl (pc0 := 396) (pc' := 400) rfl (hb hby at_396) (by decide) (by decide) k) ?_
            show Go _ _ _ _ _ _ _ _ (mkF m 400 #[.val (.long ja), .second, .val (.long jb), .second, .val (.int ic), .val (.int wd), .val (.int os), .val (.long o), .second, .val (.int rs), .val (.long bb), .second, .val (.long r), .second, .val (.double s_), .second, .val (.int k4)] [(.int (1 : Int32))])
            exact hJ52 _ (by rw [if_pos hc53])
          · -- pc 392 no
            refine Go.on (fun _ k => XS.ifYes X51.here hx rfl (pc0 := 392) (pc' := 399) rfl (hb hby at_392) rfl ((if0 _ _).trans (flt hc53).2.2.2) (by decide) (by decide) k) ?_
            show Go _ _ _ _ _ _ _ _ (mkF m 399 #[.val (.long ja), .second, .val (.long jb), .second, .val (.int ic), .val (.int wd), .val (.int os), .val (.long o), .second, .val (.int rs), .val (.long bb), .second, .val (.long r), .second, .val (.double s_), .second, .val (.int k4)] [])
            refine Go.on (fun _ k => XS.iconst X51.here hx rfl (hb hby at_399) k) ?_
            show Go _ _ _ _ _ _ _ _ (mkF m 400 #[.val (.long ja), .second, .val (.long jb), .second, .val (.int ic), .val (.int wd), .val (.int os), .val (.long o), .second, .val (.int rs), .val (.long bb), .second, .val (.long r), .second, .val (.double s_), .second, .val (.int k4)] [(.int (0 : Int32))])
            exact hJ52 _ (by rw [if_neg hc53])
        intro k5 hk5
        refine Go.on (fun _ k => XS.istore X51.here hx rfl (hb hby at_400) rfl (l' := #[.val (.long ja), .second, .val (.long jb), .second, .val (.int ic), .val (.int wd), .val (.int os), .val (.long o), .second, .val (.int rs), .val (.long bb), .second, .val (.long r), .second, .val (.double s_), .second, .val (.int k5)]) rfl k) ?_
        show Go _ _ _ _ _ _ _ _ (mkF m 402 #[.val (.long ja), .second, .val (.long jb), .second, .val (.int ic), .val (.int wd), .val (.int os), .val (.long o), .second, .val (.int rs), .val (.long bb), .second, .val (.long r), .second, .val (.double s_), .second, .val (.int k5)] [])
        refine Go.on (fun _ k => XS.iload X51.here hx rfl (hb hby at_402) rfl k) ?_
        show Go _ _ _ _ _ _ _ _ (mkF m 404 #[.val (.long ja), .second, .val (.long jb), .second, .val (.int ic), .val (.int wd), .val (.int os), .val (.long o), .second, .val (.int rs), .val (.long bb), .second, .val (.long r), .second, .val (.double s_), .second, .val (.int k5)] [(.int k5)])
        refine Go.retN X51 hx (t := .boolean) Bd.returns (by simp) (hb hby at_404) ?_ (by rw [hK1]; decide) (by rw [hK2]; decide)
        rw [e51, ← hQQ]
        have hres : k5 = 1 := own_f2 hwd hos ho hrs hbb hr hc13 hs_ hk1 hk2 hk3 hc35 hs2 hk4 hc49 hs3 hk5
        rw [hres]
        exact ⟨rfl, N51⟩
      · -- pc 370 no
        refine Go.on (fun _ k => XS.ifYes X46.here hx rfl (pc0 := 370) (pc' := 402) rfl (hb hby at_370) rfl ((if0 _ _).trans (flt (fun q => hc49 (own_lc_lt.mp q))).2.1) (by decide) (by decide) k) ?_
        show Go _ _ _ _ _ _ _ _ (mkF m 402 #[.val (.long ja), .second, .val (.long jb), .second, .val (.int ic), .val (.int wd), .val (.int os), .val (.long o), .second, .val (.int rs), .val (.long bb), .second, .val (.long r), .second, .val (.double s_), .second, .val (.int k4)] [])
        refine Go.on (fun _ k => XS.iload X46.here hx rfl (hb hby at_402) rfl k) ?_
        show Go _ _ _ _ _ _ _ _ (mkF m 404 #[.val (.long ja), .second, .val (.long jb), .second, .val (.int ic), .val (.int wd), .val (.int os), .val (.long o), .second, .val (.int rs), .val (.long bb), .second, .val (.long r), .second, .val (.double s_), .second, .val (.int k4)] [(.int k4)])
        refine Go.retN X46 hx (t := .boolean) Bd.returns (by simp) (hb hby at_404) ?_ (by rw [hK1]; decide) (by rw [hK2]; decide)
        rw [e46, ← hQQ]
        have hres : k4 = 1 := own_f3 hwd hos ho hrs hbb hr hc13 hs_ hk1 hk2 hk3 hc35 hs2 hk4
        rw [hres]
        exact ⟨rfl, N46⟩
    · -- pc 284 no
      refine Go.on (fun _ k => XS.ifNo X12.here hx rfl (hb hby at_284) rfl ((if0 _ _).trans (feq hc35).1) k) ?_
      show Go _ _ _ _ _ _ _ _ (mkF m 287 #[.val (.long ja), .second, .val (.long jb), .second, .val (.int ic), .val (.int wd), .val (.int os), .val (.long o), .second, .val (.int rs), .val (.long bb), .second, .val (.long r), .second, .val (.double s_), .second, .val (.int k2)] [])
      refine Go.on (fun _ k => XS.iload X12.here hx rfl (hb hby at_287) rfl k) ?_
      show Go _ _ _ _ _ _ _ _ (mkF m 289 #[.val (.long ja), .second, .val (.long jb), .second, .val (.int ic), .val (.int wd), .val (.int os), .val (.long o), .second, .val (.int rs), .val (.long bb), .second, .val (.long r), .second, .val (.double s_), .second, .val (.int k2)] [(.int k2)])
      refine Go.retN X12 hx (t := .boolean) Bd.returns (by simp) (hb hby at_289) ?_ (by rw [hK1]; decide) (by rw [hK2]; decide)
      rw [e12, ← hQQ]
      have hres : k2 = 1 := own_f1 hwd hos ho hrs hbb hr hc13 hs_ hk1 hk2
      rw [hres]
      exact ⟨rfl, N12⟩
set_option maxRecDepth 65536 in
set_option maxHeartbeats 40000000 in
theorem comes_1 {Post : Tables → Env → Array Value → State → Outcome → State → Prop} (hpost : ∀ tb e args s v u, (limb_1_1.after args s (.returned v) u = true ∧ limb_1_2.after args s (.returned v) u = true ∧ True) → FrameEnd s (.returned v) u (Jvm.fieldLocs frame_1_writes args s ++ Jvm.arrayLocs frame_1_arrays args s ++ Jvm.staticLocs frame_1_statics s) 16 128 → Post tb e args s (.returned v) u) :
    ArmFor flags0 classFile x code maxLocals ret World_1 tables_1 room_1 Calls_1 rest_1 Pre_1 Post := by
  intro l hfl _ _ p e ha hc hk s m args below hf hA hF happ hP
  obtain ⟨hcalls, hrest, hpre⟩ := hP
  obtain ⟨-, -, -, hnamed, -, -, -, hat⟩ := (Spec.applies_iff hf).mp happ
  obtain ⟨hg, hn⟩ := and_e (Cond.before_iff.mp (show (Jvm.Cond.and given_1 narrow_1).before args s = true from hpre))
  obtain ⟨g0, r0⟩ := and_e hg
  obtain ⟨g1, r1⟩ := and_e r0
  obtain ⟨g2, g3⟩ := and_e r1
  obtain ⟨w0, w1, w2, rfl⟩ : ∃ w0 w1 w2 : Value, args = #[w0, w1, w2] := by
    have hs : args.size = 3 := by simpa [Cond.value, given_1] using g0
    obtain ⟨L⟩ := args
    match L, hs with
    | [w0, w1, w2], _ => exact ⟨w0, w1, w2, rfl⟩
  have hw := fun d (hd : d ∈ tables_1) => atoms_spec (ws := Jvm.Cond.code x code maxLocals ret :: tables_1) hat d (List.mem_cons_of_mem _ hd)
  have hfit : Fit s := fun {y c} hc i hi => by
    obtain ⟨ha, rfl⟩ := Array.getElem?_eq_some_iff.mp hc
    have q := List.all_eq_true.mp ((Array.all_eq_true_iff_forall_mem.mp hF) _ (Array.getElem_mem ha)) i (List.mem_range.mpr hi)
    simpa [Array.getElem?_eq_getElem hi] using q
  obtain ⟨i0, ei0⟩ := isL_v g1
  obtain rfl : w0 = (.long i0) := Option.some.inj ei0
  obtain ⟨i1, ei1⟩ := isL_v g2
  obtain rfl : w1 = (.long i1) := Option.some.inj ei1
  obtain ⟨i2, ei2⟩ := is_v g3
  obtain rfl : w2 = (.int i2) := Option.some.inj ei2
  obtain ⟨n, o, h1, h2, h3, _, L, rfl, ⟨rfl, N⟩, hq⟩ := rm0 l s _ hw tables_1 i0 i1 i2 s.heap s.heap.size (Nat.le_refl _) p e ha hc hk s m _ below hf ((Spec.applies_iff_loose hf).mp happ).1 ⟨rfl, State.Warmed39.refl s, rfl⟩ trivial
  refine ⟨n, _, h1, h2, h3, hpost _ _ _ _ _ _ ⟨Cond.after_iff.mpr rfl, Cond.after_iff.mpr (eq_i res_at (Term.int_eval (1)) rfl), trivial⟩ ⟨hq.1, hq.2.1, (hq.2.2.sift fun y hy => Or.inr (N y hy)).mono (by decide) (by decide)⟩⟩
theorem main_1_1 : Claimed_1_1 := comes_1 fun _ _ _ _ _ _ h hF => ⟨h.1, hF⟩
theorem main_1_2 : Claimed_1_2 := comes_1 fun _ _ _ _ _ _ h hF => ⟨h.2.1, hF⟩
end Jvm.Pilot.@@N@@
namespace Jvm.Pilot.@@N@@
open Jvm Jvm.ClassFile Sem Op Lib Jvm.Free Jvm.Stand Jvm.Pilot.@@N@@.Jvm.D
/-! MADE BY PROGRAM (witnessworld.py) out of the Statement's table words and the real class files: 10 classes; the members and pool entries that the words name. The judged class is class 1, her method 2. -/
namespace start1
open Jvm.ClassFile
def u (s : String) : CpInfo := .utf8 (stringToUtf16 s)
/-- a pool by its gaps: so many unusable entries, then the entry; so many at the end -/
def gap : Nat → List CpInfo → List CpInfo
  | 0, r => r
  | n + 1, r => .unusable :: gap n r
def poolList (es : List (Nat × CpInfo)) (last : Nat) : List CpInfo := es.foldr (fun e r => gap e.1 (e.2 :: r)) (gap last [])
def pool (es : List (Nat × CpInfo)) (last : Nat) : Array CpInfo := ⟨poolList es last⟩
def fileOf (pool : Array CpInfo) (this : Nat) (attrs : Array Attribute := #[]) (ms : Array MethodInfo := #[]) (fl : Nat := 33) (sup : Nat := 0) (ifs : Array Nat := #[]) (fds : Array FieldInfo := #[]) : ClassFile where
  minorVersion := 0
  majorVersion := 65
  constantPool := pool
  accessFlags := fl
  thisClass := this
  superClass := sup
  interfaces := ifs
  fields := fds
  methods := ms
  attributes := attrs
def plain (name : String) (sup : Option ClassId) : Class where
  name := name
  kind := .ordinary
  loader := none
  accessFlags := 33
  super := sup
  interfaces := #[]
  cf := none
  fields := #[]
  methods := #[]
  instanceTypes := #[]
  staticTypes := #[]
  resolved := #[]
  callSites := []
  init := .initialized
  statics := none
  mirror := none

def pool0 : Array CpInfo := pool [(5, u "<init>"), (0, u "()V"), (1, .class_ 10), (1, u "java/lang/Object")] 113

def k0c0 : Code := { maxStack := 0, maxLocals := 1, code := object_method_1_code, exceptionTable := #[], attributes := #[] }
def k0m0 : Method := { name := "<init>", desc := "()V", sig := { parameters := [], returnType := none }, accessFlags := 1, code := some k0c0 }
/-- java/lang/Object -/
def k0 : Class := { plain "java/lang/Object" none with
  accessFlags := 33
  interfaces := #[]
  cf := some (fileOf pool0 8 #[] #[{ accessFlags := 1, nameIndex := 5, descriptorIndex := 6, attributes := #[] }] 33 0 #[] #[])
  fields := #[]
  methods := #[k0m0]
  instanceTypes := #[]
  staticTypes := #[]
  resolved := Array.replicate 124 none
  statics := none }

def pool1 : Array CpInfo := pool [(2, .class_ 4), (1, u "java/lang/Object"), (0, u "<init>"), (0, u "()V"), (0, .class_ 8), (0, u "com/example/deliberate_scaler/deliberatescaler/model/Simulation$Outcome"), (0, .methodref 7 10), (0, .nameAndType 5 11), (0, u "(JJJDDDD)V"), (0, .methodref 7 13), (0, .nameAndType 14 15), (0, u "rejectedShare"), (0, u "()D"), (0, .long 63), (1, .long 40), (3, .long 9223372036854775807), (1, .long 1099511627775), (1, .methodref 27 28), (0, .class_ 29), (0, .nameAndType 30 31), (0, u "com/example/deliberate_scaler/deliberatescaler/model/OutcomeRejectedSharePinLaw"), (0, u "share"), (0, u "(JJI)D"), (0, .long 2), (3, u "law"), (0, u "(JJI)Z")] 7

def k1m0 : Method := { name := "<init>", desc := "()V", sig := { parameters := [], returnType := none }, accessFlags := 1, code := none }
def k1c1 : Code := { maxStack := 16, maxLocals := 5, code := method_2_code, exceptionTable := #[], attributes := #[] }
def k1m1 : Method := { name := "share", desc := "(JJI)D", sig := { parameters := [.long, .long, .int], returnType := some .double }, accessFlags := 10, code := some k1c1 }
def k1c2 : Code := { maxStack := 6, maxLocals := 17, code := code, exceptionTable := #[], attributes := #[] }
def k1m2 : Method := { name := "law", desc := "(JJI)Z", sig := { parameters := [.long, .long, .int], returnType := some .boolean }, accessFlags := 9, code := some k1c2 }
/-- com/example/deliberate_scaler/deliberatescaler/model/OutcomeRejectedSharePinLaw -/
def k1 : Class := { plain "com/example/deliberate_scaler/deliberatescaler/model/OutcomeRejectedSharePinLaw" (some 0) with
  accessFlags := 49
  interfaces := #[]
  cf := some (fileOf pool1 27 #[] #[{ accessFlags := 1, nameIndex := 5, descriptorIndex := 6, attributes := #[] }, { accessFlags := 10, nameIndex := 30, descriptorIndex := 31, attributes := #[] }, { accessFlags := 9, nameIndex := 36, descriptorIndex := 37, attributes := #[] }] 49 2 #[] #[])
  fields := #[]
  methods := #[k1m0, k1m1, k1m2]
  instanceTypes := #[]
  staticTypes := #[]
  resolved := Array.replicate 45 none
  statics := none }

def pool2 : Array CpInfo := pool [(1, .methodref 2 3), (0, .class_ 4), (0, .nameAndType 5 6), (0, u "java/lang/Object"), (0, u "<init>"), (0, u "()V"), (0, .class_ 8), (0, u "java/lang/Record")] 13

def k2c0 : Code := { maxStack := 1, maxLocals := 1, code := jdk_30_method_1_code, exceptionTable := #[], attributes := #[] }
def k2m0 : Method := { name := "<init>", desc := "()V", sig := { parameters := [], returnType := none }, accessFlags := 4, code := some k2c0 }
/-- java/lang/Record -/
def k2 : Class := { plain "java/lang/Record" (some 0) with
  accessFlags := 1057
  interfaces := #[]
  cf := some (fileOf pool2 7 #[] #[{ accessFlags := 4, nameIndex := 5, descriptorIndex := 6, attributes := #[] }] 1057 2 #[] #[])
  fields := #[]
  methods := #[k2m0]
  instanceTypes := #[]
  staticTypes := #[]
  resolved := Array.replicate 22 none
  statics := none }

def pool3 : Array CpInfo := pool [(1, .methodref 2 3), (0, .class_ 4), (0, .nameAndType 5 6), (0, u "java/lang/Record"), (0, u "<init>"), (0, u "()V"), (0, .fieldref 8 9), (0, .class_ 10), (0, .nameAndType 11 12), (0, u "com/example/deliberate_scaler/deliberatescaler/model/Simulation$Outcome"), (0, u "offered"), (0, u "J"), (0, .fieldref 8 14), (0, .nameAndType 15 12), (0, u "accepted"), (0, .fieldref 8 17), (0, .nameAndType 18 12), (0, u "rejected"), (0, .fieldref 8 20), (0, .nameAndType 21 22), (0, u "meanResponseTime"), (0, u "D"), (0, .fieldref 8 24), (0, .nameAndType 25 22), (0, u "meanInSystem"), (0, .fieldref 8 27), (0, .nameAndType 28 22), (0, u "workerSeconds"), (0, .fieldref 8 30), (0, .nameAndType 31 22), (0, u "targetSeconds"), (12, u "(JJJDDDD)V"), (3, u "rejectedShare"), (0, u "()D"), (9, .class_ 60), (0, u "com/example/deliberate_scaler/deliberatescaler/model/Simulation")] 25

def k3c0 : Code := { maxStack := 3, maxLocals := 15, code := prog_47_method_1_code, exceptionTable := #[], attributes := #[] }
def k3m0 : Method := { name := "<init>", desc := "(JJJDDDD)V", sig := { parameters := [.long, .long, .long, .double, .double, .double, .double], returnType := none }, accessFlags := 1, code := some k3c0 }
def k3c1 : Code := { maxStack := 4, maxLocals := 1, code := prog_47_method_2_code, exceptionTable := #[], attributes := #[] }
def k3m1 : Method := { name := "rejectedShare", desc := "()D", sig := { parameters := [], returnType := some .double }, accessFlags := 1, code := some k3c1 }
/-- com/example/deliberate_scaler/deliberatescaler/model/Simulation$Outcome -/
def k3 : Class := { plain "com/example/deliberate_scaler/deliberatescaler/model/Simulation$Outcome" (some 2) with
  accessFlags := 49
  interfaces := #[]
  cf := some (fileOf pool3 8 #[.nestHost 59] #[{ accessFlags := 1, nameIndex := 5, descriptorIndex := 44, attributes := #[] }, { accessFlags := 1, nameIndex := 48, descriptorIndex := 49, attributes := #[] }] 49 2 #[] #[{ accessFlags := 18, nameIndex := 11, descriptorIndex := 12, attributes := #[] }, { accessFlags := 18, nameIndex := 15, descriptorIndex := 12, attributes := #[] }, { accessFlags := 18, nameIndex := 18, descriptorIndex := 12, attributes := #[] }, { accessFlags := 18, nameIndex := 21, descriptorIndex := 22, attributes := #[] }, { accessFlags := 18, nameIndex := 25, descriptorIndex := 22, attributes := #[] }, { accessFlags := 18, nameIndex := 28, descriptorIndex := 22, attributes := #[] }, { accessFlags := 18, nameIndex := 31, descriptorIndex := 22, attributes := #[] }])
  fields := #[{ name := "offered", type := .long, accessFlags := 18, slot := 0, constantValue := 0 }, { name := "accepted", type := .long, accessFlags := 18, slot := 1, constantValue := 0 }, { name := "rejected", type := .long, accessFlags := 18, slot := 2, constantValue := 0 }, { name := "meanResponseTime", type := .double, accessFlags := 18, slot := 3, constantValue := 0 }, { name := "meanInSystem", type := .double, accessFlags := 18, slot := 4, constantValue := 0 }, { name := "workerSeconds", type := .double, accessFlags := 18, slot := 5, constantValue := 0 }, { name := "targetSeconds", type := .double, accessFlags := 18, slot := 6, constantValue := 0 }]
  methods := #[k3m0, k3m1]
  instanceTypes := #[.long, .long, .long, .double, .double, .double, .double]
  staticTypes := #[]
  resolved := Array.replicate 86 none
  statics := none }

def pool4 : Array CpInfo := pool [(1, u "java/lang/Cloneable"), (0, .class_ 1), (0, u "java/lang/Object"), (0, .class_ 3)] 3

/-- java/lang/Cloneable -/
def k4 : Class := { plain "java/lang/Cloneable" (some 0) with
  accessFlags := 1537
  interfaces := #[]
  cf := some (fileOf pool4 2 #[] #[] 1537 4 #[] #[])
  fields := #[]
  methods := #[]
  instanceTypes := #[]
  staticTypes := #[]
  resolved := Array.replicate 8 none
  statics := none }

def pool5 : Array CpInfo := pool [(1, u "java/io/Serializable"), (0, .class_ 1), (0, u "java/lang/Object"), (0, .class_ 3)] 3

/-- java/io/Serializable -/
def k5 : Class := { plain "java/io/Serializable" (some 0) with
  accessFlags := 1537
  interfaces := #[]
  cf := some (fileOf pool5 2 #[] #[] 1537 4 #[] #[])
  fields := #[]
  methods := #[]
  instanceTypes := #[]
  staticTypes := #[]
  resolved := Array.replicate 8 none
  statics := none }

/-- the primitive byte -/
def k6 : Class := { plain "byte" none with kind := .primitive 'B', accessFlags := 0x411 }
/-- [B -/
def k7 : Class := { plain "[B" (some 0) with kind := .array 6 .byte, interfaces := #[4, 5], accessFlags := 1041 }

/-- the primitive int -/
def k8 : Class := { plain "int" none with kind := .primitive 'I', accessFlags := 0x411 }
/-- [I -/
def k9 : Class := { plain "[I" (some 0) with kind := .array 8 .int, interfaces := #[4, 5], accessFlags := 1041 }

def heap : Heap := #[]
def classes : Array Class := #[k0, k1, k2, k3, k4, k5, k6, k7, k8, k9]
def interned : List (Array UInt16 × Addr) := []
def slotsUsed : Nat := 0
def theMethod : MethodId := ⟨1, 2⟩
def args0 : Array Value := #[.long 5, .long 7, .int 3]
def aboutOver (below : List Frame) : State where
  vm := { classes := classes, interned := interned.toArray }
  heap := heap
  slotsUsed := slotsUsed
  threads := #[{ frames := .invoking theMethod args0 :: below }]
def below0 : List Frame := [.native { method := ⟨0, 0⟩, args := #[] }]
def about1 : State := aboutOver below0
def p0 : Program := .bare "" "" ""
def e0 : Env := launch0.env 0 0 0
theorem w_frames : about1.frames = Frame.invoking theMethod args0 :: below0 := rfl
set_option maxRecDepth 65536 in
theorem w_args : argsFit about1.vm theMethod args0 = true := by decide +kernel
set_option maxRecDepth 65536 in
theorem w_heap : heapFits about1 = true := by decide +kernel
set_option maxRecDepth 65536 in
theorem w_runnable : about1.curStatus? = some .runnable := by decide +kernel
set_option maxRecDepth 65536 in
theorem w_alone : about1.alone = true := by decide +kernel
set_option maxRecDepth 65536 in
theorem w_named : about1.methodNamed? x = some theMethod := by decide +kernel
set_option maxRecDepth 65536 in
theorem w_hears : about1.hears theMethod below0 = true := by decide +kernel
set_option maxRecDepth 65536 in
theorem w_ripe : about1.ripe theMethod args0 below0 = true := by decide +kernel
theorem w_running : about1.status = .running := rfl
set_option maxRecDepth 65536 in
theorem w_room : about1.hasRoom e0.platform room_1 = true :=
  launch0.hasRoom_least _ room_1 (by decide +kernel) (by decide +kernel) (by decide +kernel) (by decide +kernel) (by decide +kernel) (by decide +kernel)
theorem allAtoms_all (ts : List Jvm.Cond) (a : Array Jvm.Value) (st : Jvm.State) : (allAtoms ts).before a st = ts.all (fun c => c.before a st) := by
  induction ts with
  | nil => rfl
  | cons c t ih =>
    show (Jvm.Cond.and c (allAtoms t)).before a st = _
    rw [Jvm.Cond.before_and, ih, List.all_cons]
def words1 : List Jvm.Cond := Jvm.Cond.code x code maxLocals ret :: tables_1
/-- a 'code' word, met by the world's own term for the bytes: nothing is compared byte by byte -/
theorem code_word {y : MethodName} {bytes : ByteArray} {mx : Nat} {rt : Option FieldType} {a : Array Value} {s : State} {m : MethodId} {meth : Method} {c : Code} (h1 : s.methodNamed? y = some m) (h2 : s.vm.method? m = some meth) (h3 : meth.code = some c) (h4 : c.code = bytes)
    (h5 : (c.maxLocals == mx && c.exceptionTable.isEmpty && decide (c.maxStack ≤ mostOperands) && decide (meth.sig.returnType = rt) && !meth.locks && decide (parseMethodDescriptor y.desc = some meth.sig)) = true) : (Jvm.Cond.code y bytes mx rt).before a s = true := by
  simp only [Bool.and_eq_true, beq_iff_eq, Bool.not_eq_true', decide_eq_true_eq] at h5
  obtain ⟨⟨⟨⟨⟨g1, g2⟩, g3⟩, g4⟩, g5⟩, g6⟩ := h5
  simp [Cond.before, Cond.holds, Cond.value, h1, h2, h3, h4, g1, g2, g3, g4, g5, g6]
def isCode : Jvm.Cond → Bool
  | .code _ _ _ _ => true
  | _ => false
theorem all_split {L : List Jvm.Cond} {P : Jvm.Cond → Bool} (h1 : L.all (fun c => isCode c || P c) = true) (h2 : ∀ c ∈ L.filter isCode, P c = true) : L.all P = true := by
  refine List.all_eq_true.mpr fun c hc => ?_
  have h := List.all_eq_true.mp h1 c hc
  rcases Bool.eq_false_or_eq_true (isCode c) with hi | hi
  · exact h2 c (List.mem_filter.mpr ⟨hc, hi⟩)
  · simpa [hi] using h
set_option maxRecDepth 65536 in
theorem w_c0 : (Jvm.Cond.code x code maxLocals ret).before args0 about1 = true := code_word (m := ⟨1, 2⟩) (meth := k1m2) (c := k1c2) (by decide +kernel) rfl rfl rfl (by decide +kernel)
set_option maxRecDepth 65536 in
theorem w_c1 : (Jvm.Cond.code ({ cls := "com/example/deliberate_scaler/deliberatescaler/model/OutcomeRejectedSharePinLaw", name := "share", desc := "(JJI)D" } : Jvm.MethodName) method_2_code (5 : Nat) (Option.some Jvm.ClassFile.FieldType.double)).before args0 about1 = true := code_word (m := ⟨1, 1⟩) (meth := k1m1) (c := k1c1) (by decide +kernel) rfl rfl rfl (by decide +kernel)
set_option maxRecDepth 65536 in
theorem w_c2 : (Jvm.Cond.code ({ cls := "com/example/deliberate_scaler/deliberatescaler/model/Simulation$Outcome", name := "<init>", desc := "(JJJDDDD)V" } : Jvm.MethodName) prog_47_method_1_code (15 : Nat) (Option.none : Option Jvm.ClassFile.FieldType)).before args0 about1 = true := code_word (m := ⟨3, 0⟩) (meth := k3m0) (c := k3c0) (by decide +kernel) rfl rfl rfl (by decide +kernel)
set_option maxRecDepth 65536 in
theorem w_c3 : (Jvm.Cond.code ({ cls := "java/lang/Record", name := "<init>", desc := "()V" } : Jvm.MethodName) jdk_30_method_1_code (1 : Nat) (Option.none : Option Jvm.ClassFile.FieldType)).before args0 about1 = true := code_word (m := ⟨2, 0⟩) (meth := k2m0) (c := k2c0) (by decide +kernel) rfl rfl rfl (by decide +kernel)
set_option maxRecDepth 65536 in
theorem w_c4 : (Jvm.Cond.code ({ cls := "java/lang/Object", name := "<init>", desc := "()V" } : Jvm.MethodName) object_method_1_code (1 : Nat) (Option.none : Option Jvm.ClassFile.FieldType)).before args0 about1 = true := code_word (m := ⟨0, 0⟩) (meth := k0m0) (c := k0c0) (by decide +kernel) rfl rfl rfl (by decide +kernel)
set_option maxRecDepth 65536 in
theorem w_c5 : (Jvm.Cond.code ({ cls := "com/example/deliberate_scaler/deliberatescaler/model/Simulation$Outcome", name := "rejectedShare", desc := "()D" } : Jvm.MethodName) prog_47_method_2_code (1 : Nat) (Option.some Jvm.ClassFile.FieldType.double)).before args0 about1 = true := code_word (m := ⟨3, 1⟩) (meth := k3m1) (c := k3c1) (by decide +kernel) rfl rfl rfl (by decide +kernel)
def codes1 : List Jvm.Cond := [Jvm.Cond.code x code maxLocals ret, Jvm.Cond.code ({ cls := "com/example/deliberate_scaler/deliberatescaler/model/OutcomeRejectedSharePinLaw", name := "share", desc := "(JJI)D" } : Jvm.MethodName) method_2_code (5 : Nat) (Option.some Jvm.ClassFile.FieldType.double), Jvm.Cond.code ({ cls := "com/example/deliberate_scaler/deliberatescaler/model/Simulation$Outcome", name := "<init>", desc := "(JJJDDDD)V" } : Jvm.MethodName) prog_47_method_1_code (15 : Nat) (Option.none : Option Jvm.ClassFile.FieldType), Jvm.Cond.code ({ cls := "java/lang/Record", name := "<init>", desc := "()V" } : Jvm.MethodName) jdk_30_method_1_code (1 : Nat) (Option.none : Option Jvm.ClassFile.FieldType), Jvm.Cond.code ({ cls := "java/lang/Object", name := "<init>", desc := "()V" } : Jvm.MethodName) object_method_1_code (1 : Nat) (Option.none : Option Jvm.ClassFile.FieldType), Jvm.Cond.code ({ cls := "com/example/deliberate_scaler/deliberatescaler/model/Simulation$Outcome", name := "rejectedShare", desc := "()D" } : Jvm.MethodName) prog_47_method_2_code (1 : Nat) (Option.some Jvm.ClassFile.FieldType.double)]
set_option maxRecDepth 65536 in
theorem codes_eq : words1.filter isCode = codes1 := rfl
theorem w_codes : ∀ c ∈ words1.filter isCode, c.before args0 about1 = true := by
  rw [codes_eq]
  intro c hc
  simp only [codes1, List.mem_cons, List.not_mem_nil, or_false] at hc
  rcases hc with rfl | rfl | rfl | rfl | rfl | rfl
  · exact w_c0
  · exact w_c1
  · exact w_c2
  · exact w_c3
  · exact w_c4
  · exact w_c5
set_option maxRecDepth 65536 in
theorem w_t1 : (words1.take 24).all (fun c => isCode c || c.before args0 about1) = true := by decide +kernel
set_option maxRecDepth 65536 in
theorem w_t2 : (words1.drop 24).all (fun c => isCode c || c.before args0 about1) = true := by decide +kernel
theorem w_tables : (allAtoms (Jvm.Cond.code x code maxLocals ret :: tables_1)).before args0 about1 = true := by
  rw [allAtoms_all]
  show words1.all (fun c => c.before args0 about1) = true
  refine all_split ?_ w_codes
  rw [← List.take_append_drop 24 words1, List.all_append, w_t1, w_t2]
  rfl
set_option maxRecDepth 65536 in
theorem w_case : (Jvm.Cond.and given_1 narrow_1).before args0 about1 = true := by decide +kernel
theorem w_applies : (headSpec (Jvm.Cond.code x code maxLocals ret :: tables_1) room_1).applies x e0.platform about1 = true :=
  (Spec.applies_iff w_frames).mpr ⟨w_running, w_runnable, w_alone, w_named, w_hears, w_ripe, w_room, w_tables⟩
theorem atStart : AtStart classFile x code maxLocals ret World_1 tables_1 room_1 Calls_1 rest_1 Pre_1 launch0 p0 e0 about1 theMethod args0 below0 :=
  ⟨lists_1, trivial, launch0.admits_env _ _ _, launch0.least_env, fairChoices_fair.cas, fairChoices_fair.clock, w_frames, w_args, w_heap, w_applies, trivial, trivial, w_case⟩
end start1
theorem witness_1 : WitnessClaimed_1 := ⟨start1.p0, start1.e0, start1.about1, start1.theMethod, start1.args0, start1.below0, start1.atStart⟩
end Jvm.Pilot.@@N@@
