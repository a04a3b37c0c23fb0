import JvmDerived
import JvmDerived.Pilot.@@N@@Statement
import JvmDerived.Pilot.@@N@@Code
set_option linter.unusedVariables false
set_option linter.unusedSimpArgs false
@@BLOCK:NumsL.lean.txt@@
namespace Jvm.Pilot.@@N@@
open Jvm Jvm.ClassFile Sem Op Lib Jvm.Free Jvm.Stand Jvm.LawKit Jvm.RoadKit Bundle Jvm.Pilot.@@N@@.Jvm.D
section OwnGo
variable {p : Program} {l : Launch} {e : Env} {R : Room} {s : State} {m : MethodId} {args : Array Value} {below : List Frame} {meth : Method} {c : Code} {T T' : State} {locs : List Loc} {cells slots K1 K2 : Nat} {Q : Option Value → Heap → List Loc → Prop}
/-- from T at the frame f the run comes to an end that meets Q -/
def Go (p : Program) (e : Env) (below : List Frame) (s : State) (K1 K2 : Nat) (Q : Option Value → Heap → List Loc → Prop) (T : State) (f : JFrame) : Prop :=
  ∃ s₂ o, Steps p.tables e below (T.setTop f) s₂ ∧ s₂.status = .running ∧ Ended s₂ below o ∧ ∃ v L, o = .returned v ∧ Q v s₂.heap L ∧ FrameEnd s o s₂ L K1 K2
theorem Go.on {f f' : JFrame} (h : ∀ t, Steps p.tables e below (T'.setTop f') t → Steps p.tables e below (T.setTop f) t) (g : Go p e below s K1 K2 Q T' f') : Go p e below s K1 K2 Q T f := by
  obtain ⟨s₂, o, h1, r⟩ := g
  exact ⟨s₂, o, h _ h1, r⟩
theorem Go.cast {f f' : JFrame} (h : f = f') (g : Go p e below s K1 K2 Q T f') : Go p e below s K1 K2 Q T f := h ▸ g
theorem Go.gen {f : JFrame} (h : ∀ k1 k2 q, k1 = K1 → k2 = K2 → Q = q → Go p e below s k1 k2 q T f) : Go p e below s K1 K2 Q T f := h _ _ _ rfl rfl rfl
theorem Go.retV (X : Stand p l e R s m args below meth c T locs cells slots) (hx : p.tables.exec = Jvm.exec) {pc : Nat} {Ls : Array Slot} {w : Value} {t : FieldType} {i : Instr} {rest : List Value} (hret : meth.sig.returnType = some t) (hn : narrow t w = w)
    (hi : (i = .ireturn ∧ (t = .int ∨ t = .boolean ∨ t = .byte ∨ t = .char ∨ t = .short) ∧ ∃ z, w = .int z) ∨ (i = .lreturn ∧ t = .long ∧ ∃ z, w = .long z) ∨ (i = .dreturn ∧ t = .double ∧ ∃ z, w = .double z) ∨ (i = .freturn ∧ t = .float ∧ ∃ z, w = .float z) ∨ (i = .areturn ∧ t.isReference = true ∧ w.isRef = true))
    (hd : decode c.code pc = .ok (i, 1)) (hq : Q (some w) T.heap locs) (hc : cells ≤ K1) (hs : slots ≤ K2) (hlk : meth.locks = false := by assumption) : Go p e below s K1 K2 Q T (mkF m pc Ls (w :: rest)) := by
  obtain ⟨fs, hr, hrun, hended, hW, hsame⟩ := X.leave (v := some w) (fun h => by rw [hret] at h; cases h) hlk
  exact ⟨_, _, retOut X hx hret hn hi hd hr, hrun, hended, _, _, rfl, hq, ⟨_, rfl⟩, hW, hsame.mono hc hs⟩
theorem Go.retN (X : Stand p l e R s m args below meth c T locs cells slots) (hx : p.tables.exec = Jvm.exec) {pc : Nat} {Ls : Array Slot} {z : Int32} {t : FieldType} {rest : List Value} (hret : meth.sig.returnType = some t) (ht : t = .boolean ∨ t = .byte ∨ t = .char ∨ t = .short)
    (hd : decode c.code pc = .ok (.ireturn, 1)) (hq : Q (some (.int (nar t z))) T.heap locs) (hc : cells ≤ K1) (hs : slots ≤ K2) (hlk : meth.locks = false := by assumption) : Go p e below s K1 K2 Q T (mkF m pc Ls (.int z :: rest)) := by
  obtain ⟨fs, hr, hrun, hended, hW, hsame⟩ := X.leave (v := some (.int (nar t z))) (fun h => by rw [hret] at h; cases h) hlk
  exact ⟨_, _, Jvm.RoadKit.retN X hx hret ht hd hr, hrun, hended, _, _, rfl, hq, ⟨_, rfl⟩, hW, hsame.mono hc hs⟩
theorem Go.ret0 (X : Stand p l e R s m args below meth c T locs cells slots) (hx : p.tables.exec = Jvm.exec) {pc : Nat} {Ls : Array Slot} (hret : meth.sig.returnType = none)
    (hd : decode c.code pc = .ok (.return_, 1)) (hq : Q none T.heap locs) (hc : cells ≤ K1) (hs : slots ≤ K2) (hlk : meth.locks = false := by assumption) : Go p e below s K1 K2 Q T (mkF m pc Ls []) := by
  obtain ⟨fs, hr, hrun, hended, hW, hsame⟩ := X.leave (v := none) (fun _ => rfl) hlk
  exact ⟨_, _, X.returnOut hx hret hd hr, hrun, hended, _, _, rfl, hq, ⟨_, rfl⟩, hW, hsame.mono hc hs⟩
theorem own_lc_lt {a b : Int64} : lcmpW a b < 0 ↔ a < b := by rw [lcW]; exact lc_lt a b
theorem own_lc_gt {a b : Int64} : 0 < lcmpW a b ↔ b < a := by rw [lcW]; exact lc_gt a b
theorem own_lc_eq {a b : Int64} : lcmpW a b = 0 ↔ a = b := by rw [lcW]; exact lc_eq a b
theorem own_lremM {g : JFrame} {target : State} (X : Stand p l e R s m args below meth c T locs cells slots) (hx : p.tables.exec = Jvm.exec) (hg : g.method = m) {x y : Int64} {rest : List Value} (hd : decode c.code g.pc = .ok (.lrem, 1)) (hs : g.stack = .long y :: .long x :: rest) (hy : y ≠ 0)
    (hr : Steps p.tables e below (T.setTop { g with pc := g.pc + 1, stack := .long (x % y) :: rest }) target) : Steps p.tables e below (T.setTop g) target := by
  have q : x - x / y * y = x % y := by
    apply Int64.toInt_inj.mp
    have h1 := Int64.le_toInt (x % y)
    have h2 := Int64.toInt_lt (x % y)
    rw [Int64.toInt_sub, Int64.toInt_mul, Int64.toInt_div, Int.bmod_mul_bmod, Int.sub_bmod_bmod, Int.mul_comm (x.toInt.tdiv y.toInt), ← Int.tmod_def, ← Int64.toInt_mod]
    exact Int.bmod_eq_of_le_mul_two (by omega) (by omega)
  exact XS.lrem X.here hx hg hd hs hy (by rw [q]; exact hr)
theorem own_cl_gt {o : Option Ordering} : 0 < cmpValue o .l ↔ o = some .gt := by rcases o with _ | (_ | _ | _) <;> decide
theorem own_cl_lt {o : Option Ordering} : cmpValue o .l < 0 ↔ ¬ (o = some .gt ∨ o = some .eq) := by rcases o with _ | (_ | _ | _) <;> decide
theorem own_cg_lt {o : Option Ordering} : cmpValue o .g < 0 ↔ o = some .lt := by rcases o with _ | (_ | _ | _) <;> decide
theorem own_cg_gt {o : Option Ordering} : 0 < cmpValue o .g ↔ ¬ (o = some .lt ∨ o = some .eq) := by rcases o with _ | (_ | _ | _) <;> decide
theorem own_c_eq {o : Option Ordering} {k : CmpOp} : cmpValue o k = 0 ↔ o = some .eq := by cases k <;> rcases o with _ | (_ | _ | _) <;> decide
end OwnGo
section OwnFp
open Jvm.FP.Core
variable {a b V : UInt64} {x y z v : Int}
/-- the double a is finite and worth x units of 2^-1074 -/
def ZV (a : UInt64) (x : Int) : Prop := DFin a ∧ zval b64 (val64 a) = x
theorem ZV.ne (h : ZV a x) : val64 a ≠ .nan := h.1.ne_nan
theorem ZV.nn (h : ZV a x) : Jvm.Free.Fl.NoNaN64 a := Jvm.Free.Fl.noNaN64_no.mpr h.1.notNaN
theorem ZV.cmp (ha : ZV a x) (hb : ZV b y) : FP.dcmp a b = some (compare x y) := by
  show FP.Core.dcmp a b = _
  rw [dcmp_zval ha.ne hb.ne, ha.2, hb.2]
theorem ZV.uniq (ha : ZV a x) (hb : ZV a y) : x = y := ha.2.symm.trans hb.2
theorem own_fin_of {W : UInt64} (hn : val64 a ≠ .nan) (hW : DFin W) (h : zmag b64 (val64 a) ≤ zmag b64 (val64 W)) : DFin a := by
  cases h2 : val64 a with
  | nan => exact absurd h2 hn
  | inf s =>
    rw [h2] at h
    have := hW.zval_lt
    have e : zmag b64 (.inf s) = b64.tails * 2 ^ (b64.exps - 2) := rfl
    rw [e] at h
    omega
  | fin s c q => exact ⟨s, c, q, h2⟩
theorem own_natAbs (d : Datum) : (zval b64 d).natAbs = zmag b64 d := natAbs_signed _ _
theorem own_fin_of_z {W : UInt64} (hn : val64 a ≠ .nan) (hW : DFin W) (h : (zval b64 (val64 a)).natAbs ≤ (zval b64 (val64 W)).natAbs) : DFin a := by
  rw [own_natAbs, own_natAbs] at h; exact own_fin_of hn hW h
theorem ZV.add (ha : ZV a x) (hb : ZV b y) (hv : ZV V (x + y)) : ZV (FP.dadd a b) (x + y) := by
  have hn : val64 (FP.Core.dadd a b) ≠ .nan := (notNaN_iff _).mp (FP.Core.dadd_out ha.1.notNaN hb.1)
  have e : zval b64 (val64 (FP.Core.dadd a b)) = x + y := by
    have h1 := sum_le good_b64 ha.1 hb.1 (val64_fits a) (val64_fits b) (val64_fits V) hv.ne (by rw [ha.2, hb.2, hv.2]; exact Int.le_refl _)
    have h2 := sum_ge good_b64 ha.1 hb.1 (val64_fits a) (val64_fits b) (val64_fits V) hv.ne (by rw [ha.2, hb.2, hv.2]; exact Int.le_refl _)
    rw [← val64_dadd, hv.2] at h1 h2
    exact Int.le_antisymm h1 h2
  exact ⟨own_fin_of_z hn hv.1 (by rw [e, hv.2]; exact Nat.le_refl _), e⟩
theorem own_neg_fin {d : Datum} (h : ∃ s c q, d = .fin s c q) : ∃ s c q, negate d = .fin s c q := by
  obtain ⟨s, c, q, rfl⟩ := h; exact ⟨_, _, _, rfl⟩
theorem ZV.sub (ha : ZV a x) (hb : ZV b y) (hv : ZV V (x - y)) : ZV (FP.dsub a b) (x - y) := by
  have hn : val64 (FP.Core.dsub a b) ≠ .nan := (notNaN_iff _).mp (FP.Core.dsub_out ha.1.notNaN hb.1)
  have e : zval b64 (val64 (FP.Core.dsub a b)) = x - y := by
    have h1 := sum_le good_b64 ha.1 (own_neg_fin hb.1) (val64_fits a) (negate_fits (val64_fits b)) (val64_fits V) hv.ne (by rw [ha.2, zval_negate, hb.2, hv.2]; omega)
    have h2 := sum_ge good_b64 ha.1 (own_neg_fin hb.1) (val64_fits a) (negate_fits (val64_fits b)) (val64_fits V) hv.ne (by rw [ha.2, zval_negate, hb.2, hv.2]; omega)
    rw [← val64_dsub, hv.2] at h1 h2
    exact Int.le_antisymm h1 h2
  exact ⟨own_fin_of_z hn hv.1 (by rw [e, hv.2]; exact Nat.le_refl _), e⟩
/-- a sum or a difference lies between what bounds it -/
theorem ZV.add_le (ha : ZV a x) (hb : ZV b y) (hv : ZV V v) (h : x + y ≤ v) : zval b64 (val64 (FP.dadd a b)) ≤ v := by
  have h1 := sum_le good_b64 ha.1 hb.1 (val64_fits a) (val64_fits b) (val64_fits V) hv.ne (by rw [ha.2, hb.2, hv.2]; exact h)
  rw [← val64_dadd, hv.2] at h1; exact h1
theorem ZV.add_ge (ha : ZV a x) (hb : ZV b y) (hv : ZV V v) (h : v ≤ x + y) : v ≤ zval b64 (val64 (FP.dadd a b)) := by
  have h1 := sum_ge good_b64 ha.1 hb.1 (val64_fits a) (val64_fits b) (val64_fits V) hv.ne (by rw [ha.2, hb.2, hv.2]; exact h)
  rw [← val64_dadd, hv.2] at h1; exact h1
theorem ZV.sub_le (ha : ZV a x) (hb : ZV b y) (hv : ZV V v) (h : x - y ≤ v) : zval b64 (val64 (FP.dsub a b)) ≤ v := by
  have h1 := sum_le good_b64 ha.1 (own_neg_fin hb.1) (val64_fits a) (negate_fits (val64_fits b)) (val64_fits V) hv.ne (by rw [ha.2, zval_negate, hb.2, hv.2]; omega)
  rw [← val64_dsub, hv.2] at h1; exact h1
theorem ZV.sub_ge (ha : ZV a x) (hb : ZV b y) (hv : ZV V v) (h : v ≤ x - y) : v ≤ zval b64 (val64 (FP.dsub a b)) := by
  have h1 := sum_ge good_b64 ha.1 (own_neg_fin hb.1) (val64_fits a) (negate_fits (val64_fits b)) (val64_fits V) hv.ne (by rw [ha.2, zval_negate, hb.2, hv.2]; omega)
  rw [← val64_dsub, hv.2] at h1; exact h1
/-- the product's bounds -/
theorem own_mul_le (ha : ZV a x) (hb : ZV b y) (hv : ZV V v) (h : x * y ≤ v * (one64 : Int)) : zval b64 (val64 (FP.dmul a b)) ≤ v := by
  obtain ⟨⟨s, c, q, h1⟩, ex⟩ := ha
  obtain ⟨⟨t, d, r, h2⟩, ey⟩ := hb
  have f1 := val64_fits a; have f2 := val64_fits b
  rw [h1] at f1 ex; rw [h2] at f2 ey
  obtain ⟨p1, p2, p3⟩ := product_units f1 f2
  show zval b64 (val64 (FP.Core.dmul a b)) ≤ v
  rw [val64_dmul, h1, h2, p1, ← hv.2]
  refine zval_round_le good_b64 (val64_fits V) hv.ne (e0 := 2 * b64.qmin) (by decide) p2 ?_
  rw [p3, show (b64.qmin - 2 * b64.qmin).toNat = (-b64.qmin).toNat from by decide, pow_qmin64, hv.2, signed_xor]
  have : zval b64 (.fin s c q) * zval b64 (.fin t d r) ≤ v * (one64 : Int) := by rw [ex, ey]; exact h
  exact this
theorem own_mul_ge (ha : ZV a x) (hb : ZV b y) (hv : ZV V v) (h : v * (one64 : Int) ≤ x * y) : v ≤ zval b64 (val64 (FP.dmul a b)) := by
  obtain ⟨⟨s, c, q, h1⟩, ex⟩ := ha
  obtain ⟨⟨t, d, r, h2⟩, ey⟩ := hb
  have f1 := val64_fits a; have f2 := val64_fits b
  rw [h1] at f1 ex; rw [h2] at f2 ey
  obtain ⟨p1, p2, p3⟩ := product_units f1 f2
  show v ≤ zval b64 (val64 (FP.Core.dmul a b))
  rw [val64_dmul, h1, h2, p1, ← hv.2]
  refine zval_round_ge good_b64 (val64_fits V) hv.ne (e0 := 2 * b64.qmin) (by decide) p2 ?_
  rw [p3, show (b64.qmin - 2 * b64.qmin).toNat = (-b64.qmin).toNat from by decide, pow_qmin64, hv.2, signed_xor]
  have : v * (one64 : Int) ≤ zval b64 (.fin s c q) * zval b64 (.fin t d r) := by rw [ex, ey]; exact h
  exact this
theorem ZV.mul (ha : ZV a x) (hb : ZV b y) (hv : ZV V z) (h : x * y = z * (one64 : Int)) : ZV (FP.dmul a b) z := by
  have hn : val64 (FP.Core.dmul a b) ≠ .nan := (notNaN_iff _).mp (FP.Core.dmul_out ha.1 hb.1)
  have e : zval b64 (val64 (FP.Core.dmul a b)) = z := Int.le_antisymm (own_mul_le ha hb hv (Int.le_of_eq h)) (own_mul_ge ha hb hv (Int.le_of_eq h.symm))
  exact ⟨own_fin_of_z hn hv.1 (by rw [e, hv.2]; exact Nat.le_refl _), e⟩
/-- the quotient of finite doubles, the divisor not nought: its datum -/
theorem own_quot (ha : ZV a x) (hb : ZV b y) (hy : y ≠ 0) : ∃ s c q t d r, val64 a = .fin s c q ∧ val64 b = .fin t d r ∧ 0 < d ∧ val64 (FP.ddiv a b) = roundRatio b64 (s != t) c d (q - r) ∧ FP.Core.fits b64 (.fin s c q) ∧ FP.Core.fits b64 (.fin t d r) := by
  obtain ⟨⟨s, c, q, h1⟩, ex⟩ := ha
  obtain ⟨⟨t, d, r, h2⟩, ey⟩ := hb
  have f1 := val64_fits a; have f2 := val64_fits b
  rw [h1] at f1; rw [h2] at f2
  have hd : d ≠ 0 := fun q => by
    subst q
    rw [h2] at ey
    apply hy; rw [← ey]; show signed t (inUnits 0 r _) = 0
    unfold inUnits; rw [Nat.zero_mul, signed_zero]
  refine ⟨s, c, q, t, d, r, h1, h2, Nat.pos_of_ne_zero hd, ?_, f1, f2⟩
  show val64 (FP.Core.ddiv a b) = _
  rw [val64_ddiv, h1, h2]
  show (if d = 0 then _ else _) = _
  rw [if_neg hd]
theorem own_div_mag_le {c d : Nat} {q r : Int} {s t sg : Bool} (f1 : FP.Core.fits b64 (.fin s c q)) (f2 : FP.Core.fits b64 (.fin t d r)) (hd : 0 < d) {W : Datum} (fW : FP.Core.fits b64 W) (hW : W ≠ .nan)
    (h : inUnits c q b64.qmin * one64 ≤ zmag b64 W * inUnits d r b64.qmin) : zmag b64 (roundRatio b64 sg c d (q - r)) ≤ zmag b64 W := by
  have h1 := f1.2.1
  have h2 := f2.2.1
  have hq : b64.qmin < 0 := by decide
  refine zmag_roundRatio_le good_b64 hd fW hW (e0 := 2 * b64.qmin - r) (by omega) (by omega) ?_
  have e1 : (b64.qmin - (2 * b64.qmin - r)).toNat = (r - b64.qmin).toNat := by congr 1; omega
  rw [e1]
  have e2 : inUnits c (q - r) (2 * b64.qmin - r) = inUnits c q b64.qmin * one64 := by
    unfold inUnits
    rw [← pow_qmin64, Nat.mul_assoc, ← Nat.pow_add]
    congr 2; omega
  rw [e2]
  refine Nat.le_trans h (Nat.le_of_eq ?_)
  unfold inUnits
  rw [Nat.mul_comm d, Nat.mul_assoc]
theorem own_div_mag_ge {c d : Nat} {q r : Int} {s t sg : Bool} (f1 : FP.Core.fits b64 (.fin s c q)) (f2 : FP.Core.fits b64 (.fin t d r)) (hd : 0 < d) {W : Datum} (fW : FP.Core.fits b64 W)
    (h : zmag b64 W * inUnits d r b64.qmin ≤ inUnits c q b64.qmin * one64) : zmag b64 W ≤ zmag b64 (roundRatio b64 sg c d (q - r)) := by
  have h1 := f1.2.1
  have h2 := f2.2.1
  have hq : b64.qmin < 0 := by decide
  refine zmag_roundRatio_ge good_b64 hd fW (e0 := 2 * b64.qmin - r) (by omega) (by omega) ?_
  have e1 : (b64.qmin - (2 * b64.qmin - r)).toNat = (r - b64.qmin).toNat := by congr 1; omega
  rw [e1]
  have e2 : inUnits c (q - r) (2 * b64.qmin - r) = inUnits c q b64.qmin * one64 := by
    unfold inUnits
    rw [← pow_qmin64, Nat.mul_assoc, ← Nat.pow_add]
    congr 2; omega
  rw [e2]
  refine Nat.le_trans (Nat.le_of_eq ?_) h
  unfold inUnits
  rw [Nat.mul_comm d, Nat.mul_assoc]
/-- what is said of a quotient: r its units -/
def Quo (x y r : Int) : Prop := ∀ (V : UInt64) (v : Int), ZV V v → (x * (one64 : Int) ≤ v * y → r ≤ v) ∧ (v * y ≤ x * (one64 : Int) → v ≤ r)
theorem own_sgn_z (s : Bool) (m : Nat) : signed s m = if s then -(m : Int) else m := rfl
theorem ZV.neg_ex (h : ZV a x) : ∃ V, ZV V (-x) := by
  refine ⟨FP.Core.dneg a, ?_, ?_⟩
  · obtain ⟨⟨s, c, q, h1⟩, -⟩ := h; exact ⟨!s, c, q, by rw [val64_dneg, h1]; rfl⟩
  · rw [val64_dneg, zval_negate, h.2]
theorem own_mag {s : Bool} {c : Nat} {q : Int} : zval b64 (.fin s c q) = signed s (inUnits c q b64.qmin) := rfl
/-- the quotient by a positive double of at least one -/
theorem ZV.div (ha : ZV a x) (hb : ZV b y) (hy : (one64 : Int) ≤ y) : ∃ r, ZV (FP.ddiv a b) r ∧ Quo x y r := by
  have o1 := one64_pos
  obtain ⟨s, c, q, t, d, r, h1, h2, hd, h3, f1, f2⟩ := own_quot ha hb (by omega)
  have ey := hb.2; rw [h2, own_mag] at ey
  have ex := ha.2; rw [h1, own_mag] at ex
  have t0 : t = false := by
    cases t
    · rfl
    · simp only [own_sgn_z, if_true] at ey; omega
  subst t0
  have hy0 : (0 : Int) < y := by omega
  have ey' : ((inUnits d r b64.qmin : Nat) : Int) = y := ey
  generalize hu : inUnits d r b64.qmin = u at *
  generalize hc : inUnits c q b64.qmin = k at *
  have hsg : sgn (val64 (FP.ddiv a b)) = s := by rw [h3, sgn_roundRatio]; cases s <;> rfl
  have hne : val64 (FP.ddiv a b) ≠ .nan := by rw [h3]; exact roundRatio_ne_nan _ _ _ _ _
  have hz : zval b64 (val64 (FP.ddiv a b)) = signed s (zmag b64 (val64 (FP.ddiv a b))) := by rw [zval, hsg]
  have up : ∀ W : UInt64, val64 W ≠ .nan → k * one64 ≤ zmag b64 (val64 W) * u → zmag b64 (val64 (FP.ddiv a b)) ≤ zmag b64 (val64 W) := fun W hW h => by
    rw [h3]; exact own_div_mag_le f1 f2 hd (val64_fits W) hW (by rw [hu, hc]; exact h)
  have dn : ∀ W : UInt64, zmag b64 (val64 W) * u ≤ k * one64 → zmag b64 (val64 W) ≤ zmag b64 (val64 (FP.ddiv a b)) := fun W h => by
    rw [h3]; exact own_div_mag_ge f1 f2 hd (val64_fits W) (by rw [hu, hc]; exact h)
  have hk : k = zmag b64 (val64 a) := by rw [h1]; exact hc.symm
  have hfin : DFin (FP.ddiv a b) := own_fin_of hne ha.1 (up a ha.ne (by rw [← hk]; exact Nat.mul_le_mul_left _ (by omega)))
  refine ⟨_, ⟨hfin, rfl⟩, fun V v hv => ?_⟩
  rw [hz]
  generalize hm : zmag b64 (val64 (FP.ddiv a b)) = m at *
  have hV := own_natAbs (val64 V)
  rw [hv.2] at hV
  have upV := up V hv.ne
  have dnV := dn V
  rw [← hV] at upV dnV
  clear up dn
  have cast : ∀ p q : Nat, ((p * q : Nat) : Int) = (p : Int) * q := fun p q => by simp
  cases s
  · have ex' : (k : Int) = x := ex
    have em : signed false m = (m : Int) := rfl
    rw [em]
    constructor
    · intro h
      by_cases hv0 : 0 ≤ v
      · have e1 : (v.natAbs : Int) = v := Int.natAbs_of_nonneg hv0
        have : k * one64 ≤ v.natAbs * u := by apply Int.ofNat_le.mp; rw [cast, cast, ex', e1, ey']; exact h
        have := upV this; omega
      · exfalso
        have h5 : v * y < 0 := Int.mul_neg_of_neg_of_pos (by omega) hy0
        have h6 : 0 ≤ x * (one64 : Int) := Int.mul_nonneg (by omega) (by omega)
        omega
    · intro h
      by_cases hv0 : 0 ≤ v
      · have e1 : (v.natAbs : Int) = v := Int.natAbs_of_nonneg hv0
        have : v.natAbs * u ≤ k * one64 := by apply Int.ofNat_le.mp; rw [cast, cast, ex', e1, ey']; exact h
        have := dnV this; omega
      · omega
  · have ex' : -(k : Int) = x := ex
    have em : signed true m = -(m : Int) := rfl
    rw [em]
    have ek : (k : Int) = -x := by omega
    constructor
    · intro h
      by_cases hv0 : 0 ≤ v
      · omega
      · have e1 : (v.natAbs : Int) = -v := by omega
        have : v.natAbs * u ≤ k * one64 := by
          apply Int.ofNat_le.mp; rw [cast, cast, ek, e1, ey', Int.neg_mul, Int.neg_mul]; omega
        have := dnV this; omega
    · intro h
      by_cases hv0 : v ≤ 0
      · have e1 : (v.natAbs : Int) = -v := by omega
        have : k * one64 ≤ v.natAbs * u := by
          apply Int.ofNat_le.mp; rw [cast, cast, ek, e1, ey', Int.neg_mul, Int.neg_mul]; omega
        have := upV this; omega
      · exfalso
        have h5 : 0 < v * y := Int.mul_pos (by omega) hy0
        have h6 : x * (one64 : Int) ≤ 0 := by
          have : 0 ≤ (k : Int) * (one64 : Int) := Int.mul_nonneg (by omega) (by omega)
          rw [ek, Int.neg_mul] at this; omega
        omega
theorem ZV.div_exact (ha : ZV a x) (hb : ZV b y) (hy : (one64 : Int) ≤ y) (hv : ZV V z) (h : x * (one64 : Int) = z * y) : ZV (FP.ddiv a b) z := by
  obtain ⟨r, h1, h2⟩ := ha.div hb hy
  have h3 := h2 V z hv
  have : r = z := Int.le_antisymm (h3.1 (Int.le_of_eq h)) (h3.2 (Int.le_of_eq h.symm))
  exact this ▸ h1
/-- i * 2^k units are a double -/
theorem own_rep (i : Int) (k : Nat) (hi : i.natAbs < 2 ^ 53) (hk : k ≤ 2045) : ∃ V, ZV V (i * ((2 ^ k : Nat) : Int)) := by
  obtain ⟨c', q', h1, h2⟩ := round_exact good_b64 (decide (i < 0)) (c := i.natAbs) (q := (k : Int) + b64.qmin) hi (by omega) (by rw [show b64.qmax = 971 from by decide, qmin_b64]; omega)
  have hf : FP.Core.fits b64 (.fin (decide (i < 0)) c' q') := by rw [← h1]; exact round_fits good_b64 _
  refine ⟨of64 (.fin (decide (i < 0)) c' q'), ⟨_, _, _, val64_of64 hf⟩, ?_⟩
  rw [val64_of64 hf, own_mag, h2]
  unfold inUnits
  rw [show ((k : Int) + b64.qmin - b64.qmin).toNat = k from by omega, signed_mul, own_sgn_z]
  congr 1
  by_cases h : i < 0
  · simp only [h, decide_true, if_true]; omega
  · simp only [h, decide_false]; simp only [Bool.false_eq_true, if_false]; omega
theorem own_one64 : (one64 : Int) = ((2 ^ 1074 : Nat) : Int) := rfl
theorem ZV.of_int {i : Int} (h : DInt i a) : ZV a (i * (one64 : Int)) := by
  refine ⟨?_, DInt_zval h⟩
  unfold DInt at h
  cases h2 : val64 a with
  | nan => rw [h2] at h; exact h.elim
  | inf s => rw [h2] at h; exact h.elim
  | fin s c q => exact ⟨s, c, q, h2⟩
theorem own_i2d (n : Int32) : ZV (FP.i2d n) (n.toInt * (one64 : Int)) := ZV.of_int (i2d_int n)
theorem own_l2d {n : Int64} (h : n.toInt.natAbs ≤ 2 ^ 53) : ZV (FP.l2d n) (n.toInt * (one64 : Int)) := ZV.of_int (l2d_int h)
theorem own_ddiv_nn (ha : DFin a) (hb : DFin b) : FP.ddiv (FP.Core.dneg a) (FP.Core.dneg b) = FP.ddiv a b ∨ val64 (FP.ddiv a b) = .nan := by
  by_cases hn : val64 (FP.ddiv a b) = .nan
  · exact Or.inr hn
  · refine Or.inl (val64_inj hn ?_).symm
    obtain ⟨s, c, q, h1⟩ := ha
    obtain ⟨t, d, r, h2⟩ := hb
    show val64 (FP.Core.ddiv a b) = val64 (FP.Core.ddiv _ _)
    rw [val64_ddiv, val64_ddiv, val64_dneg, val64_dneg, h1, h2]
    show quotient b64 (.fin s c q) (.fin t d r) = quotient b64 (.fin (!s) c q) (.fin (!t) d r)
    simp only [quotient]
    have : ((!s) != (!t)) = (s != t) := by cases s <;> cases t <;> rfl
    rw [this]
theorem ZV.dneg (h : ZV a x) : ZV (FP.Core.dneg a) (-x) := by
  refine ⟨?_, by rw [val64_dneg, zval_negate, h.2]⟩
  obtain ⟨⟨s, c, q, h1⟩, -⟩ := h; exact ⟨!s, c, q, by rw [val64_dneg, h1]; rfl⟩
/-- the quotient by a negative double of at most minus one -/
theorem ZV.div_neg (ha : ZV a x) (hb : ZV b y) (hy : y ≤ -(one64 : Int)) : ∃ r, ZV (FP.ddiv a b) r ∧ Quo (-x) (-y) r := by
  obtain ⟨r, h1, h2⟩ := ha.dneg.div hb.dneg (by omega)
  have o1 := one64_pos
  obtain ⟨s, c, q, t, d, r', -, -, -, h3, -⟩ := own_quot ha hb (by omega)
  rcases own_ddiv_nn ha.1 hb.1 with h | h
  · exact ⟨r, h ▸ h1, h2⟩
  · rw [h3] at h; exact absurd h (roundRatio_ne_nan _ _ _ _ _)
/-- n / D against i / 2^j -/
theorem own_quo_int {n D r : Int} (h : Quo (n * (one64 : Int)) (D * (one64 : Int)) r) (i : Int) (j : Nat) (hj : j ≤ 1074) (hi : i.natAbs < 2 ^ 53) :
    (n * ((2 ^ j : Nat) : Int) ≤ i * D → r ≤ i * ((2 ^ (1074 - j) : Nat) : Int)) ∧ (i * D ≤ n * ((2 ^ j : Nat) : Int) → i * ((2 ^ (1074 - j) : Nat) : Int) ≤ r) := by
  obtain ⟨V, hV⟩ := own_rep i (1074 - j) hi (by omega)
  have q := h V _ hV
  have e : (one64 : Int) = ((2 ^ j : Nat) : Int) * ((2 ^ (1074 - j) : Nat) : Int) := by
    rw [own_one64, ← Int.natCast_mul, ← Nat.pow_add]; congr 2; omega
  have hu : (0 : Int) ≤ ((2 ^ (1074 - j) : Nat) : Int) * (one64 : Int) := Int.mul_nonneg (Int.natCast_nonneg _) (Int.natCast_nonneg _)
  have e1 : n * (one64 : Int) * (one64 : Int) = n * ((2 ^ j : Nat) : Int) * (((2 ^ (1074 - j) : Nat) : Int) * (one64 : Int)) := by
    conv => lhs; arg 1; rw [e]
    rw [← Int.mul_assoc n, Int.mul_assoc (n * _)]
  have e2 : i * ((2 ^ (1074 - j) : Nat) : Int) * (D * (one64 : Int)) = i * D * (((2 ^ (1074 - j) : Nat) : Int) * (one64 : Int)) := by rw [Int.mul_assoc i, Int.mul_left_comm _ D, ← Int.mul_assoc i D]
  rw [e1, e2] at q
  exact ⟨fun z => q.1 (Int.mul_le_mul_of_nonneg_right z hu), fun z => q.2 (Int.mul_le_mul_of_nonneg_right z hu)⟩
theorem own_zero : ZV (0 : UInt64) 0 := ⟨⟨_, _, _, val64_zero⟩, zval64_zero⟩
theorem own_one : ZV (4607182418800017408 : UInt64) (one64 : Int) := by
  have := ZV.of_int dint_one; rwa [Int.one_mul] at this
theorem own_cmp_gt {x y : Int} : some (compare x y) = some Ordering.gt ↔ y < x := by rw [Option.some.injEq]; exact compare_gt_iff x y
theorem own_cmp_lt {x y : Int} : some (compare x y) = some Ordering.lt ↔ x < y := by rw [Option.some.injEq]; exact compare_lt_iff x y
theorem own_cmp_eq {x y : Int} : some (compare x y) = some Ordering.eq ↔ x = y := by rw [Option.some.injEq]; exact compare_eq_iff x y
theorem own_dnn {i : Int} {a : UInt64} (h : DInt i a) : Jvm.Free.Fl.NoNaN64 a := (ZV.of_int h).nn
theorem own_nnd' {a : UInt64} (ha : DFin a) (n : Int32) (hn : n ≠ 0) : Jvm.Free.Fl.NoNaN64 (FP.ddiv a (FP.i2d n)) :=
  Jvm.Free.Fl.noNaN64_no.mpr (FP.Core.ddiv_out ha.notNaN (i2d_fin n) (fun q => i2d_ne_zero hn (by rwa [zero_bits2] at q)))
theorem own_nnd (s : Int64) (n : Int32) (hn : n ≠ 0) : Jvm.Free.Fl.NoNaN64 (FP.ddiv (FP.l2d s) (FP.i2d n)) := own_nnd' (l2d_fin s) n hn
theorem own_dz : DInt 0 (0 : UInt64) := by
  have : (0 : UInt64) = FP.l2d 0 := FP.Core.l2d_zero.symm
  rw [this]; exact l2d_int (a := 0) (by decide)
theorem own_div_eq {S S' : UInt64} {s : Int} (h : DInt s S) (h' : DInt s S') (n : Int32) (hn : 1 ≤ n.toInt) : FP.dcmp (FP.ddiv S (FP.i2d n)) (FP.ddiv S' (FP.i2d n)) = some .eq := by
  have hy : (one64 : Int) ≤ n.toInt * (one64 : Int) := by
    have := Int.mul_le_mul_of_nonneg_right hn (show (0 : Int) ≤ (one64 : Int) by omega)
    rwa [Int.one_mul] at this
  by_cases hs : s = 0
  · subst hs
    have z1 := ZV.of_int h
    have z2 := ZV.of_int h'
    rw [Int.zero_mul] at z1 z2
    have q1 := z1.div_exact (own_i2d n) hy own_zero (by rw [Int.zero_mul, Int.zero_mul])
    have q2 := z2.div_exact (own_i2d n) hy own_zero (by rw [Int.zero_mul, Int.zero_mul])
    rw [q1.cmp q2, own_cmp_eq]
  · have e := dint_unique hs h h'
    subst e
    have hz : n ≠ 0 := fun q => by subst q; revert hn; decide
    exact dcmp_refl (Jvm.Free.Fl.noNaN64_no.mp (own_nnd' (ZV.of_int h).1 n hz))
theorem own_ib (x : Int32) : x.toInt.natAbs ≤ 2147483648 := by have := x.le_toInt; have := x.toInt_lt; omega
end OwnFp
def lagV (w t : UInt64) : UInt64 := if (cmpValue (FP.dcmp t (0 : UInt64)) .l) = (0 : Int32) then (0 : UInt64) else FP.dsub (FP.ddiv w t) (4607182418800017408 : UInt64)

theorem d2_0 : decode jdk_30_method_1_code 0 = .ok (.aload_n 0, 1) := by decide +kernel
theorem d2_1 : decode jdk_30_method_1_code 1 = .ok (.invokespecial 1, 3) := by decide +kernel
theorem d2_4 : decode jdk_30_method_1_code 4 = .ok (.return_, 1) := by decide +kernel
theorem pn_0 : plainName "java/lang/Record" = true := by first | (simp [plainName, overriddenIn]; done) | decide +kernel
theorem ef_rm2 (m : MethodId) (a0 : Addr) : entryFrame m #[(.ref a0)] 1 = mkF m 0 #[.val (.ref a0)] [] := by first | (simp [entryFrame, mkF, argsToLocals, Value.category]; done) | rfl
def Q_rm2 (Z : State) (a0 : Addr) (h0 : Heap) (n0 : Nat) (v : Option Value) (h : Heap) (L : List Loc) : Prop := v = none ∧ Fr n0 L ∧ h = h0
set_option maxRecDepth 65536 in
set_option maxHeartbeats 40000000 in
theorem rm2 (l : Launch) (Z : State) (aw : Array Value) (hw : ∀ d ∈ tables_1, d.before aw Z = true) (ws : List Jvm.Cond) (a0 : Addr) (h0 : Heap) (n0 : Nat) (Z0 : n0 ≤ h0.size) :
    MetFree l (⟨"java/lang/Record", "<init>", "()V"⟩ : MethodName) (head1 (Jvm.Cond.code (⟨"java/lang/Record", "<init>", "()V"⟩ : MethodName) jdk_30_method_1_code 1 none :: ws) ({ frames := 1, cells := 0, slots := 0, locals := 12 } : Room)) (fun a U => a = #[(.ref a0)] ∧ Z.Warmed39 U.vm ∧ U.heap = h0) (fun _ _ _ _ _ => True) (fun _ U o U' => ∃ v L, o = .returned v ∧ Q_rm2 Z a0 h0 n0 v U'.heap L ∧ FrameEnd U o U' L ({ frames := 1, cells := 0, slots := 0, locals := 12 } : Room).cells ({ frames := 1, cells := 0, slots := 0, locals := 12 } : Room).slots) := by
  refine MetFree.of_bodySF (plainFor_of_name pn_0) hisR ?_
  intro p e s m args below meth c s₁ Bd hml0 hP hK
  obtain ⟨rfl, hZ, hh⟩ := hP
  have hx := Bd.exec
  have hby := Bd.bytes
  have hml : c.maxLocals = 1 := hml0
  have hown : s.vm.findClass "java/lang/Record" = some m.cls := findClass_of_methodNamed Bd.named
  have hnm := (name_of_methodNamed Bd.named Bd.method).1
  have hlk : meth.locks = false := BodyLoose.notSynchronized Bd
  have X0 : Stand p l e ({ frames := 1, cells := 0, slots := 0, locals := 12 } : Room) s m #[(.ref a0)] below meth c s₁ [] 0 0 := Stand.of_body Bd
  have e0 : s₁.heap = h0 := by rw [← hh, Bd.state]; rfl
  have N0 := Fr.nil n0
  have ZZ := Z0
  show Go p e below s ({ frames := 1, cells := 0, slots := 0, locals := 12 } : Room).cells ({ frames := 1, cells := 0, slots := 0, locals := 12 } : Room).slots (fun v h L => Q_rm2 Z a0 h0 n0 v h L) s₁ (entryFrame m #[(.ref a0)] 1)
  refine Go.cast (ef_rm2 m a0) ?_
  refine Go.gen ?_
  intro K1 K2 QQ hK1 hK2 hQQ
  refine Go.on (fun _ k => XS.aloadN X0.here hx rfl (hb hby d2_0) rfl rfl k) ?_
  show Go _ _ _ _ _ _ _ _ (mkF m 1 #[.val (.ref a0)] [(.ref a0)])
  obtain ⟨T1, X1, e1, st1⟩ := initO X0 hx hZ hown (hw _ (List.mem_of_getElem? (i := 12) rfl)) (hw _ (List.mem_of_getElem? (i := 13) rfl)) (hw _ (List.mem_of_getElem? (i := 14) rfl)) e0 (g := (mkF m 1 #[.val (.ref a0)] [(.ref a0)])) rfl (by rw [hml]; rfl) rfl (hb hby d2_1) (by decide) (W := 0) (by show 2 * 0 + _ ≤ _; exact Nat.le_of_eq rfl) (by decide)
  refine Go.on st1 ?_
  show Go _ _ _ _ _ _ _ _ (mkF m 4 #[.val (.ref a0)] [])
  refine Go.ret0 X1 hx Bd.returns (hb hby d2_4) ?_ (by rw [hK1]; decide) (by rw [hK2]; decide)
  rw [e1, ← hQQ]
  exact ⟨rfl, N0, rfl⟩
theorem pd_0 : parseMethodDescriptor "()V" = some ⟨[], none⟩ := by decide +kernel
theorem d1_0 : decode prog_47_method_1_code 0 = .ok (.aload_n 0, 1) := by decide +kernel
theorem d1_1 : decode prog_47_method_1_code 1 = .ok (.invokespecial 1, 3) := by decide +kernel
theorem d1_4 : decode prog_47_method_1_code 4 = .ok (.aload_n 0, 1) := by decide +kernel
theorem d1_5 : decode prog_47_method_1_code 5 = .ok (.lload_n 1, 1) := by decide +kernel
theorem d1_6 : decode prog_47_method_1_code 6 = .ok (.putfield 7, 3) := by decide +kernel
theorem d1_9 : decode prog_47_method_1_code 9 = .ok (.aload_n 0, 1) := by decide +kernel
theorem d1_10 : decode prog_47_method_1_code 10 = .ok (.lload_n 3, 1) := by decide +kernel
theorem d1_11 : decode prog_47_method_1_code 11 = .ok (.putfield 13, 3) := by decide +kernel
theorem d1_14 : decode prog_47_method_1_code 14 = .ok (.aload_n 0, 1) := by decide +kernel
theorem d1_15 : decode prog_47_method_1_code 15 = .ok (.lload 5, 2) := by decide +kernel
theorem d1_17 : decode prog_47_method_1_code 17 = .ok (.putfield 16, 3) := by decide +kernel
theorem d1_20 : decode prog_47_method_1_code 20 = .ok (.aload_n 0, 1) := by decide +kernel
theorem d1_21 : decode prog_47_method_1_code 21 = .ok (.dload 7, 2) := by decide +kernel
theorem d1_23 : decode prog_47_method_1_code 23 = .ok (.putfield 19, 3) := by decide +kernel
theorem d1_26 : decode prog_47_method_1_code 26 = .ok (.aload_n 0, 1) := by decide +kernel
theorem d1_27 : decode prog_47_method_1_code 27 = .ok (.dload 9, 2) := by decide +kernel
theorem d1_29 : decode prog_47_method_1_code 29 = .ok (.putfield 23, 3) := by decide +kernel
theorem d1_32 : decode prog_47_method_1_code 32 = .ok (.aload_n 0, 1) := by decide +kernel
theorem d1_33 : decode prog_47_method_1_code 33 = .ok (.dload 11, 2) := by decide +kernel
theorem d1_35 : decode prog_47_method_1_code 35 = .ok (.putfield 26, 3) := by decide +kernel
theorem d1_38 : decode prog_47_method_1_code 38 = .ok (.aload_n 0, 1) := by decide +kernel
theorem d1_39 : decode prog_47_method_1_code 39 = .ok (.dload 13, 2) := by decide +kernel
theorem d1_41 : decode prog_47_method_1_code 41 = .ok (.putfield 29, 3) := by decide +kernel
theorem d1_44 : decode prog_47_method_1_code 44 = .ok (.return_, 1) := by decide +kernel
theorem pn_1 : plainName "com/example/deliberate_scaler/deliberatescaler/model/Simulation$Outcome" = true := by first | (simp [plainName, overriddenIn]; done) | decide +kernel
theorem ef_rm1 (m : MethodId) (a0 : Addr) (j1 : Int64) (j2 : Int64) (j3 : Int64) (d4 : UInt64) (d5 : UInt64) (d6 : UInt64) (d7 : UInt64) : entryFrame m #[(.ref a0), (.long j1), (.long j2), (.long j3), (.double d4), (.double d5), (.double d6), (.double d7)] 15 = mkF m 0 #[.val (.ref a0), .val (.long j1), .second, .val (.long j2), .second, .val (.long j3), .second, .val (.double d4), .second, .val (.double d5), .second, .val (.double d6), .second, .val (.double d7), .second] [] := by first | (simp [entryFrame, mkF, argsToLocals, Value.category]; done) | rfl
def Q_rm1 (Z : State) (a0 : Addr) (j1 : Int64) (j2 : Int64) (j3 : Int64) (d4 : UInt64) (d5 : UInt64) (d6 : UInt64) (d7 : UInt64) (u0 : Value) (u1 : Value) (u2 : Value) (u3 : Value) (u4 : Value) (u5 : Value) (u6 : Value) (h0 : Heap) (n0 : Nat) (v : Option Value) (h : Heap) (L : List Loc) : Prop := v = none ∧ Fr n0 L ∧ Keep h0 h [a0] ∧ Exa Z h a0 "com/example/deliberate_scaler/deliberatescaler/model/Simulation$Outcome" ∧ Fld Z h a0 "com/example/deliberate_scaler/deliberatescaler/model/Simulation$Outcome" "offered" "J" (.long j1) ∧ Fld Z h a0 "com/example/deliberate_scaler/deliberatescaler/model/Simulation$Outcome" "accepted" "J" (.long j2) ∧ Fld Z h a0 "com/example/deliberate_scaler/deliberatescaler/model/Simulation$Outcome" "rejected" "J" (.long j3) ∧ Fld Z h a0 "com/example/deliberate_scaler/deliberatescaler/model/Simulation$Outcome" "meanResponseTime" "D" (.double d4) ∧ Fld Z h a0 "com/example/deliberate_scaler/deliberatescaler/model/Simulation$Outcome" "meanInSystem" "D" (.double d5) ∧ Fld Z h a0 "com/example/deliberate_scaler/deliberatescaler/model/Simulation$Outcome" "workerSeconds" "D" (.double d6) ∧ Fld Z h a0 "com/example/deliberate_scaler/deliberatescaler/model/Simulation$Outcome" "targetSeconds" "D" (.double d7)
set_option maxRecDepth 65536 in
set_option maxHeartbeats 40000000 in
theorem rm1 (l : Launch) (Z : State) (aw : Array Value) (hw : ∀ d ∈ tables_1, d.before aw Z = true) (ws : List Jvm.Cond) (a0 : Addr) (j1 : Int64) (j2 : Int64) (j3 : Int64) (d4 : UInt64) (d5 : UInt64) (d6 : UInt64) (d7 : UInt64) (u0 : Value) (u1 : Value) (u2 : Value) (u3 : Value) (u4 : Value) (u5 : Value) (u6 : Value) (h0 : Heap) (n0 : Nat) (Z0 : n0 ≤ h0.size) (E_a0 : Exa Z h0 a0 "com/example/deliberate_scaler/deliberatescaler/model/Simulation$Outcome") (F_offered_a0 : Fld Z h0 a0 "com/example/deliberate_scaler/deliberatescaler/model/Simulation$Outcome" "offered" "J" u0) (F_accepted_a0 : Fld Z h0 a0 "com/example/deliberate_scaler/deliberatescaler/model/Simulation$Outcome" "accepted" "J" u1) (F_rejected_a0 : Fld Z h0 a0 "com/example/deliberate_scaler/deliberatescaler/model/Simulation$Outcome" "rejected" "J" u2) (F_meanResponseTime_a0 : Fld Z h0 a0 "com/example/deliberate_scaler/deliberatescaler/model/Simulation$Outcome" "meanResponseTime" "D" u3) (F_meanInSystem_a0 : Fld Z h0 a0 "com/example/deliberate_scaler/deliberatescaler/model/Simulation$Outcome" "meanInSystem" "D" u4) (F_workerSeconds_a0 : Fld Z h0 a0 "com/example/deliberate_scaler/deliberatescaler/model/Simulation$Outcome" "workerSeconds" "D" u5) (F_targetSeconds_a0 : Fld Z h0 a0 "com/example/deliberate_scaler/deliberatescaler/model/Simulation$Outcome" "targetSeconds" "D" u6) (g_a0 : n0 ≤ a0) :
    MetFree l (⟨"com/example/deliberate_scaler/deliberatescaler/model/Simulation$Outcome", "<init>", "(JJJDDDD)V"⟩ : MethodName) (head1 (Jvm.Cond.code (⟨"com/example/deliberate_scaler/deliberatescaler/model/Simulation$Outcome", "<init>", "(JJJDDDD)V"⟩ : MethodName) prog_47_method_1_code 15 none :: ws) ({ frames := 2, cells := 0, slots := 0, locals := 24 } : Room)) (fun a U => a = #[(.ref a0), (.long j1), (.long j2), (.long j3), (.double d4), (.double d5), (.double d6), (.double d7)] ∧ Z.Warmed39 U.vm ∧ U.heap = h0) (fun _ _ _ _ _ => True) (fun _ U o U' => ∃ v L, o = .returned v ∧ Q_rm1 Z a0 j1 j2 j3 d4 d5 d6 d7 u0 u1 u2 u3 u4 u5 u6 h0 n0 v U'.heap L ∧ FrameEnd U o U' L ({ frames := 2, cells := 0, slots := 0, locals := 24 } : Room).cells ({ frames := 2, cells := 0, slots := 0, locals := 24 } : Room).slots) := by
  refine MetFree.of_bodySF (plainFor_of_name pn_1) hisR ?_
  intro p e s m args below meth c s₁ Bd hml0 hP hK
  obtain ⟨rfl, hZ, hh⟩ := hP
  have hx := Bd.exec
  have hby := Bd.bytes
  have hml : c.maxLocals = 15 := hml0
  have hown : s.vm.findClass "com/example/deliberate_scaler/deliberatescaler/model/Simulation$Outcome" = some m.cls := findClass_of_methodNamed Bd.named
  have hnm := (name_of_methodNamed Bd.named Bd.method).1
  have hlk : meth.locks = false := BodyLoose.notSynchronized Bd
  have X0 : Stand p l e ({ frames := 2, cells := 0, slots := 0, locals := 24 } : Room) s m #[(.ref a0), (.long j1), (.long j2), (.long j3), (.double d4), (.double d5), (.double d6), (.double d7)] below meth c s₁ [] 0 0 := Stand.of_body Bd
  have e0 : s₁.heap = h0 := by rw [← hh, Bd.state]; rfl
  have N0 := Fr.nil n0
  have ZZ := Z0
  show Go p e below s ({ frames := 2, cells := 0, slots := 0, locals := 24 } : Room).cells ({ frames := 2, cells := 0, slots := 0, locals := 24 } : Room).slots (fun v h L => Q_rm1 Z a0 j1 j2 j3 d4 d5 d6 d7 u0 u1 u2 u3 u4 u5 u6 h0 n0 v h L) s₁ (entryFrame m #[(.ref a0), (.long j1), (.long j2), (.long j3), (.double d4), (.double d5), (.double d6), (.double d7)] 15)
  refine Go.cast (ef_rm1 m a0 j1 j2 j3 d4 d5 d6 d7) ?_
  refine Go.gen ?_
  intro K1 K2 QQ hK1 hK2 hQQ
  have KP : Keep h0 h0 [a0] := Keep.refl _ _
  refine Go.on (fun _ k => XS.aloadN X0.here hx rfl (hb hby d1_0) rfl rfl k) ?_
  show Go _ _ _ _ _ _ _ _ (mkF m 1 #[.val (.ref a0), .val (.long j1), .second, .val (.long j2), .second, .val (.long j3), .second, .val (.double d4), .second, .val (.double d5), .second, .val (.double d6), .second, .val (.double d7), .second] [(.ref a0)])
  obtain ⟨_, _, ⟨T1, L1, k1, n1⟩, -, X1, ⟨Lc1, hQ1, l1, y1, z1⟩, st1⟩ := X0.specialBack hx (y := (⟨"java/lang/Record", "<init>", "()V"⟩ : MethodName)) rfl hown (mvT hZ (hw _ (List.mem_of_getElem? (i := 7) rfl))) (mvT hZ (hw _ (List.mem_of_getElem? (i := 8) rfl))) (mvT hZ (hw _ (List.mem_of_getElem? (i := 11) rfl))) (by decide) (backOf (W := 0) (rm2 l Z aw hw [] a0  h0 n0 ZZ ) hZ (hw _ (List.mem_of_getElem? (i := 11) rfl)) (hw _ (List.mem_of_getElem? (i := 10) rfl)) (by decide) (by decide)) (g := (mkF m 1 #[.val (.ref a0), .val (.long j1), .second, .val (.long j2), .second, .val (.long j3), .second, .val (.double d4), .second, .val (.double d5), .second, .val (.double d6), .second, .val (.double d7), .second] [(.ref a0)])) rfl (by rw [hml]; rfl) (Steps.refl _) (a := a0) (argsL := []) (rest := []) (lenOf pd_0 rfl) rfl (by show 2 * 0 + _ ≤ _; exact Nat.le_of_eq rfl) (hb hby d1_1) (fun _ _ => ⟨rfl, e0, (by decide : 0 + 0 ≤ _), (by decide : 0 + 0 ≤ _)⟩)
  dsimp only [Pt.U, Pt.locs, Pt.cells, Pt.slots] at X1 l1 y1 z1 st1 hQ1
  subst l1 y1 z1
  obtain ⟨rfl, N1q, e1⟩ := hQ1
  have N1 := Fr.app N0 N1q
  refine Go.on (fun _ k => st1.trans k) ?_
  show Go _ _ _ _ _ _ _ _ (mkF m 4 #[.val (.ref a0), .val (.long j1), .second, .val (.long j2), .second, .val (.long j3), .second, .val (.double d4), .second, .val (.double d5), .second, .val (.double d6), .second, .val (.double d7), .second] [])
  refine Go.on (fun _ k => XS.aloadN X1.here hx rfl (hb hby d1_4) rfl rfl k) ?_
  show Go _ _ _ _ _ _ _ _ (mkF m 5 #[.val (.ref a0), .val (.long j1), .second, .val (.long j2), .second, .val (.long j3), .second, .val (.double d4), .second, .val (.double d5), .second, .val (.double d6), .second, .val (.double d7), .second] [(.ref a0)])
  refine Go.on (fun _ k => XS.lloadN X1.here hx rfl (hb hby d1_5) rfl k) ?_
  show Go _ _ _ _ _ _ _ _ (mkF m 6 #[.val (.ref a0), .val (.long j1), .second, .val (.long j2), .second, .val (.long j3), .second, .val (.double d4), .second, .val (.double d5), .second, .val (.double d6), .second, .val (.double d7), .second] [(.long j1), (.ref a0)])
  obtain ⟨T2, h2, X2, e2, W2, st2⟩ := putF X1 hx hZ hown (host := "") (Or.inl (hw _ (List.mem_of_getElem? (i := 15) rfl))) Via.refl e1 F_offered_a0 E_a0 (Or.inr ⟨(hw _ (List.mem_of_getElem? (i := 16) rfl)), rfl, hnm⟩) (hw _ (List.mem_of_getElem? (i := 2) rfl)) (ty := .long) (by decide) rfl rfl (g := (mkF m 6 #[.val (.ref a0), .val (.long j1), .second, .val (.long j2), .second, .val (.long j3), .second, .val (.double d4), .second, .val (.double d5), .second, .val (.double d6), .second, .val (.double d7), .second] [(.long j1), (.ref a0)])) rfl rfl (hb hby d1_6)
  refine Go.on st2 ?_
  replace F_offered_a0 := F_offered_a0.same W2
  replace E_a0 := E_a0.wr W2
  replace F_accepted_a0 := F_accepted_a0.other W2 (Or.inr (slot_ne (Or.inr (hw _ (List.mem_of_getElem? (i := 18) rfl))) (Or.inr (hw _ (List.mem_of_getElem? (i := 16) rfl))) (by decide) (t := .long) (t' := .long) (by decide) (by decide)))
  replace F_rejected_a0 := F_rejected_a0.other W2 (Or.inr (slot_ne (Or.inr (hw _ (List.mem_of_getElem? (i := 20) rfl))) (Or.inr (hw _ (List.mem_of_getElem? (i := 16) rfl))) (by decide) (t := .long) (t' := .long) (by decide) (by decide)))
  replace F_meanResponseTime_a0 := F_meanResponseTime_a0.other W2 (Or.inr (slot_ne (Or.inr (hw _ (List.mem_of_getElem? (i := 22) rfl))) (Or.inr (hw _ (List.mem_of_getElem? (i := 16) rfl))) (by decide) (t := .double) (t' := .long) (by decide) (by decide)))
  replace F_meanInSystem_a0 := F_meanInSystem_a0.other W2 (Or.inr (slot_ne (Or.inr (hw _ (List.mem_of_getElem? (i := 24) rfl))) (Or.inr (hw _ (List.mem_of_getElem? (i := 16) rfl))) (by decide) (t := .double) (t' := .long) (by decide) (by decide)))
  replace F_workerSeconds_a0 := F_workerSeconds_a0.other W2 (Or.inr (slot_ne (Or.inr (hw _ (List.mem_of_getElem? (i := 26) rfl))) (Or.inr (hw _ (List.mem_of_getElem? (i := 16) rfl))) (by decide) (t := .double) (t' := .long) (by decide) (by decide)))
  replace F_targetSeconds_a0 := F_targetSeconds_a0.other W2 (Or.inr (slot_ne (Or.inr (hw _ (List.mem_of_getElem? (i := 28) rfl))) (Or.inr (hw _ (List.mem_of_getElem? (i := 16) rfl))) (by decide) (t := .double) (t' := .long) (by decide) (by decide)))
  have N2 := Fr.snoc X2 N1 g_a0
  replace ZZ := Nat.le_trans ZZ (Keep.of_wr W2).1
  replace KP := KP.wr W2 (Or.inl (List.mem_of_getElem? (i := 0) rfl))
  show Go _ _ _ _ _ _ _ _ (mkF m 9 #[.val (.ref a0), .val (.long j1), .second, .val (.long j2), .second, .val (.long j3), .second, .val (.double d4), .second, .val (.double d5), .second, .val (.double d6), .second, .val (.double d7), .second] [])
  refine Go.on (fun _ k => XS.aloadN X2.here hx rfl (hb hby d1_9) rfl rfl k) ?_
  show Go _ _ _ _ _ _ _ _ (mkF m 10 #[.val (.ref a0), .val (.long j1), .second, .val (.long j2), .second, .val (.long j3), .second, .val (.double d4), .second, .val (.double d5), .second, .val (.double d6), .second, .val (.double d7), .second] [(.ref a0)])
  refine Go.on (fun _ k => XS.lloadN X2.here hx rfl (hb hby d1_10) rfl k) ?_
  show Go _ _ _ _ _ _ _ _ (mkF m 11 #[.val (.ref a0), .val (.long j1), .second, .val (.long j2), .second, .val (.long j3), .second, .val (.double d4), .second, .val (.double d5), .second, .val (.double d6), .second, .val (.double d7), .second] [(.long j2), (.ref a0)])
  obtain ⟨T3, h3, X3, e3, W3, st3⟩ := putF X2 hx hZ hown (host := "") (Or.inl (hw _ (List.mem_of_getElem? (i := 17) rfl))) Via.refl e2 F_accepted_a0 E_a0 (Or.inr ⟨(hw _ (List.mem_of_getElem? (i := 18) rfl)), rfl, hnm⟩) (hw _ (List.mem_of_getElem? (i := 2) rfl)) (ty := .long) (by decide) rfl rfl (g := (mkF m 11 #[.val (.ref a0), .val (.long j1), .second, .val (.long j2), .second, .val (.long j3), .second, .val (.double d4), .second, .val (.double d5), .second, .val (.double d6), .second, .val (.double d7), .second] [(.long j2), (.ref a0)])) rfl rfl (hb hby d1_11)
  refine Go.on st3 ?_
  replace F_accepted_a0 := F_accepted_a0.same W3
  replace E_a0 := E_a0.wr W3
  replace F_offered_a0 := F_offered_a0.other W3 (Or.inr (slot_ne (Or.inr (hw _ (List.mem_of_getElem? (i := 16) rfl))) (Or.inr (hw _ (List.mem_of_getElem? (i := 18) rfl))) (by decide) (t := .long) (t' := .long) (by decide) (by decide)))
  replace F_rejected_a0 := F_rejected_a0.other W3 (Or.inr (slot_ne (Or.inr (hw _ (List.mem_of_getElem? (i := 20) rfl))) (Or.inr (hw _ (List.mem_of_getElem? (i := 18) rfl))) (by decide) (t := .long) (t' := .long) (by decide) (by decide)))
  replace F_meanResponseTime_a0 := F_meanResponseTime_a0.other W3 (Or.inr (slot_ne (Or.inr (hw _ (List.mem_of_getElem? (i := 22) rfl))) (Or.inr (hw _ (List.mem_of_getElem? (i := 18) rfl))) (by decide) (t := .double) (t' := .long) (by decide) (by decide)))
  replace F_meanInSystem_a0 := F_meanInSystem_a0.other W3 (Or.inr (slot_ne (Or.inr (hw _ (List.mem_of_getElem? (i := 24) rfl))) (Or.inr (hw _ (List.mem_of_getElem? (i := 18) rfl))) (by decide) (t := .double) (t' := .long) (by decide) (by decide)))
  replace F_workerSeconds_a0 := F_workerSeconds_a0.other W3 (Or.inr (slot_ne (Or.inr (hw _ (List.mem_of_getElem? (i := 26) rfl))) (Or.inr (hw _ (List.mem_of_getElem? (i := 18) rfl))) (by decide) (t := .double) (t' := .long) (by decide) (by decide)))
  replace F_targetSeconds_a0 := F_targetSeconds_a0.other W3 (Or.inr (slot_ne (Or.inr (hw _ (List.mem_of_getElem? (i := 28) rfl))) (Or.inr (hw _ (List.mem_of_getElem? (i := 18) rfl))) (by decide) (t := .double) (t' := .long) (by decide) (by decide)))
  have N3 := Fr.snoc X3 N2 g_a0
  replace ZZ := Nat.le_trans ZZ (Keep.of_wr W3).1
  replace KP := KP.wr W3 (Or.inl (List.mem_of_getElem? (i := 0) rfl))
  show Go _ _ _ _ _ _ _ _ (mkF m 14 #[.val (.ref a0), .val (.long j1), .second, .val (.long j2), .second, .val (.long j3), .second, .val (.double d4), .second, .val (.double d5), .second, .val (.double d6), .second, .val (.double d7), .second] [])
  refine Go.on (fun _ k => XS.aloadN X3.here hx rfl (hb hby d1_14) rfl rfl k) ?_
  show Go _ _ _ _ _ _ _ _ (mkF m 15 #[.val (.ref a0), .val (.long j1), .second, .val (.long j2), .second, .val (.long j3), .second, .val (.double d4), .second, .val (.double d5), .second, .val (.double d6), .second, .val (.double d7), .second] [(.ref a0)])
  refine Go.on (fun _ k => XS.lload X3.here hx rfl (hb hby d1_15) rfl k) ?_
  show Go _ _ _ _ _ _ _ _ (mkF m 17 #[.val (.ref a0), .val (.long j1), .second, .val (.long j2), .second, .val (.long j3), .second, .val (.double d4), .second, .val (.double d5), .second, .val (.double d6), .second, .val (.double d7), .second] [(.long j3), (.ref a0)])
  obtain ⟨T4, h4, X4, e4, W4, st4⟩ := putF X3 hx hZ hown (host := "") (Or.inl (hw _ (List.mem_of_getElem? (i := 19) rfl))) Via.refl e3 F_rejected_a0 E_a0 (Or.inr ⟨(hw _ (List.mem_of_getElem? (i := 20) rfl)), rfl, hnm⟩) (hw _ (List.mem_of_getElem? (i := 2) rfl)) (ty := .long) (by decide) rfl rfl (g := (mkF m 17 #[.val (.ref a0), .val (.long j1), .second, .val (.long j2), .second, .val (.long j3), .second, .val (.double d4), .second, .val (.double d5), .second, .val (.double d6), .second, .val (.double d7), .second] [(.long j3), (.ref a0)])) rfl rfl (hb hby d1_17)
  refine Go.on st4 ?_
  replace F_rejected_a0 := F_rejected_a0.same W4
  replace E_a0 := E_a0.wr W4
  replace F_offered_a0 := F_offered_a0.other W4 (Or.inr (slot_ne (Or.inr (hw _ (List.mem_of_getElem? (i := 16) rfl))) (Or.inr (hw _ (List.mem_of_getElem? (i := 20) rfl))) (by decide) (t := .long) (t' := .long) (by decide) (by decide)))
  replace F_accepted_a0 := F_accepted_a0.other W4 (Or.inr (slot_ne (Or.inr (hw _ (List.mem_of_getElem? (i := 18) rfl))) (Or.inr (hw _ (List.mem_of_getElem? (i := 20) rfl))) (by decide) (t := .long) (t' := .long) (by decide) (by decide)))
  replace F_meanResponseTime_a0 := F_meanResponseTime_a0.other W4 (Or.inr (slot_ne (Or.inr (hw _ (List.mem_of_getElem? (i := 22) rfl))) (Or.inr (hw _ (List.mem_of_getElem? (i := 20) rfl))) (by decide) (t := .double) (t' := .long) (by decide) (by decide)))
  replace F_meanInSystem_a0 := F_meanInSystem_a0.other W4 (Or.inr (slot_ne (Or.inr (hw _ (List.mem_of_getElem? (i := 24) rfl))) (Or.inr (hw _ (List.mem_of_getElem? (i := 20) rfl))) (by decide) (t := .double) (t' := .long) (by decide) (by decide)))
  replace F_workerSeconds_a0 := F_workerSeconds_a0.other W4 (Or.inr (slot_ne (Or.inr (hw _ (List.mem_of_getElem? (i := 26) rfl))) (Or.inr (hw _ (List.mem_of_getElem? (i := 20) rfl))) (by decide) (t := .double) (t' := .long) (by decide) (by decide)))
  replace F_targetSeconds_a0 := F_targetSeconds_a0.other W4 (Or.inr (slot_ne (Or.inr (hw _ (List.mem_of_getElem? (i := 28) rfl))) (Or.inr (hw _ (List.mem_of_getElem? (i := 20) rfl))) (by decide) (t := .double) (t' := .long) (by decide) (by decide)))
  have N4 := Fr.snoc X4 N3 g_a0
  replace ZZ := Nat.le_trans ZZ (Keep.of_wr W4).1
  replace KP := KP.wr W4 (Or.inl (List.mem_of_getElem? (i := 0) rfl))
  show Go _ _ _ _ _ _ _ _ (mkF m 20 #[.val (.ref a0), .val (.long j1), .second, .val (.long j2), .second, .val (.long j3), .second, .val (.double d4), .second, .val (.double d5), .second, .val (.double d6), .second, .val (.double d7), .second] [])
  refine Go.on (fun _ k => XS.aloadN X4.here hx rfl (hb hby d1_20) rfl rfl k) ?_
  show Go _ _ _ _ _ _ _ _ (mkF m 21 #[.val (.ref a0), .val (.long j1), .second, .val (.long j2), .second, .val (.long j3), .second, .val (.double d4), .second, .val (.double d5), .second, .val (.double d6), .second, .val (.double d7), .second] [(.ref a0)])
  refine Go.on (fun _ k => XS.dload X4.here hx rfl (hb hby d1_21) rfl k) ?_
  show Go _ _ _ _ _ _ _ _ (mkF m 23 #[.val (.ref a0), .val (.long j1), .second, .val (.long j2), .second, .val (.long j3), .second, .val (.double d4), .second, .val (.double d5), .second, .val (.double d6), .second, .val (.double d7), .second] [(.double d4), (.ref a0)])
  obtain ⟨T5, h5, X5, e5, W5, st5⟩ := putF X4 hx hZ hown (host := "") (Or.inl (hw _ (List.mem_of_getElem? (i := 21) rfl))) Via.refl e4 F_meanResponseTime_a0 E_a0 (Or.inr ⟨(hw _ (List.mem_of_getElem? (i := 22) rfl)), rfl, hnm⟩) (hw _ (List.mem_of_getElem? (i := 2) rfl)) (ty := .double) (by decide) rfl rfl (g := (mkF m 23 #[.val (.ref a0), .val (.long j1), .second, .val (.long j2), .second, .val (.long j3), .second, .val (.double d4), .second, .val (.double d5), .second, .val (.double d6), .second, .val (.double d7), .second] [(.double d4), (.ref a0)])) rfl rfl (hb hby d1_23)
  refine Go.on st5 ?_
  replace F_meanResponseTime_a0 := F_meanResponseTime_a0.same W5
  replace E_a0 := E_a0.wr W5
  replace F_offered_a0 := F_offered_a0.other W5 (Or.inr (slot_ne (Or.inr (hw _ (List.mem_of_getElem? (i := 16) rfl))) (Or.inr (hw _ (List.mem_of_getElem? (i := 22) rfl))) (by decide) (t := .long) (t' := .double) (by decide) (by decide)))
  replace F_accepted_a0 := F_accepted_a0.other W5 (Or.inr (slot_ne (Or.inr (hw _ (List.mem_of_getElem? (i := 18) rfl))) (Or.inr (hw _ (List.mem_of_getElem? (i := 22) rfl))) (by decide) (t := .long) (t' := .double) (by decide) (by decide)))
  replace F_rejected_a0 := F_rejected_a0.other W5 (Or.inr (slot_ne (Or.inr (hw _ (List.mem_of_getElem? (i := 20) rfl))) (Or.inr (hw _ (List.mem_of_getElem? (i := 22) rfl))) (by decide) (t := .long) (t' := .double) (by decide) (by decide)))
  replace F_meanInSystem_a0 := F_meanInSystem_a0.other W5 (Or.inr (slot_ne (Or.inr (hw _ (List.mem_of_getElem? (i := 24) rfl))) (Or.inr (hw _ (List.mem_of_getElem? (i := 22) rfl))) (by decide) (t := .double) (t' := .double) (by decide) (by decide)))
  replace F_workerSeconds_a0 := F_workerSeconds_a0.other W5 (Or.inr (slot_ne (Or.inr (hw _ (List.mem_of_getElem? (i := 26) rfl))) (Or.inr (hw _ (List.mem_of_getElem? (i := 22) rfl))) (by decide) (t := .double) (t' := .double) (by decide) (by decide)))
  replace F_targetSeconds_a0 := F_targetSeconds_a0.other W5 (Or.inr (slot_ne (Or.inr (hw _ (List.mem_of_getElem? (i := 28) rfl))) (Or.inr (hw _ (List.mem_of_getElem? (i := 22) rfl))) (by decide) (t := .double) (t' := .double) (by decide) (by decide)))
  have N5 := Fr.snoc X5 N4 g_a0
  replace ZZ := Nat.le_trans ZZ (Keep.of_wr W5).1
  replace KP := KP.wr W5 (Or.inl (List.mem_of_getElem? (i := 0) rfl))
  show Go _ _ _ _ _ _ _ _ (mkF m 26 #[.val (.ref a0), .val (.long j1), .second, .val (.long j2), .second, .val (.long j3), .second, .val (.double d4), .second, .val (.double d5), .second, .val (.double d6), .second, .val (.double d7), .second] [])
  refine Go.on (fun _ k => XS.aloadN X5.here hx rfl (hb hby d1_26) rfl rfl k) ?_
  show Go _ _ _ _ _ _ _ _ (mkF m 27 #[.val (.ref a0), .val (.long j1), .second, .val (.long j2), .second, .val (.long j3), .second, .val (.double d4), .second, .val (.double d5), .second, .val (.double d6), .second, .val (.double d7), .second] [(.ref a0)])
  refine Go.on (fun _ k => XS.dload X5.here hx rfl (hb hby d1_27) rfl k) ?_
  show Go _ _ _ _ _ _ _ _ (mkF m 29 #[.val (.ref a0), .val (.long j1), .second, .val (.long j2), .second, .val (.long j3), .second, .val (.double d4), .second, .val (.double d5), .second, .val (.double d6), .second, .val (.double d7), .second] [(.double d5), (.ref a0)])
  obtain ⟨T6, h6, X6, e6, W6, st6⟩ := putF X5 hx hZ hown (host := "") (Or.inl (hw _ (List.mem_of_getElem? (i := 23) rfl))) Via.refl e5 F_meanInSystem_a0 E_a0 (Or.inr ⟨(hw _ (List.mem_of_getElem? (i := 24) rfl)), rfl, hnm⟩) (hw _ (List.mem_of_getElem? (i := 2) rfl)) (ty := .double) (by decide) rfl rfl (g := (mkF m 29 #[.val (.ref a0), .val (.long j1), .second, .val (.long j2), .second, .val (.long j3), .second, .val (.double d4), .second, .val (.double d5), .second, .val (.double d6), .second, .val (.double d7), .second] [(.double d5), (.ref a0)])) rfl rfl (hb hby d1_29)
  refine Go.on st6 ?_
  replace F_meanInSystem_a0 := F_meanInSystem_a0.same W6
  replace E_a0 := E_a0.wr W6
  replace F_offered_a0 := F_offered_a0.other W6 (Or.inr (slot_ne (Or.inr (hw _ (List.mem_of_getElem? (i := 16) rfl))) (Or.inr (hw _ (List.mem_of_getElem? (i := 24) rfl))) (by decide) (t := .long) (t' := .double) (by decide) (by decide)))
  replace F_accepted_a0 := F_accepted_a0.other W6 (Or.inr (slot_ne (Or.inr (hw _ (List.mem_of_getElem? (i := 18) rfl))) (Or.inr (hw _ (List.mem_of_getElem? (i := 24) rfl))) (by decide) (t := .long) (t' := .double) (by decide) (by decide)))
  replace F_rejected_a0 := F_rejected_a0.other W6 (Or.inr (slot_ne (Or.inr (hw _ (List.mem_of_getElem? (i := 20) rfl))) (Or.inr (hw _ (List.mem_of_getElem? (i := 24) rfl))) (by decide) (t := .long) (t' := .double) (by decide) (by decide)))
  replace F_meanResponseTime_a0 := F_meanResponseTime_a0.other W6 (Or.inr (slot_ne (Or.inr (hw _ (List.mem_of_getElem? (i := 22) rfl))) (Or.inr (hw _ (List.mem_of_getElem? (i := 24) rfl))) (by decide) (t := .double) (t' := .double) (by decide) (by decide)))
  replace F_workerSeconds_a0 := F_workerSeconds_a0.other W6 (Or.inr (slot_ne (Or.inr (hw _ (List.mem_of_getElem? (i := 26) rfl))) (Or.inr (hw _ (List.mem_of_getElem? (i := 24) rfl))) (by decide) (t := .double) (t' := .double) (by decide) (by decide)))
  replace F_targetSeconds_a0 := F_targetSeconds_a0.other W6 (Or.inr (slot_ne (Or.inr (hw _ (List.mem_of_getElem? (i := 28) rfl))) (Or.inr (hw _ (List.mem_of_getElem? (i := 24) rfl))) (by decide) (t := .double) (t' := .double) (by decide) (by decide)))
  have N6 := Fr.snoc X6 N5 g_a0
  replace ZZ := Nat.le_trans ZZ (Keep.of_wr W6).1
  replace KP := KP.wr W6 (Or.inl (List.mem_of_getElem? (i := 0) rfl))
  show Go _ _ _ _ _ _ _ _ (mkF m 32 #[.val (.ref a0), .val (.long j1), .second, .val (.long j2), .second, .val (.long j3), .second, .val (.double d4), .second, .val (.double d5), .second, .val (.double d6), .second, .val (.double d7), .second] [])
  refine Go.on (fun _ k => XS.aloadN X6.here hx rfl (hb hby d1_32) rfl rfl k) ?_
  show Go _ _ _ _ _ _ _ _ (mkF m 33 #[.val (.ref a0), .val (.long j1), .second, .val (.long j2), .second, .val (.long j3), .second, .val (.double d4), .second, .val (.double d5), .second, .val (.double d6), .second, .val (.double d7), .second] [(.ref a0)])
  refine Go.on (fun _ k => XS.dload X6.here hx rfl (hb hby d1_33) rfl k) ?_
  show Go _ _ _ _ _ _ _ _ (mkF m 35 #[.val (.ref a0), .val (.long j1), .second, .val (.long j2), .second, .val (.long j3), .second, .val (.double d4), .second, .val (.double d5), .second, .val (.double d6), .second, .val (.double d7), .second] [(.double d6), (.ref a0)])
  obtain ⟨T7, h7, X7, e7, W7, st7⟩ := putF X6 hx hZ hown (host := "") (Or.inl (hw _ (List.mem_of_getElem? (i := 25) rfl))) Via.refl e6 F_workerSeconds_a0 E_a0 (Or.inr ⟨(hw _ (List.mem_of_getElem? (i := 26) rfl)), rfl, hnm⟩) (hw _ (List.mem_of_getElem? (i := 2) rfl)) (ty := .double) (by decide) rfl rfl (g := (mkF m 35 #[.val (.ref a0), .val (.long j1), .second, .val (.long j2), .second, .val (.long j3), .second, .val (.double d4), .second, .val (.double d5), .second, .val (.double d6), .second, .val (.double d7), .second] [(.double d6), (.ref a0)])) rfl rfl (hb hby d1_35)
  refine Go.on st7 ?_
  replace F_workerSeconds_a0 := F_workerSeconds_a0.same W7
  replace E_a0 := E_a0.wr W7
  replace F_offered_a0 := F_offered_a0.other W7 (Or.inr (slot_ne (Or.inr (hw _ (List.mem_of_getElem? (i := 16) rfl))) (Or.inr (hw _ (List.mem_of_getElem? (i := 26) rfl))) (by decide) (t := .long) (t' := .double) (by decide) (by decide)))
  replace F_accepted_a0 := F_accepted_a0.other W7 (Or.inr (slot_ne (Or.inr (hw _ (List.mem_of_getElem? (i := 18) rfl))) (Or.inr (hw _ (List.mem_of_getElem? (i := 26) rfl))) (by decide) (t := .long) (t' := .double) (by decide) (by decide)))
  replace F_rejected_a0 := F_rejected_a0.other W7 (Or.inr (slot_ne (Or.inr (hw _ (List.mem_of_getElem? (i := 20) rfl))) (Or.inr (hw _ (List.mem_of_getElem? (i := 26) rfl))) (by decide) (t := .long) (t' := .double) (by decide) (by decide)))
  replace F_meanResponseTime_a0 := F_meanResponseTime_a0.other W7 (Or.inr (slot_ne (Or.inr (hw _ (List.mem_of_getElem? (i := 22) rfl))) (Or.inr (hw _ (List.mem_of_getElem? (i := 26) rfl))) (by decide) (t := .double) (t' := .double) (by decide) (by decide)))
  replace F_meanInSystem_a0 := F_meanInSystem_a0.other W7 (Or.inr (slot_ne (Or.inr (hw _ (List.mem_of_getElem? (i := 24) rfl))) (Or.inr (hw _ (List.mem_of_getElem? (i := 26) rfl))) (by decide) (t := .double) (t' := .double) (by decide) (by decide)))
  replace F_targetSeconds_a0 := F_targetSeconds_a0.other W7 (Or.inr (slot_ne (Or.inr (hw _ (List.mem_of_getElem? (i := 28) rfl))) (Or.inr (hw _ (List.mem_of_getElem? (i := 26) rfl))) (by decide) (t := .double) (t' := .double) (by decide) (by decide)))
  have N7 := Fr.snoc X7 N6 g_a0
  replace ZZ := Nat.le_trans ZZ (Keep.of_wr W7).1
  replace KP := KP.wr W7 (Or.inl (List.mem_of_getElem? (i := 0) rfl))
  show Go _ _ _ _ _ _ _ _ (mkF m 38 #[.val (.ref a0), .val (.long j1), .second, .val (.long j2), .second, .val (.long j3), .second, .val (.double d4), .second, .val (.double d5), .second, .val (.double d6), .second, .val (.double d7), .second] [])
  refine Go.on (fun _ k => XS.aloadN X7.here hx rfl (hb hby d1_38) rfl rfl k) ?_
  show Go _ _ _ _ _ _ _ _ (mkF m 39 #[.val (.ref a0), .val (.long j1), .second, .val (.long j2), .second, .val (.long j3), .second, .val (.double d4), .second, .val (.double d5), .second, .val (.double d6), .second, .val (.double d7), .second] [(.ref a0)])
  refine Go.on (fun _ k => XS.dload X7.here hx rfl (hb hby d1_39) rfl k) ?_
  show Go _ _ _ _ _ _ _ _ (mkF m 41 #[.val (.ref a0), .val (.long j1), .second, .val (.long j2), .second, .val (.long j3), .second, .val (.double d4), .second, .val (.double d5), .second, .val (.double d6), .second, .val (.double d7), .second] [(.double d7), (.ref a0)])
  obtain ⟨T8, h8, X8, e8, W8, st8⟩ := putF X7 hx hZ hown (host := "") (Or.inl (hw _ (List.mem_of_getElem? (i := 27) rfl))) Via.refl e7 F_targetSeconds_a0 E_a0 (Or.inr ⟨(hw _ (List.mem_of_getElem? (i := 28) rfl)), rfl, hnm⟩) (hw _ (List.mem_of_getElem? (i := 2) rfl)) (ty := .double) (by decide) rfl rfl (g := (mkF m 41 #[.val (.ref a0), .val (.long j1), .second, .val (.long j2), .second, .val (.long j3), .second, .val (.double d4), .second, .val (.double d5), .second, .val (.double d6), .second, .val (.double d7), .second] [(.double d7), (.ref a0)])) rfl rfl (hb hby d1_41)
  refine Go.on st8 ?_
  replace F_targetSeconds_a0 := F_targetSeconds_a0.same W8
  replace E_a0 := E_a0.wr W8
  replace F_offered_a0 := F_offered_a0.other W8 (Or.inr (slot_ne (Or.inr (hw _ (List.mem_of_getElem? (i := 16) rfl))) (Or.inr (hw _ (List.mem_of_getElem? (i := 28) rfl))) (by decide) (t := .long) (t' := .double) (by decide) (by decide)))
  replace F_accepted_a0 := F_accepted_a0.other W8 (Or.inr (slot_ne (Or.inr (hw _ (List.mem_of_getElem? (i := 18) rfl))) (Or.inr (hw _ (List.mem_of_getElem? (i := 28) rfl))) (by decide) (t := .long) (t' := .double) (by decide) (by decide)))
  replace F_rejected_a0 := F_rejected_a0.other W8 (Or.inr (slot_ne (Or.inr (hw _ (List.mem_of_getElem? (i := 20) rfl))) (Or.inr (hw _ (List.mem_of_getElem? (i := 28) rfl))) (by decide) (t := .long) (t' := .double) (by decide) (by decide)))
  replace F_meanResponseTime_a0 := F_meanResponseTime_a0.other W8 (Or.inr (slot_ne (Or.inr (hw _ (List.mem_of_getElem? (i := 22) rfl))) (Or.inr (hw _ (List.mem_of_getElem? (i := 28) rfl))) (by decide) (t := .double) (t' := .double) (by decide) (by decide)))
  replace F_meanInSystem_a0 := F_meanInSystem_a0.other W8 (Or.inr (slot_ne (Or.inr (hw _ (List.mem_of_getElem? (i := 24) rfl))) (Or.inr (hw _ (List.mem_of_getElem? (i := 28) rfl))) (by decide) (t := .double) (t' := .double) (by decide) (by decide)))
  replace F_workerSeconds_a0 := F_workerSeconds_a0.other W8 (Or.inr (slot_ne (Or.inr (hw _ (List.mem_of_getElem? (i := 26) rfl))) (Or.inr (hw _ (List.mem_of_getElem? (i := 28) rfl))) (by decide) (t := .double) (t' := .double) (by decide) (by decide)))
  have N8 := Fr.snoc X8 N7 g_a0
  replace ZZ := Nat.le_trans ZZ (Keep.of_wr W8).1
  replace KP := KP.wr W8 (Or.inl (List.mem_of_getElem? (i := 0) rfl))
  show Go _ _ _ _ _ _ _ _ (mkF m 44 #[.val (.ref a0), .val (.long j1), .second, .val (.long j2), .second, .val (.long j3), .second, .val (.double d4), .second, .val (.double d5), .second, .val (.double d6), .second, .val (.double d7), .second] [])
  refine Go.ret0 X8 hx Bd.returns (hb hby d1_44) ?_ (by rw [hK1]; decide) (by rw [hK2]; decide)
  rw [e8, ← hQQ]
  exact ⟨rfl, N8, KP, E_a0, F_offered_a0, F_accepted_a0, F_rejected_a0, F_meanResponseTime_a0, F_meanInSystem_a0, F_workerSeconds_a0, F_targetSeconds_a0⟩
theorem d4_0 : decode prog_47_method_3_code 0 = .ok (.aload_n 0, 1) := by decide +kernel
theorem d4_1 : decode prog_47_method_3_code 1 = .ok (.getfield 29, 3) := by decide +kernel
theorem d4_4 : decode prog_47_method_3_code 4 = .ok (.dconst 0, 1) := by decide +kernel
theorem d4_5 : decode prog_47_method_3_code 5 = .ok (.dcmp .l, 1) := by decide +kernel
theorem d4_6 : decode prog_47_method_3_code 6 = .ok (.ifCond .ne 7, 3) := by decide +kernel
theorem d4_9 : decode prog_47_method_3_code 9 = .ok (.dconst 0, 1) := by decide +kernel
theorem d4_10 : decode prog_47_method_3_code 10 = .ok (.goto 14, 3) := by decide +kernel
theorem d4_13 : decode prog_47_method_3_code 13 = .ok (.aload_n 0, 1) := by decide +kernel
theorem d4_14 : decode prog_47_method_3_code 14 = .ok (.getfield 26, 3) := by decide +kernel
theorem d4_17 : decode prog_47_method_3_code 17 = .ok (.aload_n 0, 1) := by decide +kernel
theorem d4_18 : decode prog_47_method_3_code 18 = .ok (.getfield 29, 3) := by decide +kernel
theorem d4_21 : decode prog_47_method_3_code 21 = .ok (.ddiv, 1) := by decide +kernel
theorem d4_22 : decode prog_47_method_3_code 22 = .ok (.dconst 1, 1) := by decide +kernel
theorem d4_23 : decode prog_47_method_3_code 23 = .ok (.dsub, 1) := by decide +kernel
theorem d4_24 : decode prog_47_method_3_code 24 = .ok (.dreturn, 1) := by decide +kernel
theorem ef_rm4 (m : MethodId) (a0 : Addr) : entryFrame m #[(.ref a0)] 1 = mkF m 0 #[.val (.ref a0)] [] := by first | (simp [entryFrame, mkF, argsToLocals, Value.category]; done) | rfl
def Q_rm4 (Z : State) (a0 : Addr) (w : UInt64) (t : UInt64) (h0 : Heap) (n0 : Nat) (v : Option Value) (h : Heap) (L : List Loc) : Prop := v = some (.double (lagV w t)) ∧ Fr n0 L ∧ h = h0
set_option maxRecDepth 65536 in
set_option maxHeartbeats 40000000 in
theorem rm4 (l : Launch) (Z : State) (aw : Array Value) (hw : ∀ d ∈ tables_1, d.before aw Z = true) (ws : List Jvm.Cond) (a0 : Addr) (w : UInt64) (t : UInt64) (h0 : Heap) (n0 : Nat) (Z0 : n0 ≤ h0.size) (F_workerSeconds_a0 : Fld Z h0 a0 "com/example/deliberate_scaler/deliberatescaler/model/Simulation$Outcome" "workerSeconds" "D" (.double w)) (F_targetSeconds_a0 : Fld Z h0 a0 "com/example/deliberate_scaler/deliberatescaler/model/Simulation$Outcome" "targetSeconds" "D" (.double t)) (hn1 : ¬ (cmpValue (FP.dcmp t (0 : UInt64)) .l) = (0 : Int32) → Jvm.Free.Fl.NoNaN64 (FP.ddiv w t)) (hn2 : ¬ (cmpValue (FP.dcmp t (0 : UInt64)) .l) = (0 : Int32) → Jvm.Free.Fl.NoNaN64 (FP.dsub (FP.ddiv w t) (4607182418800017408 : UInt64))) :
    MetFree l (⟨"com/example/deliberate_scaler/deliberatescaler/model/Simulation$Outcome", "relativeLag", "()D"⟩ : MethodName) (head1 (Jvm.Cond.code (⟨"com/example/deliberate_scaler/deliberatescaler/model/Simulation$Outcome", "relativeLag", "()D"⟩ : MethodName) prog_47_method_3_code 1 (some .double) :: ws) ({ frames := 0, cells := 0, slots := 0, locals := 0 } : Room)) (fun a U => a = #[(.ref a0)] ∧ Z.Warmed39 U.vm ∧ U.heap = h0) (fun _ _ _ _ _ => True) (fun _ U o U' => ∃ v L, o = .returned v ∧ Q_rm4 Z a0 w t h0 n0 v U'.heap L ∧ FrameEnd U o U' L ({ frames := 0, cells := 0, slots := 0, locals := 0 } : Room).cells ({ frames := 0, cells := 0, slots := 0, locals := 0 } : Room).slots) := by
  refine MetFree.of_bodySF (plainFor_of_name pn_1) hisR ?_
  intro p e s m args below meth c s₁ Bd hml0 hP hK
  obtain ⟨rfl, hZ, hh⟩ := hP
  have hx := Bd.exec
  have hby := Bd.bytes
  have hml : c.maxLocals = 1 := hml0
  have hown : s.vm.findClass "com/example/deliberate_scaler/deliberatescaler/model/Simulation$Outcome" = some m.cls := findClass_of_methodNamed Bd.named
  have hnm := (name_of_methodNamed Bd.named Bd.method).1
  have hlk : meth.locks = false := BodyLoose.notSynchronized Bd
  have X0 : Stand p l e ({ frames := 0, cells := 0, slots := 0, locals := 0 } : Room) s m #[(.ref a0)] below meth c s₁ [] 0 0 := Stand.of_body Bd
  have e0 : s₁.heap = h0 := by rw [← hh, Bd.state]; rfl
  have N0 := Fr.nil n0
  have ZZ := Z0
  show Go p e below s ({ frames := 0, cells := 0, slots := 0, locals := 0 } : Room).cells ({ frames := 0, cells := 0, slots := 0, locals := 0 } : Room).slots (fun v h L => Q_rm4 Z a0 w t h0 n0 v h L) s₁ (entryFrame m #[(.ref a0)] 1)
  refine Go.cast (ef_rm4 m a0) ?_
  refine Go.gen ?_
  intro K1 K2 QQ hK1 hK2 hQQ
  refine Go.on (fun _ k => XS.aloadN X0.here hx rfl (hb hby d4_0) rfl rfl k) ?_
  show Go _ _ _ _ _ _ _ _ (mkF m 1 #[.val (.ref a0)] [(.ref a0)])
  obtain ⟨T1, X1, e1, st1⟩ := getF X0 hx hZ hown (host := "") (Or.inl (hw _ (List.mem_of_getElem? (i := 27) rfl))) Via.refl e0 F_targetSeconds_a0 (g := (mkF m 1 #[.val (.ref a0)] [(.ref a0)])) rfl rfl (hb hby d4_1)
  refine Go.on st1 ?_
  show Go _ _ _ _ _ _ _ _ (mkF m 4 #[.val (.ref a0)] [(.double t)])
  refine Go.on (fun _ k => XS.dconst0 X1.here hx rfl (v := (0 : UInt64)) (hb hby d4_4) rfl k) ?_
  show Go _ _ _ _ _ _ _ _ (mkF m 5 #[.val (.ref a0)] [(.double (0 : UInt64)), (.double t)])
  refine Go.on (fun _ k => XS.dcmpS X1.here hx rfl (hb hby d4_5) rfl rfl k) ?_
  show Go _ _ _ _ _ _ _ _ (mkF m 6 #[.val (.ref a0)] [(.int (cmpValue (FP.dcmp t (0 : UInt64)) .l))])
  by_cases hc2 : (cmpValue (FP.dcmp t (0 : UInt64)) .l) = (0 : Int32)
  · -- pc 6 yes
    refine Go.on (fun _ k => XS.ifNo X1.here hx rfl (hb hby d4_6) rfl ((if0 _ _).trans (teq hc2).2) k) ?_
    show Go _ _ _ _ _ _ _ _ (mkF m 9 #[.val (.ref a0)] [])
    refine Go.on (fun _ k => XS.dconst0 X1.here hx rfl (v := (0 : UInt64)) (hb hby d4_9) rfl k) ?_
    show Go _ _ _ _ _ _ _ _ (mkF m 10 #[.val (.ref a0)] [(.double (0 : UInt64))])
    refine Go.on (fun _ k => XS.goto X1.here hx rfl (pc0 := 10) (pc' := 24) rfl (hb hby d4_10) (by decide) (by decide) k) ?_
    show Go _ _ _ _ _ _ _ _ (mkF m 24 #[.val (.ref a0)] [(.double (0 : UInt64))])
    refine Go.retV X1 hx Bd.returns rfl (Or.inr (Or.inr (Or.inl ⟨rfl, rfl, _, rfl⟩))) (hb hby d4_24) ?_ (by rw [hK1]; decide) (by rw [hK2]; decide)
    rw [e1, ← hQQ]
    refine ⟨?_, N0, rfl⟩
    show _ = some (Value.double (lagV w t))
    unfold lagV; rw [if_pos hc2]
  · -- pc 6 no
    refine Go.on (fun _ k => XS.ifYes X1.here hx rfl (pc0 := 6) (pc' := 13) rfl (hb hby d4_6) rfl ((if0 _ _).trans (feq hc2).2) (by decide) (by decide) k) ?_
    show Go _ _ _ _ _ _ _ _ (mkF m 13 #[.val (.ref a0)] [])
    refine Go.on (fun _ k => XS.aloadN X1.here hx rfl (hb hby d4_13) rfl rfl k) ?_
    show Go _ _ _ _ _ _ _ _ (mkF m 14 #[.val (.ref a0)] [(.ref a0)])
    obtain ⟨T3, X3, e3, st3⟩ := getF X1 hx hZ hown (host := "") (Or.inl (hw _ (List.mem_of_getElem? (i := 25) rfl))) Via.refl e1 F_workerSeconds_a0 (g := (mkF m 14 #[.val (.ref a0)] [(.ref a0)])) rfl rfl (hb hby d4_14)
    refine Go.on st3 ?_
    show Go _ _ _ _ _ _ _ _ (mkF m 17 #[.val (.ref a0)] [(.double w)])
    refine Go.on (fun _ k => XS.aloadN X3.here hx rfl (hb hby d4_17) rfl rfl k) ?_
    show Go _ _ _ _ _ _ _ _ (mkF m 18 #[.val (.ref a0)] [(.ref a0), (.double w)])
    obtain ⟨T4, X4, e4, st4⟩ := getF X3 hx hZ hown (host := "") (Or.inl (hw _ (List.mem_of_getElem? (i := 27) rfl))) Via.refl e3 F_targetSeconds_a0 (g := (mkF m 18 #[.val (.ref a0)] [(.ref a0), (.double w)])) rfl rfl (hb hby d4_18)
    refine Go.on st4 ?_
    show Go _ _ _ _ _ _ _ _ (mkF m 21 #[.val (.ref a0)] [(.double t), (.double w)])
    refine Go.on (fun _ k => XS.ddivS X4.here hx rfl (hb hby d4_21) rfl (hn1 hc2) rfl k) ?_
    show Go _ _ _ _ _ _ _ _ (mkF m 22 #[.val (.ref a0)] [(.double (FP.ddiv w t))])
    refine Go.on (fun _ k => XS.dconst1 X4.here hx rfl (v := (4607182418800017408 : UInt64)) (hb hby d4_22) rfl k) ?_
    show Go _ _ _ _ _ _ _ _ (mkF m 23 #[.val (.ref a0)] [(.double (4607182418800017408 : UInt64)), (.double (FP.ddiv w t))])
    refine Go.on (fun _ k => XS.dsubS X4.here hx rfl (hb hby d4_23) rfl (hn2 hc2) rfl k) ?_
    show Go _ _ _ _ _ _ _ _ (mkF m 24 #[.val (.ref a0)] [(.double (FP.dsub (FP.ddiv w t) (4607182418800017408 : UInt64)))])
    refine Go.retV X4 hx Bd.returns rfl (Or.inr (Or.inr (Or.inl ⟨rfl, rfl, _, rfl⟩))) (hb hby d4_24) ?_ (by rw [hK1]; decide) (by rw [hK2]; decide)
    rw [e4, ← hQQ]
    refine ⟨?_, N0, rfl⟩
    show _ = some (Value.double (lagV w t))
    unfold lagV; rw [if_neg hc2]
section PureLaw
open Jvm.FP.Core
theorem own_onefin : DFin (4607182418800017408 : UInt64) := by rw [fin_bits]; decide
theorem own_zero_cmp {t : UInt64} : (cmpValue (FP.dcmp t (0 : UInt64)) .l) = (0 : Int32) ↔ DZero t := by
  rw [own_c_eq]; exact zero_iff
theorem own_l1 {w t : UInt64} (hw : DFin w) (ht : DFin t) : ¬ (cmpValue (FP.dcmp t (0 : UInt64)) .l) = (0 : Int32) → Jvm.Free.Fl.NoNaN64 (FP.ddiv w t) := fun h =>
  Jvm.Free.Fl.noNaN64_no.mpr (FP.Core.ddiv_out hw.notNaN ht (fun q => h (own_zero_cmp.mpr q)))
theorem own_l2 {w t : UInt64} (hw : DFin w) (ht : DFin t) : ¬ (cmpValue (FP.dcmp t (0 : UInt64)) .l) = (0 : Int32) → Jvm.Free.Fl.NoNaN64 (FP.dsub (FP.ddiv w t) (4607182418800017408 : UInt64)) := fun h =>
  Jvm.Free.Fl.noNaN64_no.mpr (FP.Core.dsub_out (Jvm.Free.Fl.noNaN64_no.mp (own_l1 hw ht h)) own_onefin)
theorem own_tgz {md : Int32} {tg : UInt64} (h : tg = (if md = (0 : Int32) then (0 : UInt64) else (9223372036854775808 : UInt64))) : DZero tg := by
  rw [h, zero_bits2]; split <;> decide
theorem own_tgfin {md : Int32} {tg : UInt64} (h : tg = (if md = (0 : Int32) then (0 : UInt64) else (9223372036854775808 : UInt64))) : DFin tg := (own_tgz h).fin
theorem own_pure0 {md v : Int32} {w tg lag : UInt64} (h : tg = (if md = (0 : Int32) then (0 : UInt64) else (9223372036854775808 : UInt64))) (hl : lagV w tg = lag)
    (hv : v = (if (cmpValue (FP.dcmp lag (0 : UInt64)) .l) = (0 : Int32) then (1 : Int32) else (0 : Int32))) : v = 1 := by
  unfold lagV at hl
  rw [if_pos (own_zero_cmp.mpr (own_tgz h))] at hl
  rw [hv, ← hl]; decide +kernel
theorem own_t {i4 : Int32} {t : Int64} (h : ((1 : Int64) + ((i4 &&& (1073741823 : Int32)).toInt64)) = t) : 1 ≤ t.toInt ∧ t.toInt ≤ 1073741824 := by
  have e1 : (i4 &&& 1073741823).toInt = i4.toInt % 2 ^ 30 := Jvm.Kit.i32_mask i4 1073741823 (k := 30) (by decide) (by decide)
  have e2 : (i4 &&& (1073741823 : Int32)).toInt64.toInt = (i4 &&& 1073741823).toInt := Int32.toInt_toInt64 _
  have l1 : (1 : Int64).toInt = 1 := by decide
  rw [← h, Jvm.Kit.i64_add (by rw [e2, e1, l1]; omega) (by rw [e2, e1, l1]; omega), e2, e1, l1]; omega
theorem own_k {i5 kk : Int32} (h : (i5 &&& (255 : Int32)) = kk) : 0 ≤ kk.toInt ∧ kk.toInt ≤ 255 := by
  have e1 : (i5 &&& 255).toInt = i5.toInt % 2 ^ 8 := Jvm.Kit.i32_mask i5 255 (k := 8) (by decide) (by decide)
  rw [← h, e1]; omega
theorem own_opos : (0 : Int) < (one64 : Int) := by have := one64_pos; omega
theorem own_ge_one {D : Int} (h : 1 ≤ D) : (one64 : Int) ≤ D * (one64 : Int) := by
  have := Int.mul_le_mul_of_nonneg_right h (Int.le_of_lt own_opos)
  rwa [Int.one_mul] at this
theorem own_tv {t : Int64} (h : 1 ≤ t.toInt ∧ t.toInt ≤ 1073741824) : ZV (FP.l2d t) (t.toInt * (one64 : Int)) := own_l2d (by omega)
theorem own_lag_neg {w : UInt64} {t : Int64} (h : 1 ≤ t.toInt ∧ t.toInt ≤ 1073741824) : lagV w (FP.l2d t) = FP.dsub (FP.ddiv w (FP.l2d t)) (4607182418800017408 : UInt64) := by
  unfold lagV
  rw [if_neg]
  rw [own_zero_cmp]
  intro q
  have := (own_tv h).2
  rw [q.zval] at this
  have := own_ge_one h.1
  have := own_opos
  omega
theorem own_mul {kk : Int32} {t : Int64} {lag1 : UInt64} (ht : 1 ≤ t.toInt ∧ t.toInt ≤ 1073741824) (hk : 0 ≤ kk.toInt ∧ kk.toInt ≤ 255) (hl : lagV (FP.l2d ((kk.toInt64) * t)) (FP.l2d t) = lag1) :
    (cmpValue (FP.dcmp lag1 (FP.i2d (kk - (1 : Int32)))) .l) = (0 : Int32) := by
  rw [own_lag_neg ht] at hl
  have l1 : (1 : Int32).toInt = 1 := by decide
  have ek : kk.toInt64.toInt = kk.toInt := Int32.toInt_toInt64 kk
  have p0 : 0 ≤ kk.toInt * t.toInt := Int.mul_nonneg (by omega) (by omega)
  have p1 : kk.toInt * t.toInt ≤ 255 * 1073741824 := Int.mul_le_mul hk.2 ht.2 (by omega) (by omega)
  have em : (kk.toInt64 * t).toInt = kk.toInt * t.toInt := by rw [Jvm.Kit.i64_mul (by rw [ek]; omega) (by rw [ek]; omega), ek]
  have wv : ZV (FP.l2d (kk.toInt64 * t)) (kk.toInt * t.toInt * (one64 : Int)) := by rw [← em]; exact own_l2d (by omega)
  have q : ZV (FP.ddiv (FP.l2d (kk.toInt64 * t)) (FP.l2d t)) (kk.toInt * (one64 : Int)) := wv.div_exact (own_tv ht) (own_ge_one ht.1) (own_i2d kk) (by generalize (one64 : Int) = o; ac_rfl)
  have e1 : (kk - 1).toInt = kk.toInt - 1 := by rw [Jvm.Kit.i32_sub (by rw [l1]; omega) (by rw [l1]; omega), l1]
  have kv := own_i2d (kk - 1)
  rw [e1, Int.sub_mul, Int.one_mul] at kv
  have r := q.sub own_one kv
  rw [hl] at r
  rw [own_c_eq, r.cmp kv, own_cmp_eq]
theorem own_cmp0 {r : UInt64} (hn : val64 r ≠ .nan) : FP.dcmp r (0 : UInt64) = some (compare (zval b64 (val64 r)) 0) := by
  have := dcmp_zval hn own_zero.ne
  rw [own_zero.2] at this
  exact this
theorem own_pure {i3 i4 i5 kk mul sg v : Int32} {t wl : Int64} {lag1 r : UInt64} (ht : ((1 : Int64) + ((i4 &&& (1073741823 : Int32)).toInt64)) = t) (hkk : (i5 &&& (255 : Int32)) = kk)
    (hl : lagV (FP.l2d ((kk.toInt64) * t)) (FP.l2d t) = lag1) (hm : mul = (if (cmpValue (FP.dcmp lag1 (FP.i2d (kk - (1 : Int32)))) .l) = (0 : Int32) then (1 : Int32) else (0 : Int32)))
    (hr : lagV (FP.i2d i3) (FP.l2d t) = r) (hwl : i3.toInt64 = wl)
    (hsg : sg = (if t < wl then (if (0 : Int32) < (cmpValue (FP.dcmp r (0 : UInt64)) .l) then (1 : Int32) else (0 : Int32)) else (if wl = t then (if (cmpValue (FP.dcmp r (0 : UInt64)) .l) = (0 : Int32) then (1 : Int32) else (0 : Int32)) else (if (cmpValue (FP.dcmp r (0 : UInt64)) .g) < (0 : Int32) then (1 : Int32) else (0 : Int32)))))
    (hv : v = (if mul = (0 : Int32) then (0 : Int32) else (if sg = (0 : Int32) then (0 : Int32) else (1 : Int32)))) : v = 1 := by
  have bt := own_t ht
  have bk := own_k hkk
  have m1 : mul = 1 := by rw [hm, if_pos (own_mul bt bk hl)]
  have ew : wl.toInt = i3.toInt := by rw [← hwl]; exact Int32.toInt_toInt64 i3
  rw [own_lag_neg bt] at hr
  obtain ⟨q, hq, hQ⟩ := (own_i2d i3).div (own_tv bt) (own_ge_one bt.1)
  have hn : val64 r ≠ .nan := by
    rw [← hr]; exact (notNaN_iff _).mp (FP.Core.dsub_out hq.1.notNaN own_onefin)
  have c0 := own_cmp0 hn
  have a1 := own_quo_int hQ 1073741825 30 (by decide) (by decide)
  have a2 := own_quo_int hQ 1 0 (by decide) (by decide)
  have a3 := own_quo_int hQ 1073741823 30 (by decide) (by decide)
  obtain ⟨V1, hV1⟩ := own_rep 1 1044 (by decide) (by decide)
  obtain ⟨V2, hV2⟩ := own_rep (-1) 1044 (by decide) (by decide)
  have s1 := hq.sub_ge own_one hV1
  have s2 := hq.sub_le own_one hV2
  have s3 := hq.sub_le own_one own_zero
  have s4 := hq.sub_ge own_one own_zero
  rw [hr] at s1 s2 s3 s4
  have e0 : ((2 ^ (1074 - 0) : Nat) : Int) = (one64 : Int) := rfl
  have e1 : ((2 ^ (1074 - 30) : Nat) : Int) = ((2 ^ 1044 : Nat) : Int) := rfl
  have e2 : (one64 : Int) = 1073741824 * ((2 ^ 1044 : Nat) : Int) := by decide +kernel
  have k0 : ((2 ^ 0 : Nat) : Int) = 1 := rfl
  have k30 : ((2 ^ 30 : Nat) : Int) = 1073741824 := rfl
  have pu : (0 : Int) < ((2 ^ 1044 : Nat) : Int) := Int.natCast_pos.mpr (Nat.two_pow_pos _)
  rw [k0, e0] at a2
  rw [k30, e1] at a1 a3
  generalize ((2 ^ 1044 : Nat) : Int) = u at *
  generalize zval b64 (val64 r) = z at *
  generalize (one64 : Int) = o at *
  have sg1 : sg = 1 := by
    rw [hsg]
    simp only [c0, own_cl_gt, own_c_eq, own_cg_lt, own_cmp_gt, own_cmp_eq, own_cmp_lt, Int64.lt_iff_toInt_lt, ← Int64.toInt_inj, ew]
    by_cases c1 : t.toInt < i3.toInt
    · have := a1.2 (by omega)
      have := s1 (by omega)
      rw [if_pos c1, if_pos (by omega)]
    · rw [if_neg c1]
      by_cases c2 : i3.toInt = t.toInt
      · have b1 := a2.1 (by omega)
        have b2 := a2.2 (by omega)
        have := s3 (by omega)
        have := s4 (by omega)
        rw [if_pos c2, if_pos (by omega)]
      · have := a3.1 (by omega)
        have := s2 (by omega)
        rw [if_neg c2, if_pos (by omega)]
  rw [hv, m1, sg1]; decide
end PureLaw

theorem pd_1 : parseMethodDescriptor "(JJJDDDD)V" = some ⟨[.long, .long, .long, .double, .double, .double, .double], none⟩ := by decide +kernel
theorem pd_2 : parseMethodDescriptor "()D" = some ⟨[], some .double⟩ := by decide +kernel
theorem pn_2 : plainName "com/example/deliberate_scaler/deliberatescaler/model/OutcomeRelativeLagPinLaw" = true := by first | (simp [plainName, overriddenIn]; done) | decide +kernel
theorem ef_rm0 (m : MethodId) (off : Int64) (i2 : Int32) (i3 : Int32) (i4 : Int32) (i5 : Int32) : entryFrame m #[(.long off), (.int i2), (.int i3), (.int i4), (.int i5)] maxLocals = mkF m 0 #[.val (.long off), .second, .val (.int i2), .val (.int i3), .val (.int i4), .val (.int i5), .unset, .unset, .unset, .unset, .unset, .unset, .unset, .unset, .unset, .unset, .unset, .unset] [] := by first | (simp [entryFrame, mkF, argsToLocals, Value.category, maxLocals]; done) | rfl
def Q_rm0 (Z : State) (off : Int64) (i2 : Int32) (i3 : Int32) (i4 : Int32) (i5 : Int32) (h0 : Heap) (n0 : Nat) (v : Option Value) (h : Heap) (L : List Loc) : Prop := v = some (.int 1) ∧ Fr n0 L
set_option maxRecDepth 65536 in
set_option maxHeartbeats 40000000 in
theorem rm0 (l : Launch) (Z : State) (aw : Array Value) (hw : ∀ d ∈ tables_1, d.before aw Z = true) (ws : List Jvm.Cond) (off : Int64) (i2 : Int32) (i3 : Int32) (i4 : Int32) (i5 : Int32) (h0 : Heap) (n0 : Nat) (Z0 : n0 ≤ h0.size) :
    MetFree l x (head1 (Jvm.Cond.code x code maxLocals ret :: ws) room_1) (fun a U => a = #[(.long off), (.int i2), (.int i3), (.int i4), (.int i5)] ∧ Z.Warmed39 U.vm ∧ U.heap = h0) (fun _ _ _ _ _ => True) (fun _ U o U' => ∃ v L, o = .returned v ∧ Q_rm0 Z off i2 i3 i4 i5 h0 n0 v U'.heap L ∧ FrameEnd U o U' L 2 14) := by
  refine MetFree.of_bodySF (plainFor_of_name pn_2) hisR ?_
  intro p e s m args below meth c s₁ Bd hml0 hP hK
  obtain ⟨rfl, hZ, hh⟩ := hP
  have hx := Bd.exec
  have hby := Bd.bytes
  have hml : c.maxLocals = 18 := hml0
  have hown : s.vm.findClass "com/example/deliberate_scaler/deliberatescaler/model/OutcomeRelativeLagPinLaw" = some m.cls := findClass_of_methodNamed Bd.named
  have hnm := (name_of_methodNamed Bd.named Bd.method).1
  have hlk : meth.locks = false := BodyLoose.notSynchronized Bd
  have X0 : Stand p l e room_1 s m #[(.long off), (.int i2), (.int i3), (.int i4), (.int i5)] below meth c s₁ [] 0 0 := Stand.of_body Bd
  have e0 : s₁.heap = h0 := by rw [← hh, Bd.state]; rfl
  have N0 := Fr.nil n0
  have ZZ := Z0
  show Go p e below s 2 14 (fun v h L => Q_rm0 Z off i2 i3 i4 i5 h0 n0 v h L) s₁ (entryFrame m #[(.long off), (.int i2), (.int i3), (.int i4), (.int i5)] maxLocals)
  refine Go.cast (ef_rm0 m off i2 i3 i4 i5) ?_
  refine Go.gen ?_
  intro K1 K2 QQ hK1 hK2 hQQ
  refine Go.on (fun _ k => XS.iloadN X0.here hx rfl (hb hby at_0) rfl k) ?_
  show Go _ _ _ _ _ _ _ _ (mkF m 1 #[.val (.long off), .second, .val (.int i2), .val (.int i3), .val (.int i4), .val (.int i5), .unset, .unset, .unset, .unset, .unset, .unset, .unset, .unset, .unset, .unset, .unset, .unset] [(.int i2)])
  refine Go.on (fun _ k => XS.iconst X0.here hx rfl (hb hby at_1) k) ?_
  show Go _ _ _ _ _ _ _ _ (mkF m 2 #[.val (.long off), .second, .val (.int i2), .val (.int i3), .val (.int i4), .val (.int i5), .unset, .unset, .unset, .unset, .unset, .unset, .unset, .unset, .unset, .unset, .unset, .unset] [(.int (3 : Int32)), (.int i2)])
  refine Go.on (fun _ k => XS.iand X0.here hx rfl (hb hby at_2) rfl k) ?_
  show Go _ _ _ _ _ _ _ _ (mkF m 3 #[.val (.long off), .second, .val (.int i2), .val (.int i3), .val (.int i4), .val (.int i5), .unset, .unset, .unset, .unset, .unset, .unset, .unset, .unset, .unset, .unset, .unset, .unset] [(.int (i2 &&& (3 : Int32)))])
  refine Go.on (fun _ k => XS.istore X0.here hx rfl (hb hby at_3) rfl (l' := #[.val (.long off), .second, .val (.int i2), .val (.int i3), .val (.int i4), .val (.int i5), .val (.int (i2 &&& (3 : Int32))), .unset, .unset, .unset, .unset, .unset, .unset, .unset, .unset, .unset, .unset, .unset]) rfl k) ?_
  show Go _ _ _ _ _ _ _ _ (mkF m 5 #[.val (.long off), .second, .val (.int i2), .val (.int i3), .val (.int i4), .val (.int i5), .val (.int (i2 &&& (3 : Int32))), .unset, .unset, .unset, .unset, .unset, .unset, .unset, .unset, .unset, .unset, .unset] [])
  generalize hmd : (i2 &&& (3 : Int32)) = md
  show Go _ _ _ _ _ _ _ _ (mkF m 5 #[.val (.long off), .second, .val (.int i2), .val (.int i3), .val (.int i4), .val (.int i5), .val (.int md), .unset, .unset, .unset, .unset, .unset, .unset, .unset, .unset, .unset, .unset, .unset] [])
  refine Go.on (fun _ k => XS.iload X0.here hx rfl (hb hby at_5) rfl k) ?_
  show Go _ _ _ _ _ _ _ _ (mkF m 7 #[.val (.long off), .second, .val (.int i2), .val (.int i3), .val (.int i4), .val (.int i5), .val (.int md), .unset, .unset, .unset, .unset, .unset, .unset, .unset, .unset, .unset, .unset, .unset] [(.int md)])
  by_cases hc1 : md = (0 : Int32)
  · -- pc 7 yes
    refine Go.on (fun _ k => XS.ifYes X0.here hx rfl (pc0 := 7) (pc' := 16) rfl (hb hby at_7) rfl ((if0 _ _).trans (teq hc1).1) (by decide) (by decide) k) ?_
    show Go _ _ _ _ _ _ _ _ (mkF m 16 #[.val (.long off), .second, .val (.int i2), .val (.int i3), .val (.int i4), .val (.int i5), .val (.int md), .unset, .unset, .unset, .unset, .unset, .unset, .unset, .unset, .unset, .unset, .unset] [])
    refine Go.on (fun _ k => XS.iload X0.here hx rfl (hb hby at_16) rfl k) ?_
    show Go _ _ _ _ _ _ _ _ (mkF m 18 #[.val (.long off), .second, .val (.int i2), .val (.int i3), .val (.int i4), .val (.int i5), .val (.int md), .unset, .unset, .unset, .unset, .unset, .unset, .unset, .unset, .unset, .unset, .unset] [(.int md)])
    suffices hJ2 : ∀ (tg : UInt64), tg = (if md = (0 : Int32) then (0 : UInt64) else (9223372036854775808 : UInt64)) → Go p e below s K1 K2 QQ s₁ (mkF m 28 #[.val (.long off), .second, .val (.int i2), .val (.int i3), .val (.int i4), .val (.int i5), .val (.int md), .unset, .unset, .unset, .unset, .unset, .unset, .unset, .unset, .unset, .unset, .unset] [(.double tg)]) by
      by_cases hc3 : md = (0 : Int32)
      · -- pc 18 yes
        refine Go.on (fun _ k => XS.ifNo X0.here hx rfl (hb hby at_18) rfl ((if0 _ _).trans (teq hc3).2) k) ?_
        show Go _ _ _ _ _ _ _ _ (mkF m 21 #[.val (.long off), .second, .val (.int i2), .val (.int i3), .val (.int i4), .val (.int i5), .val (.int md), .unset, .unset, .unset, .unset, .unset, .unset, .unset, .unset, .unset, .unset, .unset] [])
        refine Go.on (fun _ k => XS.dconst0 X0.here hx rfl (v := (0 : UInt64)) (hb hby at_21) rfl k) ?_
        show Go _ _ _ _ _ _ _ _ (mkF m 22 #[.val (.long off), .second, .val (.int i2), .val (.int i3), .val (.int i4), .val (.int i5), .val (.int md), .unset, .unset, .unset, .unset, .unset, .unset, .unset, .unset, .unset, .unset, .unset] [(.double (0 : UInt64))])
        refine Go.on (fun _ k => XS.goto X0.here hx rfl (pc0 := 22) (pc' := 28) rfl (hb hby at_22) (by decide) (by decide) k) ?_
        show Go _ _ _ _ _ _ _ _ (mkF m 28 #[.val (.long off), .second, .val (.int i2), .val (.int i3), .val (.int i4), .val (.int i5), .val (.int md), .unset, .unset, .unset, .unset, .unset, .unset, .unset, .unset, .unset, .unset, .unset] [(.double (0 : UInt64))])
        exact hJ2 _ (by rw [if_pos hc3])
      · -- pc 18 no
        refine Go.on (fun _ k => XS.ifYes X0.here hx rfl (pc0 := 18) (pc' := 25) rfl (hb hby at_18) rfl ((if0 _ _).trans (feq hc3).2) (by decide) (by decide) k) ?_
        show Go _ _ _ _ _ _ _ _ (mkF m 25 #[.val (.long off), .second, .val (.int i2), .val (.int i3), .val (.int i4), .val (.int i5), .val (.int md), .unset, .unset, .unset, .unset, .unset, .unset, .unset, .unset, .unset, .unset, .unset] [])
        refine Go.on (X0.ldc2DoubleC hx hown (mvT hZ (hw _ (List.mem_of_getElem? (i := 34) rfl))) (g := (mkF m 25 #[.val (.long off), .second, .val (.int i2), .val (.int i3), .val (.int i4), .val (.int i5), .val (.int md), .unset, .unset, .unset, .unset, .unset, .unset, .unset, .unset, .unset, .unset, .unset] [])) rfl (hb hby at_25)) ?_
        show Go _ _ _ _ _ _ _ _ (mkF m 28 #[.val (.long off), .second, .val (.int i2), .val (.int i3), .val (.int i4), .val (.int i5), .val (.int md), .unset, .unset, .unset, .unset, .unset, .unset, .unset, .unset, .unset, .unset, .unset] [(.double (9223372036854775808 : UInt64))])
        exact hJ2 _ (by rw [if_neg hc3])
    intro tg htg
    refine Go.on (fun _ k => XS.dstore X0.here hx rfl (hb hby at_28) rfl (l' := #[.val (.long off), .second, .val (.int i2), .val (.int i3), .val (.int i4), .val (.int i5), .val (.int md), .val (.double tg), .second, .unset, .unset, .unset, .unset, .unset, .unset, .unset, .unset, .unset]) rfl k) ?_
    show Go _ _ _ _ _ _ _ _ (mkF m 30 #[.val (.long off), .second, .val (.int i2), .val (.int i3), .val (.int i4), .val (.int i5), .val (.int md), .val (.double tg), .second, .unset, .unset, .unset, .unset, .unset, .unset, .unset, .unset, .unset] [])
    obtain ⟨T4, h4, X4, e4, E4, A4, D4, -, st4⟩ := newO X0 hx hZ hown (hw _ (List.mem_of_getElem? (i := 1) rfl)) (hw _ (List.mem_of_getElem? (i := 2) rfl)) (hw _ (List.mem_of_getElem? (i := 3) rfl)) e0 (g := (mkF m 30 #[.val (.long off), .second, .val (.int i2), .val (.int i3), .val (.int i4), .val (.int i5), .val (.int md), .val (.double tg), .second, .unset, .unset, .unset, .unset, .unset, .unset, .unset, .unset, .unset] [])) rfl (hb hby at_30) (by decide) (by decide)
    obtain ⟨b1, g4⟩ : ∃ z, z = h0.size := ⟨_, rfl⟩
    have g_b1 : n0 ≤ b1 := Nat.le_trans ZZ (Nat.le_of_eq g4.symm)
    rw [← g4] at A4 D4 st4
    replace ZZ := Nat.le_trans ZZ E4.1
    have E_b1 := A4
    have F_offered_b1 : Fld Z h4 b1 "com/example/deliberate_scaler/deliberatescaler/model/Simulation$Outcome" "offered" "J" (.long (0 : Int64)) := D4 (Or.inr (hw _ (List.mem_of_getElem? (i := 16) rfl))) (ty := .long) (by decide)
    have F_accepted_b1 : Fld Z h4 b1 "com/example/deliberate_scaler/deliberatescaler/model/Simulation$Outcome" "accepted" "J" (.long (0 : Int64)) := D4 (Or.inr (hw _ (List.mem_of_getElem? (i := 18) rfl))) (ty := .long) (by decide)
    have F_rejected_b1 : Fld Z h4 b1 "com/example/deliberate_scaler/deliberatescaler/model/Simulation$Outcome" "rejected" "J" (.long (0 : Int64)) := D4 (Or.inr (hw _ (List.mem_of_getElem? (i := 20) rfl))) (ty := .long) (by decide)
    have F_meanResponseTime_b1 : Fld Z h4 b1 "com/example/deliberate_scaler/deliberatescaler/model/Simulation$Outcome" "meanResponseTime" "D" (.double (0 : UInt64)) := D4 (Or.inr (hw _ (List.mem_of_getElem? (i := 22) rfl))) (ty := .double) (by decide)
    have F_meanInSystem_b1 : Fld Z h4 b1 "com/example/deliberate_scaler/deliberatescaler/model/Simulation$Outcome" "meanInSystem" "D" (.double (0 : UInt64)) := D4 (Or.inr (hw _ (List.mem_of_getElem? (i := 24) rfl))) (ty := .double) (by decide)
    have F_workerSeconds_b1 : Fld Z h4 b1 "com/example/deliberate_scaler/deliberatescaler/model/Simulation$Outcome" "workerSeconds" "D" (.double (0 : UInt64)) := D4 (Or.inr (hw _ (List.mem_of_getElem? (i := 26) rfl))) (ty := .double) (by decide)
    have F_targetSeconds_b1 : Fld Z h4 b1 "com/example/deliberate_scaler/deliberatescaler/model/Simulation$Outcome" "targetSeconds" "D" (.double (0 : UInt64)) := D4 (Or.inr (hw _ (List.mem_of_getElem? (i := 28) rfl))) (ty := .double) (by decide)
    refine Go.on st4 ?_
    show Go _ _ _ _ _ _ _ _ (mkF m 33 #[.val (.long off), .second, .val (.int i2), .val (.int i3), .val (.int i4), .val (.int i5), .val (.int md), .val (.double tg), .second, .unset, .unset, .unset, .unset, .unset, .unset, .unset, .unset, .unset] [(.ref b1)])
    refine Go.on (fun _ k => XS.dup X4.here hx rfl (hb hby at_33) rfl rfl k) ?_
    show Go _ _ _ _ _ _ _ _ (mkF m 34 #[.val (.long off), .second, .val (.int i2), .val (.int i3), .val (.int i4), .val (.int i5), .val (.int md), .val (.double tg), .second, .unset, .unset, .unset, .unset, .unset, .unset, .unset, .unset, .unset] [(.ref b1), (.ref b1)])
    refine Go.on (fun _ k => XS.lloadN X4.here hx rfl (hb hby at_34) rfl k) ?_
    show Go _ _ _ _ _ _ _ _ (mkF m 35 #[.val (.long off), .second, .val (.int i2), .val (.int i3), .val (.int i4), .val (.int i5), .val (.int md), .val (.double tg), .second, .unset, .unset, .unset, .unset, .unset, .unset, .unset, .unset, .unset] [(.long off), (.ref b1), (.ref b1)])
    refine Go.on (fun _ k => XS.lloadN X4.here hx rfl (hb hby at_35) rfl k) ?_
    show Go _ _ _ _ _ _ _ _ (mkF m 36 #[.val (.long off), .second, .val (.int i2), .val (.int i3), .val (.int i4), .val (.int i5), .val (.int md), .val (.double tg), .second, .unset, .unset, .unset, .unset, .unset, .unset, .unset, .unset, .unset] [(.long off), (.long off), (.ref b1), (.ref b1)])
    refine Go.on (fun _ k => XS.lconst X4.here hx rfl (hb hby at_36) k) ?_
    show Go _ _ _ _ _ _ _ _ (mkF m 37 #[.val (.long off), .second, .val (.int i2), .val (.int i3), .val (.int i4), .val (.int i5), .val (.int md), .val (.double tg), .second, .unset, .unset, .unset, .unset, .unset, .unset, .unset, .unset, .unset] [(.long (0 : Int64)), (.long off), (.long off), (.ref b1), (.ref b1)])
    refine Go.on (fun _ k => XS.dconst0 X4.here hx rfl (v := (0 : UInt64)) (hb hby at_37) rfl k) ?_
    show Go _ _ _ _ _ _ _ _ (mkF m 38 #[.val (.long off), .second, .val (.int i2), .val (.int i3), .val (.int i4), .val (.int i5), .val (.int md), .val (.double tg), .second, .unset, .unset, .unset, .unset, .unset, .unset, .unset, .unset, .unset] [(.double (0 : UInt64)), (.long (0 : Int64)), (.long off), (.long off), (.ref b1), (.ref b1)])
    refine Go.on (fun _ k => XS.dconst0 X4.here hx rfl (v := (0 : UInt64)) (hb hby at_38) rfl k) ?_
    show Go _ _ _ _ _ _ _ _ (mkF m 39 #[.val (.long off), .second, .val (.int i2), .val (.int i3), .val (.int i4), .val (.int i5), .val (.int md), .val (.double tg), .second, .unset, .unset, .unset, .unset, .unset, .unset, .unset, .unset, .unset] [(.double (0 : UInt64)), (.double (0 : UInt64)), (.long (0 : Int64)), (.long off), (.long off), (.ref b1), (.ref b1)])
    refine Go.on (fun _ k => XS.iloadN X4.here hx rfl (hb hby at_39) rfl k) ?_
    show Go _ _ _ _ _ _ _ _ (mkF m 40 #[.val (.long off), .second, .val (.int i2), .val (.int i3), .val (.int i4), .val (.int i5), .val (.int md), .val (.double tg), .second, .unset, .unset, .unset, .unset, .unset, .unset, .unset, .unset, .unset] [(.int i3), (.double (0 : UInt64)), (.double (0 : UInt64)), (.long (0 : Int64)), (.long off), (.long off), (.ref b1), (.ref b1)])
    refine Go.on (fun _ k => XS.i2dS X4.here hx rfl (hb hby at_40) rfl rfl k) ?_
    show Go _ _ _ _ _ _ _ _ (mkF m 41 #[.val (.long off), .second, .val (.int i2), .val (.int i3), .val (.int i4), .val (.int i5), .val (.int md), .val (.double tg), .second, .unset, .unset, .unset, .unset, .unset, .unset, .unset, .unset, .unset] [(.double (FP.i2d i3)), (.double (0 : UInt64)), (.double (0 : UInt64)), (.long (0 : Int64)), (.long off), (.long off), (.ref b1), (.ref b1)])
    refine Go.on (fun _ k => XS.dload X4.here hx rfl (hb hby at_41) rfl k) ?_
    show Go _ _ _ _ _ _ _ _ (mkF m 43 #[.val (.long off), .second, .val (.int i2), .val (.int i3), .val (.int i4), .val (.int i5), .val (.int md), .val (.double tg), .second, .unset, .unset, .unset, .unset, .unset, .unset, .unset, .unset, .unset] [(.double tg), (.double (FP.i2d i3)), (.double (0 : UInt64)), (.double (0 : UInt64)), (.long (0 : Int64)), (.long off), (.long off), (.ref b1), (.ref b1)])
    obtain ⟨_, _, ⟨T5, L5, k5, n5⟩, -, X5, ⟨Lc5, hQ5, l5, y5, z5⟩, st5⟩ := X4.specialBack hx (y := (⟨"com/example/deliberate_scaler/deliberatescaler/model/Simulation$Outcome", "<init>", "(JJJDDDD)V"⟩ : MethodName)) rfl hown (mvT hZ (hw _ (List.mem_of_getElem? (i := 4) rfl))) (mvT hZ (hw _ (List.mem_of_getElem? (i := 5) rfl))) (mvT hZ (hw _ (List.mem_of_getElem? (i := 6) rfl))) (by decide) (backOf (W := 1) (rm1 l Z aw hw [] b1 off off (0 : Int64) (0 : UInt64) (0 : UInt64) (FP.i2d i3) tg (.long (0 : Int64)) (.long (0 : Int64)) (.long (0 : Int64)) (.double (0 : UInt64)) (.double (0 : UInt64)) (.double (0 : UInt64)) (.double (0 : UInt64)) h4 n0 ZZ E_b1 F_offered_b1 F_accepted_b1 F_rejected_b1 F_meanResponseTime_b1 F_meanInSystem_b1 F_workerSeconds_b1 F_targetSeconds_b1 g_b1) hZ (hw _ (List.mem_of_getElem? (i := 6) rfl)) (hw _ (List.mem_of_getElem? (i := 3) rfl)) (by decide) (by decide)) (g := (mkF m 43 #[.val (.long off), .second, .val (.int i2), .val (.int i3), .val (.int i4), .val (.int i5), .val (.int md), .val (.double tg), .second, .unset, .unset, .unset, .unset, .unset, .unset, .unset, .unset, .unset] [(.double tg), (.double (FP.i2d i3)), (.double (0 : UInt64)), (.double (0 : UInt64)), (.long (0 : Int64)), (.long off), (.long off), (.ref b1), (.ref b1)])) rfl (by rw [hml]; rfl) (Steps.refl _) (a := b1) (argsL := [(.long off), (.long off), (.long (0 : Int64)), (.double (0 : UInt64)), (.double (0 : UInt64)), (.double (FP.i2d i3)), (.double tg)]) (rest := [(.ref b1)]) (lenOf pd_1 rfl) rfl (by show 2 * 0 + _ ≤ _; exact Nat.le_of_eq rfl) (hb hby at_43) (fun _ _ => ⟨rfl, e4, (by decide : 1 + 0 ≤ _), (by decide : 7 + 0 ≤ _)⟩)
    dsimp only [Pt.U, Pt.locs, Pt.cells, Pt.slots] at X5 l5 y5 z5 st5 hQ5
    subst l5 y5 z5
    obtain ⟨h5, e5⟩ : ∃ q, T5.heap = q := ⟨_, rfl⟩
    rw [e5] at hQ5
    obtain ⟨rfl, N5q, K5q, E_b1', F_offered_b1', F_accepted_b1', F_rejected_b1', F_meanResponseTime_b1', F_meanInSystem_b1', F_workerSeconds_b1', F_targetSeconds_b1'⟩ := hQ5
    have N5 := Fr.app N0 N5q
    replace E_b1 := E_b1.keep K5q
    replace ZZ := Nat.le_trans ZZ K5q.1
    replace E_b1 := E_b1'
    have F_offered_b1 := F_offered_b1'
    have F_accepted_b1 := F_accepted_b1'
    have F_rejected_b1 := F_rejected_b1'
    have F_meanResponseTime_b1 := F_meanResponseTime_b1'
    have F_meanInSystem_b1 := F_meanInSystem_b1'
    have F_workerSeconds_b1 := F_workerSeconds_b1'
    have F_targetSeconds_b1 := F_targetSeconds_b1'
    refine Go.on (fun _ k => st5.trans k) ?_
    show Go _ _ _ _ _ _ _ _ (mkF m 46 #[.val (.long off), .second, .val (.int i2), .val (.int i3), .val (.int i4), .val (.int i5), .val (.int md), .val (.double tg), .second, .unset, .unset, .unset, .unset, .unset, .unset, .unset, .unset, .unset] [(.ref b1)])
    refine Go.on (fun _ k => XS.astore X5.here hx rfl (hb hby at_46) rfl rfl (l' := #[.val (.long off), .second, .val (.int i2), .val (.int i3), .val (.int i4), .val (.int i5), .val (.int md), .val (.double tg), .second, .val (.ref b1), .unset, .unset, .unset, .unset, .unset, .unset, .unset, .unset]) rfl k) ?_
    show Go _ _ _ _ _ _ _ _ (mkF m 48 #[.val (.long off), .second, .val (.int i2), .val (.int i3), .val (.int i4), .val (.int i5), .val (.int md), .val (.double tg), .second, .val (.ref b1), .unset, .unset, .unset, .unset, .unset, .unset, .unset, .unset] [])
    refine Go.on (fun _ k => XS.aload X5.here hx rfl (hb hby at_48) rfl rfl k) ?_
    show Go _ _ _ _ _ _ _ _ (mkF m 50 #[.val (.long off), .second, .val (.int i2), .val (.int i3), .val (.int i4), .val (.int i5), .val (.int md), .val (.double tg), .second, .val (.ref b1), .unset, .unset, .unset, .unset, .unset, .unset, .unset, .unset] [(.ref b1)])
    obtain ⟨cq6, kq6, q6a, q6b, q6c⟩ := isOf hZ e5 E_b1
    obtain ⟨_, _, ⟨T6, L6, k6, n6⟩, -, X6, ⟨Lc6, hQ6, l6, y6, z6⟩, st6⟩ := X5.virtualBack hx (y := (⟨"com/example/deliberate_scaler/deliberatescaler/model/Simulation$Outcome", "relativeLag", "()D"⟩ : MethodName)) (z := (⟨"com/example/deliberate_scaler/deliberatescaler/model/Simulation$Outcome", "relativeLag", "()D"⟩ : MethodName)) hown (mvT hZ (hw _ (List.mem_of_getElem? (i := 29) rfl))) (mvT hZ (hw _ (List.mem_of_getElem? (i := 30) rfl))) (notFace_of_selects (args := #[]) (mvT hZ (hw _ (List.mem_of_getElem? (i := 32) rfl)))) (mvT hZ (hw _ (List.mem_of_getElem? (i := 32) rfl))) (mvT hZ (hw _ (List.mem_of_getElem? (i := 31) rfl))) (by decide) (backOf (W := 0) (rm4 l Z aw hw [] b1 (FP.i2d i3) tg h5 n0 ZZ F_workerSeconds_b1 F_targetSeconds_b1 (own_l1 (Jvm.FP.Core.i2d_fin i3) (own_tgfin htg)) (own_l2 (Jvm.FP.Core.i2d_fin i3) (own_tgfin htg))) hZ (hw _ (List.mem_of_getElem? (i := 33) rfl)) (hw _ (List.mem_of_getElem? (i := 3) rfl)) (by decide) (by decide)) q6a q6c (g := (mkF m 50 #[.val (.long off), .second, .val (.int i2), .val (.int i3), .val (.int i4), .val (.int i5), .val (.int md), .val (.double tg), .second, .val (.ref b1), .unset, .unset, .unset, .unset, .unset, .unset, .unset, .unset] [(.ref b1)])) rfl (by rw [hml]; rfl) (Steps.refl _) (argsL := []) (rest := []) (lenOf pd_2 rfl) rfl (by show 2 * 0 + _ ≤ _; exact Nat.le_of_eq rfl) (hb hby at_50) (fun _ _ => ⟨rfl, e5, (by decide : 1 + 0 ≤ _), (by decide : 7 + 0 ≤ _)⟩)
    dsimp only [Pt.U, Pt.locs, Pt.cells, Pt.slots] at X6 l6 y6 z6 st6 hQ6
    subst l6 y6 z6
    obtain ⟨rfl, N6q, e6⟩ := hQ6
    have N6 := Fr.app N5 N6q
    refine Go.on (fun _ k => st6.trans k) ?_
    show Go _ _ _ _ _ _ _ _ (mkF m 53 #[.val (.long off), .second, .val (.int i2), .val (.int i3), .val (.int i4), .val (.int i5), .val (.int md), .val (.double tg), .second, .val (.ref b1), .unset, .unset, .unset, .unset, .unset, .unset, .unset, .unset] [(.double (lagV (FP.i2d i3) tg))])
    generalize hlag : (lagV (FP.i2d i3) tg) = lag
    show Go _ _ _ _ _ _ _ _ (mkF m 53 #[.val (.long off), .second, .val (.int i2), .val (.int i3), .val (.int i4), .val (.int i5), .val (.int md), .val (.double tg), .second, .val (.ref b1), .unset, .unset, .unset, .unset, .unset, .unset, .unset, .unset] [(.double lag)])
    refine Go.on (fun _ k => XS.dconst0 X6.here hx rfl (v := (0 : UInt64)) (hb hby at_53) rfl k) ?_
    show Go _ _ _ _ _ _ _ _ (mkF m 54 #[.val (.long off), .second, .val (.int i2), .val (.int i3), .val (.int i4), .val (.int i5), .val (.int md), .val (.double tg), .second, .val (.ref b1), .unset, .unset, .unset, .unset, .unset, .unset, .unset, .unset] [(.double (0 : UInt64)), (.double lag)])
    refine Go.on (fun _ k => XS.dcmpS X6.here hx rfl (hb hby at_54) rfl rfl k) ?_
    show Go _ _ _ _ _ _ _ _ (mkF m 55 #[.val (.long off), .second, .val (.int i2), .val (.int i3), .val (.int i4), .val (.int i5), .val (.int md), .val (.double tg), .second, .val (.ref b1), .unset, .unset, .unset, .unset, .unset, .unset, .unset, .unset] [(.int (cmpValue (FP.dcmp lag (0 : UInt64)) .l))])
    suffices hJ8 : ∀ (v7 : Int32), v7 = (if (cmpValue (FP.dcmp lag (0 : UInt64)) .l) = (0 : Int32) then (1 : Int32) else (0 : Int32)) → Go p e below s K1 K2 QQ T6 (mkF m 63 #[.val (.long off), .second, .val (.int i2), .val (.int i3), .val (.int i4), .val (.int i5), .val (.int md), .val (.double tg), .second, .val (.ref b1), .unset, .unset, .unset, .unset, .unset, .unset, .unset, .unset] [(.int v7)]) by
      by_cases hc9 : (cmpValue (FP.dcmp lag (0 : UInt64)) .l) = (0 : Int32)
      · -- pc 55 yes
        refine Go.on (fun _ k => XS.ifNo X6.here hx rfl (hb hby at_55) rfl ((if0 _ _).trans (teq hc9).2) k) ?_
        show Go _ _ _ _ _ _ _ _ (mkF m 58 #[.val (.long off), .second, .val (.int i2), .val (.int i3), .val (.int i4), .val (.int i5), .val (.int md), .val (.double tg), .second, .val (.ref b1), .unset, .unset, .unset, .unset, .unset, .unset, .unset, .unset] [])
        refine Go.on (fun _ k => XS.iconst X6.here hx rfl (hb hby at_58) k) ?_
        show Go _ _ _ _ _ _ _ _ (mkF m 59 #[.val (.long off), .second, .val (.int i2), .val (.int i3), .val (.int i4), .val (.int i5), .val (.int md), .val (.double tg), .second, .val (.ref b1), .unset, .unset, .unset, .unset, .unset, .unset, .unset, .unset] [(.int (1 : Int32))])
        refine Go.on (fun _ k => XS.goto X6.here hx rfl (pc0 := 59) (pc' := 63) rfl (hb hby at_59) (by decide) (by decide) k) ?_
        show Go _ _ _ _ _ _ _ _ (mkF m 63 #[.val (.long off), .second, .val (.int i2), .val (.int i3), .val (.int i4), .val (.int i5), .val (.int md), .val (.double tg), .second, .val (.ref b1), .unset, .unset, .unset, .unset, .unset, .unset, .unset, .unset] [(.int (1 : Int32))])
        exact hJ8 _ (by rw [if_pos hc9])
      · -- pc 55 no
        refine Go.on (fun _ k => XS.ifYes X6.here hx rfl (pc0 := 55) (pc' := 62) rfl (hb hby at_55) rfl ((if0 _ _).trans (feq hc9).2) (by decide) (by decide) k) ?_
        show Go _ _ _ _ _ _ _ _ (mkF m 62 #[.val (.long off), .second, .val (.int i2), .val (.int i3), .val (.int i4), .val (.int i5), .val (.int md), .val (.double tg), .second, .val (.ref b1), .unset, .unset, .unset, .unset, .unset, .unset, .unset, .unset] [])
        refine Go.on (fun _ k => XS.iconst X6.here hx rfl (hb hby at_62) k) ?_
        show Go _ _ _ _ _ _ _ _ (mkF m 63 #[.val (.long off), .second, .val (.int i2), .val (.int i3), .val (.int i4), .val (.int i5), .val (.int md), .val (.double tg), .second, .val (.ref b1), .unset, .unset, .unset, .unset, .unset, .unset, .unset, .unset] [(.int (0 : Int32))])
        exact hJ8 _ (by rw [if_neg hc9])
    intro v7 hv7
    refine Go.retN X6 hx (t := .boolean) Bd.returns (by simp) (hb hby at_63) ?_ (by rw [hK1]; decide) (by rw [hK2]; decide)
    rw [e6, ← hQQ]
    have hres : v7 = 1 := own_pure0 htg hlag hv7
    rw [hres]
    exact ⟨rfl, N6⟩
  · -- pc 7 no
    refine Go.on (fun _ k => XS.ifNo X0.here hx rfl (hb hby at_7) rfl ((if0 _ _).trans (feq hc1).1) k) ?_
    show Go _ _ _ _ _ _ _ _ (mkF m 10 #[.val (.long off), .second, .val (.int i2), .val (.int i3), .val (.int i4), .val (.int i5), .val (.int md), .unset, .unset, .unset, .unset, .unset, .unset, .unset, .unset, .unset, .unset, .unset] [])
    refine Go.on (fun _ k => XS.iload X0.here hx rfl (hb hby at_10) rfl k) ?_
    show Go _ _ _ _ _ _ _ _ (mkF m 12 #[.val (.long off), .second, .val (.int i2), .val (.int i3), .val (.int i4), .val (.int i5), .val (.int md), .unset, .unset, .unset, .unset, .unset, .unset, .unset, .unset, .unset, .unset, .unset] [(.int md)])
    refine Go.on (fun _ k => XS.iconst X0.here hx rfl (hb hby at_12) k) ?_
    show Go _ _ _ _ _ _ _ _ (mkF m 13 #[.val (.long off), .second, .val (.int i2), .val (.int i3), .val (.int i4), .val (.int i5), .val (.int md), .unset, .unset, .unset, .unset, .unset, .unset, .unset, .unset, .unset, .unset, .unset] [(.int (1 : Int32)), (.int md)])
    by_cases hc10 : md = (1 : Int32)
    · -- pc 13 yes
      refine Go.on (fun _ k => XS.icmpNo X0.here hx rfl (hb hby at_13) rfl (teq hc10).2 k) ?_
      show Go _ _ _ _ _ _ _ _ (mkF m 16 #[.val (.long off), .second, .val (.int i2), .val (.int i3), .val (.int i4), .val (.int i5), .val (.int md), .unset, .unset, .unset, .unset, .unset, .unset, .unset, .unset, .unset, .unset, .unset] [])
      refine Go.on (fun _ k => XS.iload X0.here hx rfl (hb hby at_16) rfl k) ?_
      show Go _ _ _ _ _ _ _ _ (mkF m 18 #[.val (.long off), .second, .val (.int i2), .val (.int i3), .val (.int i4), .val (.int i5), .val (.int md), .unset, .unset, .unset, .unset, .unset, .unset, .unset, .unset, .unset, .unset, .unset] [(.int md)])
      suffices hJ11 : ∀ (tg : UInt64), tg = (if md = (0 : Int32) then (0 : UInt64) else (9223372036854775808 : UInt64)) → Go p e below s K1 K2 QQ s₁ (mkF m 28 #[.val (.long off), .second, .val (.int i2), .val (.int i3), .val (.int i4), .val (.int i5), .val (.int md), .unset, .unset, .unset, .unset, .unset, .unset, .unset, .unset, .unset, .unset, .unset] [(.double tg)]) by
        by_cases hc12 : md = (0 : Int32)
        · -- pc 18 yes
          refine Go.on (fun _ k => XS.ifNo X0.here hx rfl (hb hby at_18) rfl ((if0 _ _).trans (teq hc12).2) k) ?_
          show Go _ _ _ _ _ _ _ _ (mkF m 21 #[.val (.long off), .second, .val (.int i2), .val (.int i3), .val (.int i4), .val (.int i5), .val (.int md), .unset, .unset, .unset, .unset, .unset, .unset, .unset, .unset, .unset, .unset, .unset] [])
          refine Go.on (fun _ k => XS.dconst0 X0.here hx rfl (v := (0 : UInt64)) (hb hby at_21) rfl k) ?_
          show Go _ _ _ _ _ _ _ _ (mkF m 22 #[.val (.long off), .second, .val (.int i2), .val (.int i3), .val (.int i4), .val (.int i5), .val (.int md), .unset, .unset, .unset, .unset, .unset, .unset, .unset, .unset, .unset, .unset, .unset] [(.double (0 : UInt64))])
          refine Go.on (fun _ k => XS.goto X0.here hx rfl (pc0 := 22) (pc' := 28) rfl (hb hby at_22) (by decide) (by decide) k) ?_
          show Go _ _ _ _ _ _ _ _ (mkF m 28 #[.val (.long off), .second, .val (.int i2), .val (.int i3), .val (.int i4), .val (.int i5), .val (.int md), .unset, .unset, .unset, .unset, .unset, .unset, .unset, .unset, .unset, .unset, .unset] [(.double (0 : UInt64))])
          exact hJ11 _ (by rw [if_pos hc12])
        · -- pc 18 no
          refine Go.on (fun _ k => XS.ifYes X0.here hx rfl (pc0 := 18) (pc' := 25) rfl (hb hby at_18) rfl ((if0 _ _).trans (feq hc12).2) (by decide) (by decide) k) ?_
          show Go _ _ _ _ _ _ _ _ (mkF m 25 #[.val (.long off), .second, .val (.int i2), .val (.int i3), .val (.int i4), .val (.int i5), .val (.int md), .unset, .unset, .unset, .unset, .unset, .unset, .unset, .unset, .unset, .unset, .unset] [])
          refine Go.on (X0.ldc2DoubleC hx hown (mvT hZ (hw _ (List.mem_of_getElem? (i := 34) rfl))) (g := (mkF m 25 #[.val (.long off), .second, .val (.int i2), .val (.int i3), .val (.int i4), .val (.int i5), .val (.int md), .unset, .unset, .unset, .unset, .unset, .unset, .unset, .unset, .unset, .unset, .unset] [])) rfl (hb hby at_25)) ?_
          show Go _ _ _ _ _ _ _ _ (mkF m 28 #[.val (.long off), .second, .val (.int i2), .val (.int i3), .val (.int i4), .val (.int i5), .val (.int md), .unset, .unset, .unset, .unset, .unset, .unset, .unset, .unset, .unset, .unset, .unset] [(.double (9223372036854775808 : UInt64))])
          exact hJ11 _ (by rw [if_neg hc12])
      intro tg htg
      refine Go.on (fun _ k => XS.dstore X0.here hx rfl (hb hby at_28) rfl (l' := #[.val (.long off), .second, .val (.int i2), .val (.int i3), .val (.int i4), .val (.int i5), .val (.int md), .val (.double tg), .second, .unset, .unset, .unset, .unset, .unset, .unset, .unset, .unset, .unset]) rfl k) ?_
      show Go _ _ _ _ _ _ _ _ (mkF m 30 #[.val (.long off), .second, .val (.int i2), .val (.int i3), .val (.int i4), .val (.int i5), .val (.int md), .val (.double tg), .second, .unset, .unset, .unset, .unset, .unset, .unset, .unset, .unset, .unset] [])
      obtain ⟨T13, h13, X13, e13, E13, A13, D13, -, st13⟩ := newO X0 hx hZ hown (hw _ (List.mem_of_getElem? (i := 1) rfl)) (hw _ (List.mem_of_getElem? (i := 2) rfl)) (hw _ (List.mem_of_getElem? (i := 3) rfl)) e0 (g := (mkF m 30 #[.val (.long off), .second, .val (.int i2), .val (.int i3), .val (.int i4), .val (.int i5), .val (.int md), .val (.double tg), .second, .unset, .unset, .unset, .unset, .unset, .unset, .unset, .unset, .unset] [])) rfl (hb hby at_30) (by decide) (by decide)
      obtain ⟨b1, g13⟩ : ∃ z, z = h0.size := ⟨_, rfl⟩
      have g_b1 : n0 ≤ b1 := Nat.le_trans ZZ (Nat.le_of_eq g13.symm)
      rw [← g13] at A13 D13 st13
      replace ZZ := Nat.le_trans ZZ E13.1
      have E_b1 := A13
      have F_offered_b1 : Fld Z h13 b1 "com/example/deliberate_scaler/deliberatescaler/model/Simulation$Outcome" "offered" "J" (.long (0 : Int64)) := D13 (Or.inr (hw _ (List.mem_of_getElem? (i := 16) rfl))) (ty := .long) (by decide)
      have F_accepted_b1 : Fld Z h13 b1 "com/example/deliberate_scaler/deliberatescaler/model/Simulation$Outcome" "accepted" "J" (.long (0 : Int64)) := D13 (Or.inr (hw _ (List.mem_of_getElem? (i := 18) rfl))) (ty := .long) (by decide)
      have F_rejected_b1 : Fld Z h13 b1 "com/example/deliberate_scaler/deliberatescaler/model/Simulation$Outcome" "rejected" "J" (.long (0 : Int64)) := D13 (Or.inr (hw _ (List.mem_of_getElem? (i := 20) rfl))) (ty := .long) (by decide)
      have F_meanResponseTime_b1 : Fld Z h13 b1 "com/example/deliberate_scaler/deliberatescaler/model/Simulation$Outcome" "meanResponseTime" "D" (.double (0 : UInt64)) := D13 (Or.inr (hw _ (List.mem_of_getElem? (i := 22) rfl))) (ty := .double) (by decide)
      have F_meanInSystem_b1 : Fld Z h13 b1 "com/example/deliberate_scaler/deliberatescaler/model/Simulation$Outcome" "meanInSystem" "D" (.double (0 : UInt64)) := D13 (Or.inr (hw _ (List.mem_of_getElem? (i := 24) rfl))) (ty := .double) (by decide)
      have F_workerSeconds_b1 : Fld Z h13 b1 "com/example/deliberate_scaler/deliberatescaler/model/Simulation$Outcome" "workerSeconds" "D" (.double (0 : UInt64)) := D13 (Or.inr (hw _ (List.mem_of_getElem? (i := 26) rfl))) (ty := .double) (by decide)
      have F_targetSeconds_b1 : Fld Z h13 b1 "com/example/deliberate_scaler/deliberatescaler/model/Simulation$Outcome" "targetSeconds" "D" (.double (0 : UInt64)) := D13 (Or.inr (hw _ (List.mem_of_getElem? (i := 28) rfl))) (ty := .double) (by decide)
      refine Go.on st13 ?_
      show Go _ _ _ _ _ _ _ _ (mkF m 33 #[.val (.long off), .second, .val (.int i2), .val (.int i3), .val (.int i4), .val (.int i5), .val (.int md), .val (.double tg), .second, .unset, .unset, .unset, .unset, .unset, .unset, .unset, .unset, .unset] [(.ref b1)])
      refine Go.on (fun _ k => XS.dup X13.here hx rfl (hb hby at_33) rfl rfl k) ?_
      show Go _ _ _ _ _ _ _ _ (mkF m 34 #[.val (.long off), .second, .val (.int i2), .val (.int i3), .val (.int i4), .val (.int i5), .val (.int md), .val (.double tg), .second, .unset, .unset, .unset, .unset, .unset, .unset, .unset, .unset, .unset] [(.ref b1), (.ref b1)])
      refine Go.on (fun _ k => XS.lloadN X13.here hx rfl (hb hby at_34) rfl k) ?_
      show Go _ _ _ _ _ _ _ _ (mkF m 35 #[.val (.long off), .second, .val (.int i2), .val (.int i3), .val (.int i4), .val (.int i5), .val (.int md), .val (.double tg), .second, .unset, .unset, .unset, .unset, .unset, .unset, .unset, .unset, .unset] [(.long off), (.ref b1), (.ref b1)])
      refine Go.on (fun _ k => XS.lloadN X13.here hx rfl (hb hby at_35) rfl k) ?_
      show Go _ _ _ _ _ _ _ _ (mkF m 36 #[.val (.long off), .second, .val (.int i2), .val (.int i3), .val (.int i4), .val (.int i5), .val (.int md), .val (.double tg), .second, .unset, .unset, .unset, .unset, .unset, .unset, .unset, .unset, .unset] [(.long off), (.long off), (.ref b1), (.ref b1)])
      refine Go.on (fun _ k => XS.lconst X13.here hx rfl (hb hby at_36) k) ?_
      show Go _ _ _ _ _ _ _ _ (mkF m 37 #[.val (.long off), .second, .val (.int i2), .val (.int i3), .val (.int i4), .val (.int i5), .val (.int md), .val (.double tg), .second, .unset, .unset, .unset, .unset, .unset, .unset, .unset, .unset, .unset] [(.long (0 : Int64)), (.long off), (.long off), (.ref b1), (.ref b1)])
      refine Go.on (fun _ k => XS.dconst0 X13.here hx rfl (v := (0 : UInt64)) (hb hby at_37) rfl k) ?_
      show Go _ _ _ _ _ _ _ _ (mkF m 38 #[.val (.long off), .second, .val (.int i2), .val (.int i3), .val (.int i4), .val (.int i5), .val (.int md), .val (.double tg), .second, .unset, .unset, .unset, .unset, .unset, .unset, .unset, .unset, .unset] [(.double (0 : UInt64)), (.long (0 : Int64)), (.long off), (.long off), (.ref b1), (.ref b1)])
      refine Go.on (fun _ k => XS.dconst0 X13.here hx rfl (v := (0 : UInt64)) (hb hby at_38) rfl k) ?_
      show Go _ _ _ _ _ _ _ _ (mkF m 39 #[.val (.long off), .second, .val (.int i2), .val (.int i3), .val (.int i4), .val (.int i5), .val (.int md), .val (.double tg), .second, .unset, .unset, .unset, .unset, .unset, .unset, .unset, .unset, .unset] [(.double (0 : UInt64)), (.double (0 : UInt64)), (.long (0 : Int64)), (.long off), (.long off), (.ref b1), (.ref b1)])
      refine Go.on (fun _ k => XS.iloadN X13.here hx rfl (hb hby at_39) rfl k) ?_
      show Go _ _ _ _ _ _ _ _ (mkF m 40 #[.val (.long off), .second, .val (.int i2), .val (.int i3), .val (.int i4), .val (.int i5), .val (.int md), .val (.double tg), .second, .unset, .unset, .unset, .unset, .unset, .unset, .unset, .unset, .unset] [(.int i3), (.double (0 : UInt64)), (.double (0 : UInt64)), (.long (0 : Int64)), (.long off), (.long off), (.ref b1), (.ref b1)])
      refine Go.on (fun _ k => XS.i2dS X13.here hx rfl (hb hby at_40) rfl rfl k) ?_
      show Go _ _ _ _ _ _ _ _ (mkF m 41 #[.val (.long off), .second, .val (.int i2), .val (.int i3), .val (.int i4), .val (.int i5), .val (.int md), .val (.double tg), .second, .unset, .unset, .unset, .unset, .unset, .unset, .unset, .unset, .unset] [(.double (FP.i2d i3)), (.double (0 : UInt64)), (.double (0 : UInt64)), (.long (0 : Int64)), (.long off), (.long off), (.ref b1), (.ref b1)])
      refine Go.on (fun _ k => XS.dload X13.here hx rfl (hb hby at_41) rfl k) ?_
      show Go _ _ _ _ _ _ _ _ (mkF m 43 #[.val (.long off), .second, .val (.int i2), .val (.int i3), .val (.int i4), .val (.int i5), .val (.int md), .val (.double tg), .second, .unset, .unset, .unset, .unset, .unset, .unset, .unset, .unset, .unset] [(.double tg), (.double (FP.i2d i3)), (.double (0 : UInt64)), (.double (0 : UInt64)), (.long (0 : Int64)), (.long off), (.long off), (.ref b1), (.ref b1)])
      obtain ⟨_, _, ⟨T14, L14, k14, n14⟩, -, X14, ⟨Lc14, hQ14, l14, y14, z14⟩, st14⟩ := X13.specialBack hx (y := (⟨"com/example/deliberate_scaler/deliberatescaler/model/Simulation$Outcome", "<init>", "(JJJDDDD)V"⟩ : MethodName)) rfl hown (mvT hZ (hw _ (List.mem_of_getElem? (i := 4) rfl))) (mvT hZ (hw _ (List.mem_of_getElem? (i := 5) rfl))) (mvT hZ (hw _ (List.mem_of_getElem? (i := 6) rfl))) (by decide) (backOf (W := 1) (rm1 l Z aw hw [] b1 off off (0 : Int64) (0 : UInt64) (0 : UInt64) (FP.i2d i3) tg (.long (0 : Int64)) (.long (0 : Int64)) (.long (0 : Int64)) (.double (0 : UInt64)) (.double (0 : UInt64)) (.double (0 : UInt64)) (.double (0 : UInt64)) h13 n0 ZZ E_b1 F_offered_b1 F_accepted_b1 F_rejected_b1 F_meanResponseTime_b1 F_meanInSystem_b1 F_workerSeconds_b1 F_targetSeconds_b1 g_b1) hZ (hw _ (List.mem_of_getElem? (i := 6) rfl)) (hw _ (List.mem_of_getElem? (i := 3) rfl)) (by decide) (by decide)) (g := (mkF m 43 #[.val (.long off), .second, .val (.int i2), .val (.int i3), .val (.int i4), .val (.int i5), .val (.int md), .val (.double tg), .second, .unset, .unset, .unset, .unset, .unset, .unset, .unset, .unset, .unset] [(.double tg), (.double (FP.i2d i3)), (.double (0 : UInt64)), (.double (0 : UInt64)), (.long (0 : Int64)), (.long off), (.long off), (.ref b1), (.ref b1)])) rfl (by rw [hml]; rfl) (Steps.refl _) (a := b1) (argsL := [(.long off), (.long off), (.long (0 : Int64)), (.double (0 : UInt64)), (.double (0 : UInt64)), (.double (FP.i2d i3)), (.double tg)]) (rest := [(.ref b1)]) (lenOf pd_1 rfl) rfl (by show 2 * 0 + _ ≤ _; exact Nat.le_of_eq rfl) (hb hby at_43) (fun _ _ => ⟨rfl, e13, (by decide : 1 + 0 ≤ _), (by decide : 7 + 0 ≤ _)⟩)
      dsimp only [Pt.U, Pt.locs, Pt.cells, Pt.slots] at X14 l14 y14 z14 st14 hQ14
      subst l14 y14 z14
      obtain ⟨h14, e14⟩ : ∃ q, T14.heap = q := ⟨_, rfl⟩
      rw [e14] at hQ14
      obtain ⟨rfl, N14q, K14q, E_b1', F_offered_b1', F_accepted_b1', F_rejected_b1', F_meanResponseTime_b1', F_meanInSystem_b1', F_workerSeconds_b1', F_targetSeconds_b1'⟩ := hQ14
      have N14 := Fr.app N0 N14q
      replace E_b1 := E_b1.keep K14q
      replace ZZ := Nat.le_trans ZZ K14q.1
      replace E_b1 := E_b1'
      have F_offered_b1 := F_offered_b1'
      have F_accepted_b1 := F_accepted_b1'
      have F_rejected_b1 := F_rejected_b1'
      have F_meanResponseTime_b1 := F_meanResponseTime_b1'
      have F_meanInSystem_b1 := F_meanInSystem_b1'
      have F_workerSeconds_b1 := F_workerSeconds_b1'
      have F_targetSeconds_b1 := F_targetSeconds_b1'
      refine Go.on (fun _ k => st14.trans k) ?_
      show Go _ _ _ _ _ _ _ _ (mkF m 46 #[.val (.long off), .second, .val (.int i2), .val (.int i3), .val (.int i4), .val (.int i5), .val (.int md), .val (.double tg), .second, .unset, .unset, .unset, .unset, .unset, .unset, .unset, .unset, .unset] [(.ref b1)])
      refine Go.on (fun _ k => XS.astore X14.here hx rfl (hb hby at_46) rfl rfl (l' := #[.val (.long off), .second, .val (.int i2), .val (.int i3), .val (.int i4), .val (.int i5), .val (.int md), .val (.double tg), .second, .val (.ref b1), .unset, .unset, .unset, .unset, .unset, .unset, .unset, .unset]) rfl k) ?_
      show Go _ _ _ _ _ _ _ _ (mkF m 48 #[.val (.long off), .second, .val (.int i2), .val (.int i3), .val (.int i4), .val (.int i5), .val (.int md), .val (.double tg), .second, .val (.ref b1), .unset, .unset, .unset, .unset, .unset, .unset, .unset, .unset] [])
      refine Go.on (fun _ k => XS.aload X14.here hx rfl (hb hby at_48) rfl rfl k) ?_
      show Go _ _ _ _ _ _ _ _ (mkF m 50 #[.val (.long off), .second, .val (.int i2), .val (.int i3), .val (.int i4), .val (.int i5), .val (.int md), .val (.double tg), .second, .val (.ref b1), .unset, .unset, .unset, .unset, .unset, .unset, .unset, .unset] [(.ref b1)])
      obtain ⟨cq15, kq15, q15a, q15b, q15c⟩ := isOf hZ e14 E_b1
      obtain ⟨_, _, ⟨T15, L15, k15, n15⟩, -, X15, ⟨Lc15, hQ15, l15, y15, z15⟩, st15⟩ := X14.virtualBack hx (y := (⟨"com/example/deliberate_scaler/deliberatescaler/model/Simulation$Outcome", "relativeLag", "()D"⟩ : MethodName)) (z := (⟨"com/example/deliberate_scaler/deliberatescaler/model/Simulation$Outcome", "relativeLag", "()D"⟩ : MethodName)) hown (mvT hZ (hw _ (List.mem_of_getElem? (i := 29) rfl))) (mvT hZ (hw _ (List.mem_of_getElem? (i := 30) rfl))) (notFace_of_selects (args := #[]) (mvT hZ (hw _ (List.mem_of_getElem? (i := 32) rfl)))) (mvT hZ (hw _ (List.mem_of_getElem? (i := 32) rfl))) (mvT hZ (hw _ (List.mem_of_getElem? (i := 31) rfl))) (by decide) (backOf (W := 0) (rm4 l Z aw hw [] b1 (FP.i2d i3) tg h14 n0 ZZ F_workerSeconds_b1 F_targetSeconds_b1 (own_l1 (Jvm.FP.Core.i2d_fin i3) (own_tgfin htg)) (own_l2 (Jvm.FP.Core.i2d_fin i3) (own_tgfin htg))) hZ (hw _ (List.mem_of_getElem? (i := 33) rfl)) (hw _ (List.mem_of_getElem? (i := 3) rfl)) (by decide) (by decide)) q15a q15c (g := (mkF m 50 #[.val (.long off), .second, .val (.int i2), .val (.int i3), .val (.int i4), .val (.int i5), .val (.int md), .val (.double tg), .second, .val (.ref b1), .unset, .unset, .unset, .unset, .unset, .unset, .unset, .unset] [(.ref b1)])) rfl (by rw [hml]; rfl) (Steps.refl _) (argsL := []) (rest := []) (lenOf pd_2 rfl) rfl (by show 2 * 0 + _ ≤ _; exact Nat.le_of_eq rfl) (hb hby at_50) (fun _ _ => ⟨rfl, e14, (by decide : 1 + 0 ≤ _), (by decide : 7 + 0 ≤ _)⟩)
      dsimp only [Pt.U, Pt.locs, Pt.cells, Pt.slots] at X15 l15 y15 z15 st15 hQ15
      subst l15 y15 z15
      obtain ⟨rfl, N15q, e15⟩ := hQ15
      have N15 := Fr.app N14 N15q
      refine Go.on (fun _ k => st15.trans k) ?_
      show Go _ _ _ _ _ _ _ _ (mkF m 53 #[.val (.long off), .second, .val (.int i2), .val (.int i3), .val (.int i4), .val (.int i5), .val (.int md), .val (.double tg), .second, .val (.ref b1), .unset, .unset, .unset, .unset, .unset, .unset, .unset, .unset] [(.double (lagV (FP.i2d i3) tg))])
      generalize hlag : (lagV (FP.i2d i3) tg) = lag
      show Go _ _ _ _ _ _ _ _ (mkF m 53 #[.val (.long off), .second, .val (.int i2), .val (.int i3), .val (.int i4), .val (.int i5), .val (.int md), .val (.double tg), .second, .val (.ref b1), .unset, .unset, .unset, .unset, .unset, .unset, .unset, .unset] [(.double lag)])
      refine Go.on (fun _ k => XS.dconst0 X15.here hx rfl (v := (0 : UInt64)) (hb hby at_53) rfl k) ?_
      show Go _ _ _ _ _ _ _ _ (mkF m 54 #[.val (.long off), .second, .val (.int i2), .val (.int i3), .val (.int i4), .val (.int i5), .val (.int md), .val (.double tg), .second, .val (.ref b1), .unset, .unset, .unset, .unset, .unset, .unset, .unset, .unset] [(.double (0 : UInt64)), (.double lag)])
      refine Go.on (fun _ k => XS.dcmpS X15.here hx rfl (hb hby at_54) rfl rfl k) ?_
      show Go _ _ _ _ _ _ _ _ (mkF m 55 #[.val (.long off), .second, .val (.int i2), .val (.int i3), .val (.int i4), .val (.int i5), .val (.int md), .val (.double tg), .second, .val (.ref b1), .unset, .unset, .unset, .unset, .unset, .unset, .unset, .unset] [(.int (cmpValue (FP.dcmp lag (0 : UInt64)) .l))])
      suffices hJ17 : ∀ (v16 : Int32), v16 = (if (cmpValue (FP.dcmp lag (0 : UInt64)) .l) = (0 : Int32) then (1 : Int32) else (0 : Int32)) → Go p e below s K1 K2 QQ T15 (mkF m 63 #[.val (.long off), .second, .val (.int i2), .val (.int i3), .val (.int i4), .val (.int i5), .val (.int md), .val (.double tg), .second, .val (.ref b1), .unset, .unset, .unset, .unset, .unset, .unset, .unset, .unset] [(.int v16)]) by
        by_cases hc18 : (cmpValue (FP.dcmp lag (0 : UInt64)) .l) = (0 : Int32)
        · -- pc 55 yes
          refine Go.on (fun _ k => XS.ifNo X15.here hx rfl (hb hby at_55) rfl ((if0 _ _).trans (teq hc18).2) k) ?_
          show Go _ _ _ _ _ _ _ _ (mkF m 58 #[.val (.long off), .second, .val (.int i2), .val (.int i3), .val (.int i4), .val (.int i5), .val (.int md), .val (.double tg), .second, .val (.ref b1), .unset, .unset, .unset, .unset, .unset, .unset, .unset, .unset] [])
          refine Go.on (fun _ k => XS.iconst X15.here hx rfl (hb hby at_58) k) ?_
          show Go _ _ _ _ _ _ _ _ (mkF m 59 #[.val (.long off), .second, .val (.int i2), .val (.int i3), .val (.int i4), .val (.int i5), .val (.int md), .val (.double tg), .second, .val (.ref b1), .unset, .unset, .unset, .unset, .unset, .unset, .unset, .unset] [(.int (1 : Int32))])
          refine Go.on (fun _ k => XS.goto X15.here hx rfl (pc0 := 59) (pc' := 63) rfl (hb hby at_59) (by decide) (by decide) k) ?_
          show Go _ _ _ _ _ _ _ _ (mkF m 63 #[.val (.long off), .second, .val (.int i2), .val (.int i3), .val (.int i4), .val (.int i5), .val (.int md), .val (.double tg), .second, .val (.ref b1), .unset, .unset, .unset, .unset, .unset, .unset, .unset, .unset] [(.int (1 : Int32))])
          exact hJ17 _ (by rw [if_pos hc18])
        · -- pc 55 no
          refine Go.on (fun _ k => XS.ifYes X15.here hx rfl (pc0 := 55) (pc' := 62) rfl (hb hby at_55) rfl ((if0 _ _).trans (feq hc18).2) (by decide) (by decide) k) ?_
          show Go _ _ _ _ _ _ _ _ (mkF m 62 #[.val (.long off), .second, .val (.int i2), .val (.int i3), .val (.int i4), .val (.int i5), .val (.int md), .val (.double tg), .second, .val (.ref b1), .unset, .unset, .unset, .unset, .unset, .unset, .unset, .unset] [])
          refine Go.on (fun _ k => XS.iconst X15.here hx rfl (hb hby at_62) k) ?_
          show Go _ _ _ _ _ _ _ _ (mkF m 63 #[.val (.long off), .second, .val (.int i2), .val (.int i3), .val (.int i4), .val (.int i5), .val (.int md), .val (.double tg), .second, .val (.ref b1), .unset, .unset, .unset, .unset, .unset, .unset, .unset, .unset] [(.int (0 : Int32))])
          exact hJ17 _ (by rw [if_neg hc18])
      intro v16 hv16
      refine Go.retN X15 hx (t := .boolean) Bd.returns (by simp) (hb hby at_63) ?_ (by rw [hK1]; decide) (by rw [hK2]; decide)
      rw [e15, ← hQQ]
      have hres : v16 = 1 := own_pure0 htg hlag hv16
      rw [hres]
      exact ⟨rfl, N15⟩
    · -- pc 13 no
      refine Go.on (fun _ k => XS.icmpYes X0.here hx rfl (pc0 := 13) (pc' := 64) rfl (hb hby at_13) rfl (feq hc10).2 (by decide) (by decide) k) ?_
      show Go _ _ _ _ _ _ _ _ (mkF m 64 #[.val (.long off), .second, .val (.int i2), .val (.int i3), .val (.int i4), .val (.int i5), .val (.int md), .unset, .unset, .unset, .unset, .unset, .unset, .unset, .unset, .unset, .unset, .unset] [])
      refine Go.on (fun _ k => XS.lconst X0.here hx rfl (hb hby at_64) k) ?_
      show Go _ _ _ _ _ _ _ _ (mkF m 65 #[.val (.long off), .second, .val (.int i2), .val (.int i3), .val (.int i4), .val (.int i5), .val (.int md), .unset, .unset, .unset, .unset, .unset, .unset, .unset, .unset, .unset, .unset, .unset] [(.long (1 : Int64))])
      refine Go.on (fun _ k => XS.iload X0.here hx rfl (hb hby at_65) rfl k) ?_
      show Go _ _ _ _ _ _ _ _ (mkF m 67 #[.val (.long off), .second, .val (.int i2), .val (.int i3), .val (.int i4), .val (.int i5), .val (.int md), .unset, .unset, .unset, .unset, .unset, .unset, .unset, .unset, .unset, .unset, .unset] [(.int i4), (.long (1 : Int64))])
      refine Go.on (fun _ k => X0.ldcI hx hown (mvT hZ (hw _ (List.mem_of_getElem? (i := 0) rfl))) rfl (hb hby at_67) k) ?_
      show Go _ _ _ _ _ _ _ _ (mkF m 69 #[.val (.long off), .second, .val (.int i2), .val (.int i3), .val (.int i4), .val (.int i5), .val (.int md), .unset, .unset, .unset, .unset, .unset, .unset, .unset, .unset, .unset, .unset, .unset] [(.int (1073741823 : Int32)), (.int i4), (.long (1 : Int64))])
      refine Go.on (fun _ k => XS.iand X0.here hx rfl (hb hby at_69) rfl k) ?_
      show Go _ _ _ _ _ _ _ _ (mkF m 70 #[.val (.long off), .second, .val (.int i2), .val (.int i3), .val (.int i4), .val (.int i5), .val (.int md), .unset, .unset, .unset, .unset, .unset, .unset, .unset, .unset, .unset, .unset, .unset] [(.int (i4 &&& (1073741823 : Int32))), (.long (1 : Int64))])
      refine Go.on (fun _ k => XS.i2l X0.here hx rfl (hb hby at_70) rfl k) ?_
      show Go _ _ _ _ _ _ _ _ (mkF m 71 #[.val (.long off), .second, .val (.int i2), .val (.int i3), .val (.int i4), .val (.int i5), .val (.int md), .unset, .unset, .unset, .unset, .unset, .unset, .unset, .unset, .unset, .unset, .unset] [(.long ((i4 &&& (1073741823 : Int32)).toInt64)), (.long (1 : Int64))])
      refine Go.on (fun _ k => XS.ladd X0.here hx rfl (hb hby at_71) rfl k) ?_
      show Go _ _ _ _ _ _ _ _ (mkF m 72 #[.val (.long off), .second, .val (.int i2), .val (.int i3), .val (.int i4), .val (.int i5), .val (.int md), .unset, .unset, .unset, .unset, .unset, .unset, .unset, .unset, .unset, .unset, .unset] [(.long ((1 : Int64) + ((i4 &&& (1073741823 : Int32)).toInt64)))])
      refine Go.on (fun _ k => XS.lstore X0.here hx rfl (hb hby at_72) rfl (l' := #[.val (.long off), .second, .val (.int i2), .val (.int i3), .val (.int i4), .val (.int i5), .val (.int md), .val (.long ((1 : Int64) + ((i4 &&& (1073741823 : Int32)).toInt64))), .second, .unset, .unset, .unset, .unset, .unset, .unset, .unset, .unset, .unset]) rfl k) ?_
      show Go _ _ _ _ _ _ _ _ (mkF m 74 #[.val (.long off), .second, .val (.int i2), .val (.int i3), .val (.int i4), .val (.int i5), .val (.int md), .val (.long ((1 : Int64) + ((i4 &&& (1073741823 : Int32)).toInt64))), .second, .unset, .unset, .unset, .unset, .unset, .unset, .unset, .unset, .unset] [])
      generalize ht : ((1 : Int64) + ((i4 &&& (1073741823 : Int32)).toInt64)) = t
      show Go _ _ _ _ _ _ _ _ (mkF m 74 #[.val (.long off), .second, .val (.int i2), .val (.int i3), .val (.int i4), .val (.int i5), .val (.int md), .val (.long t), .second, .unset, .unset, .unset, .unset, .unset, .unset, .unset, .unset, .unset] [])
      refine Go.on (fun _ k => XS.iload X0.here hx rfl (hb hby at_74) rfl k) ?_
      show Go _ _ _ _ _ _ _ _ (mkF m 76 #[.val (.long off), .second, .val (.int i2), .val (.int i3), .val (.int i4), .val (.int i5), .val (.int md), .val (.long t), .second, .unset, .unset, .unset, .unset, .unset, .unset, .unset, .unset, .unset] [(.int i5)])
      refine Go.on (fun _ k => XS.sipush X0.here hx rfl (hb hby at_76) k) ?_
      show Go _ _ _ _ _ _ _ _ (mkF m 79 #[.val (.long off), .second, .val (.int i2), .val (.int i3), .val (.int i4), .val (.int i5), .val (.int md), .val (.long t), .second, .unset, .unset, .unset, .unset, .unset, .unset, .unset, .unset, .unset] [(.int (255 : Int32)), (.int i5)])
      refine Go.on (fun _ k => XS.iand X0.here hx rfl (hb hby at_79) rfl k) ?_
      show Go _ _ _ _ _ _ _ _ (mkF m 80 #[.val (.long off), .second, .val (.int i2), .val (.int i3), .val (.int i4), .val (.int i5), .val (.int md), .val (.long t), .second, .unset, .unset, .unset, .unset, .unset, .unset, .unset, .unset, .unset] [(.int (i5 &&& (255 : Int32)))])
      refine Go.on (fun _ k => XS.istore X0.here hx rfl (hb hby at_80) rfl (l' := #[.val (.long off), .second, .val (.int i2), .val (.int i3), .val (.int i4), .val (.int i5), .val (.int md), .val (.long t), .second, .val (.int (i5 &&& (255 : Int32))), .unset, .unset, .unset, .unset, .unset, .unset, .unset, .unset]) rfl k) ?_
      show Go _ _ _ _ _ _ _ _ (mkF m 82 #[.val (.long off), .second, .val (.int i2), .val (.int i3), .val (.int i4), .val (.int i5), .val (.int md), .val (.long t), .second, .val (.int (i5 &&& (255 : Int32))), .unset, .unset, .unset, .unset, .unset, .unset, .unset, .unset] [])
      generalize hkk : (i5 &&& (255 : Int32)) = kk
      show Go _ _ _ _ _ _ _ _ (mkF m 82 #[.val (.long off), .second, .val (.int i2), .val (.int i3), .val (.int i4), .val (.int i5), .val (.int md), .val (.long t), .second, .val (.int kk), .unset, .unset, .unset, .unset, .unset, .unset, .unset, .unset] [])
      obtain ⟨T19, h19, X19, e19, E19, A19, D19, -, st19⟩ := newO X0 hx hZ hown (hw _ (List.mem_of_getElem? (i := 1) rfl)) (hw _ (List.mem_of_getElem? (i := 2) rfl)) (hw _ (List.mem_of_getElem? (i := 3) rfl)) e0 (g := (mkF m 82 #[.val (.long off), .second, .val (.int i2), .val (.int i3), .val (.int i4), .val (.int i5), .val (.int md), .val (.long t), .second, .val (.int kk), .unset, .unset, .unset, .unset, .unset, .unset, .unset, .unset] [])) rfl (hb hby at_82) (by decide) (by decide)
      obtain ⟨b2, g19⟩ : ∃ z, z = h0.size := ⟨_, rfl⟩
      have g_b2 : n0 ≤ b2 := Nat.le_trans ZZ (Nat.le_of_eq g19.symm)
      rw [← g19] at A19 D19 st19
      replace ZZ := Nat.le_trans ZZ E19.1
      have E_b2 := A19
      have F_offered_b2 : Fld Z h19 b2 "com/example/deliberate_scaler/deliberatescaler/model/Simulation$Outcome" "offered" "J" (.long (0 : Int64)) := D19 (Or.inr (hw _ (List.mem_of_getElem? (i := 16) rfl))) (ty := .long) (by decide)
      have F_accepted_b2 : Fld Z h19 b2 "com/example/deliberate_scaler/deliberatescaler/model/Simulation$Outcome" "accepted" "J" (.long (0 : Int64)) := D19 (Or.inr (hw _ (List.mem_of_getElem? (i := 18) rfl))) (ty := .long) (by decide)
      have F_rejected_b2 : Fld Z h19 b2 "com/example/deliberate_scaler/deliberatescaler/model/Simulation$Outcome" "rejected" "J" (.long (0 : Int64)) := D19 (Or.inr (hw _ (List.mem_of_getElem? (i := 20) rfl))) (ty := .long) (by decide)
      have F_meanResponseTime_b2 : Fld Z h19 b2 "com/example/deliberate_scaler/deliberatescaler/model/Simulation$Outcome" "meanResponseTime" "D" (.double (0 : UInt64)) := D19 (Or.inr (hw _ (List.mem_of_getElem? (i := 22) rfl))) (ty := .double) (by decide)
      have F_meanInSystem_b2 : Fld Z h19 b2 "com/example/deliberate_scaler/deliberatescaler/model/Simulation$Outcome" "meanInSystem" "D" (.double (0 : UInt64)) := D19 (Or.inr (hw _ (List.mem_of_getElem? (i := 24) rfl))) (ty := .double) (by decide)
      have F_workerSeconds_b2 : Fld Z h19 b2 "com/example/deliberate_scaler/deliberatescaler/model/Simulation$Outcome" "workerSeconds" "D" (.double (0 : UInt64)) := D19 (Or.inr (hw _ (List.mem_of_getElem? (i := 26) rfl))) (ty := .double) (by decide)
      have F_targetSeconds_b2 : Fld Z h19 b2 "com/example/deliberate_scaler/deliberatescaler/model/Simulation$Outcome" "targetSeconds" "D" (.double (0 : UInt64)) := D19 (Or.inr (hw _ (List.mem_of_getElem? (i := 28) rfl))) (ty := .double) (by decide)
      refine Go.on st19 ?_
      show Go _ _ _ _ _ _ _ _ (mkF m 85 #[.val (.long off), .second, .val (.int i2), .val (.int i3), .val (.int i4), .val (.int i5), .val (.int md), .val (.long t), .second, .val (.int kk), .unset, .unset, .unset, .unset, .unset, .unset, .unset, .unset] [(.ref b2)])
      refine Go.on (fun _ k => XS.dup X19.here hx rfl (hb hby at_85) rfl rfl k) ?_
      show Go _ _ _ _ _ _ _ _ (mkF m 86 #[.val (.long off), .second, .val (.int i2), .val (.int i3), .val (.int i4), .val (.int i5), .val (.int md), .val (.long t), .second, .val (.int kk), .unset, .unset, .unset, .unset, .unset, .unset, .unset, .unset] [(.ref b2), (.ref b2)])
      refine Go.on (fun _ k => XS.lloadN X19.here hx rfl (hb hby at_86) rfl k) ?_
      show Go _ _ _ _ _ _ _ _ (mkF m 87 #[.val (.long off), .second, .val (.int i2), .val (.int i3), .val (.int i4), .val (.int i5), .val (.int md), .val (.long t), .second, .val (.int kk), .unset, .unset, .unset, .unset, .unset, .unset, .unset, .unset] [(.long off), (.ref b2), (.ref b2)])
      refine Go.on (fun _ k => XS.lloadN X19.here hx rfl (hb hby at_87) rfl k) ?_
      show Go _ _ _ _ _ _ _ _ (mkF m 88 #[.val (.long off), .second, .val (.int i2), .val (.int i3), .val (.int i4), .val (.int i5), .val (.int md), .val (.long t), .second, .val (.int kk), .unset, .unset, .unset, .unset, .unset, .unset, .unset, .unset] [(.long off), (.long off), (.ref b2), (.ref b2)])
      refine Go.on (fun _ k => XS.lconst X19.here hx rfl (hb hby at_88) k) ?_
      show Go _ _ _ _ _ _ _ _ (mkF m 89 #[.val (.long off), .second, .val (.int i2), .val (.int i3), .val (.int i4), .val (.int i5), .val (.int md), .val (.long t), .second, .val (.int kk), .unset, .unset, .unset, .unset, .unset, .unset, .unset, .unset] [(.long (0 : Int64)), (.long off), (.long off), (.ref b2), (.ref b2)])
      refine Go.on (fun _ k => XS.dconst0 X19.here hx rfl (v := (0 : UInt64)) (hb hby at_89) rfl k) ?_
      show Go _ _ _ _ _ _ _ _ (mkF m 90 #[.val (.long off), .second, .val (.int i2), .val (.int i3), .val (.int i4), .val (.int i5), .val (.int md), .val (.long t), .second, .val (.int kk), .unset, .unset, .unset, .unset, .unset, .unset, .unset, .unset] [(.double (0 : UInt64)), (.long (0 : Int64)), (.long off), (.long off), (.ref b2), (.ref b2)])
      refine Go.on (fun _ k => XS.dconst0 X19.here hx rfl (v := (0 : UInt64)) (hb hby at_90) rfl k) ?_
      show Go _ _ _ _ _ _ _ _ (mkF m 91 #[.val (.long off), .second, .val (.int i2), .val (.int i3), .val (.int i4), .val (.int i5), .val (.int md), .val (.long t), .second, .val (.int kk), .unset, .unset, .unset, .unset, .unset, .unset, .unset, .unset] [(.double (0 : UInt64)), (.double (0 : UInt64)), (.long (0 : Int64)), (.long off), (.long off), (.ref b2), (.ref b2)])
      refine Go.on (fun _ k => XS.iload X19.here hx rfl (hb hby at_91) rfl k) ?_
      show Go _ _ _ _ _ _ _ _ (mkF m 93 #[.val (.long off), .second, .val (.int i2), .val (.int i3), .val (.int i4), .val (.int i5), .val (.int md), .val (.long t), .second, .val (.int kk), .unset, .unset, .unset, .unset, .unset, .unset, .unset, .unset] [(.int kk), (.double (0 : UInt64)), (.double (0 : UInt64)), (.long (0 : Int64)), (.long off), (.long off), (.ref b2), (.ref b2)])
      refine Go.on (fun _ k => XS.i2l X19.here hx rfl (hb hby at_93) rfl k) ?_
      show Go _ _ _ _ _ _ _ _ (mkF m 94 #[.val (.long off), .second, .val (.int i2), .val (.int i3), .val (.int i4), .val (.int i5), .val (.int md), .val (.long t), .second, .val (.int kk), .unset, .unset, .unset, .unset, .unset, .unset, .unset, .unset] [(.long (kk.toInt64)), (.double (0 : UInt64)), (.double (0 : UInt64)), (.long (0 : Int64)), (.long off), (.long off), (.ref b2), (.ref b2)])
      refine Go.on (fun _ k => XS.lload X19.here hx rfl (hb hby at_94) rfl k) ?_
      show Go _ _ _ _ _ _ _ _ (mkF m 96 #[.val (.long off), .second, .val (.int i2), .val (.int i3), .val (.int i4), .val (.int i5), .val (.int md), .val (.long t), .second, .val (.int kk), .unset, .unset, .unset, .unset, .unset, .unset, .unset, .unset] [(.long t), (.long (kk.toInt64)), (.double (0 : UInt64)), (.double (0 : UInt64)), (.long (0 : Int64)), (.long off), (.long off), (.ref b2), (.ref b2)])
      refine Go.on (fun _ k => XS.lmul X19.here hx rfl (hb hby at_96) rfl k) ?_
      show Go _ _ _ _ _ _ _ _ (mkF m 97 #[.val (.long off), .second, .val (.int i2), .val (.int i3), .val (.int i4), .val (.int i5), .val (.int md), .val (.long t), .second, .val (.int kk), .unset, .unset, .unset, .unset, .unset, .unset, .unset, .unset] [(.long ((kk.toInt64) * t)), (.double (0 : UInt64)), (.double (0 : UInt64)), (.long (0 : Int64)), (.long off), (.long off), (.ref b2), (.ref b2)])
      refine Go.on (fun _ k => XS.l2dS X19.here hx rfl (hb hby at_97) rfl rfl k) ?_
      show Go _ _ _ _ _ _ _ _ (mkF m 98 #[.val (.long off), .second, .val (.int i2), .val (.int i3), .val (.int i4), .val (.int i5), .val (.int md), .val (.long t), .second, .val (.int kk), .unset, .unset, .unset, .unset, .unset, .unset, .unset, .unset] [(.double (FP.l2d ((kk.toInt64) * t))), (.double (0 : UInt64)), (.double (0 : UInt64)), (.long (0 : Int64)), (.long off), (.long off), (.ref b2), (.ref b2)])
      refine Go.on (fun _ k => XS.lload X19.here hx rfl (hb hby at_98) rfl k) ?_
      show Go _ _ _ _ _ _ _ _ (mkF m 100 #[.val (.long off), .second, .val (.int i2), .val (.int i3), .val (.int i4), .val (.int i5), .val (.int md), .val (.long t), .second, .val (.int kk), .unset, .unset, .unset, .unset, .unset, .unset, .unset, .unset] [(.long t), (.double (FP.l2d ((kk.toInt64) * t))), (.double (0 : UInt64)), (.double (0 : UInt64)), (.long (0 : Int64)), (.long off), (.long off), (.ref b2), (.ref b2)])
      refine Go.on (fun _ k => XS.l2dS X19.here hx rfl (hb hby at_100) rfl rfl k) ?_
      show Go _ _ _ _ _ _ _ _ (mkF m 101 #[.val (.long off), .second, .val (.int i2), .val (.int i3), .val (.int i4), .val (.int i5), .val (.int md), .val (.long t), .second, .val (.int kk), .unset, .unset, .unset, .unset, .unset, .unset, .unset, .unset] [(.double (FP.l2d t)), (.double (FP.l2d ((kk.toInt64) * t))), (.double (0 : UInt64)), (.double (0 : UInt64)), (.long (0 : Int64)), (.long off), (.long off), (.ref b2), (.ref b2)])
      obtain ⟨_, _, ⟨T20, L20, k20, n20⟩, -, X20, ⟨Lc20, hQ20, l20, y20, z20⟩, st20⟩ := X19.specialBack hx (y := (⟨"com/example/deliberate_scaler/deliberatescaler/model/Simulation$Outcome", "<init>", "(JJJDDDD)V"⟩ : MethodName)) rfl hown (mvT hZ (hw _ (List.mem_of_getElem? (i := 4) rfl))) (mvT hZ (hw _ (List.mem_of_getElem? (i := 5) rfl))) (mvT hZ (hw _ (List.mem_of_getElem? (i := 6) rfl))) (by decide) (backOf (W := 1) (rm1 l Z aw hw [] b2 off off (0 : Int64) (0 : UInt64) (0 : UInt64) (FP.l2d ((kk.toInt64) * t)) (FP.l2d t) (.long (0 : Int64)) (.long (0 : Int64)) (.long (0 : Int64)) (.double (0 : UInt64)) (.double (0 : UInt64)) (.double (0 : UInt64)) (.double (0 : UInt64)) h19 n0 ZZ E_b2 F_offered_b2 F_accepted_b2 F_rejected_b2 F_meanResponseTime_b2 F_meanInSystem_b2 F_workerSeconds_b2 F_targetSeconds_b2 g_b2) hZ (hw _ (List.mem_of_getElem? (i := 6) rfl)) (hw _ (List.mem_of_getElem? (i := 3) rfl)) (by decide) (by decide)) (g := (mkF m 101 #[.val (.long off), .second, .val (.int i2), .val (.int i3), .val (.int i4), .val (.int i5), .val (.int md), .val (.long t), .second, .val (.int kk), .unset, .unset, .unset, .unset, .unset, .unset, .unset, .unset] [(.double (FP.l2d t)), (.double (FP.l2d ((kk.toInt64) * t))), (.double (0 : UInt64)), (.double (0 : UInt64)), (.long (0 : Int64)), (.long off), (.long off), (.ref b2), (.ref b2)])) rfl (by rw [hml]; rfl) (Steps.refl _) (a := b2) (argsL := [(.long off), (.long off), (.long (0 : Int64)), (.double (0 : UInt64)), (.double (0 : UInt64)), (.double (FP.l2d ((kk.toInt64) * t))), (.double (FP.l2d t))]) (rest := [(.ref b2)]) (lenOf pd_1 rfl) rfl (by show 2 * 0 + _ ≤ _; exact Nat.le_of_eq rfl) (hb hby at_101) (fun _ _ => ⟨rfl, e19, (by decide : 1 + 0 ≤ _), (by decide : 7 + 0 ≤ _)⟩)
      dsimp only [Pt.U, Pt.locs, Pt.cells, Pt.slots] at X20 l20 y20 z20 st20 hQ20
      subst l20 y20 z20
      obtain ⟨h20, e20⟩ : ∃ q, T20.heap = q := ⟨_, rfl⟩
      rw [e20] at hQ20
      obtain ⟨rfl, N20q, K20q, E_b2', F_offered_b2', F_accepted_b2', F_rejected_b2', F_meanResponseTime_b2', F_meanInSystem_b2', F_workerSeconds_b2', F_targetSeconds_b2'⟩ := hQ20
      have N20 := Fr.app N0 N20q
      replace E_b2 := E_b2.keep K20q
      replace ZZ := Nat.le_trans ZZ K20q.1
      replace E_b2 := E_b2'
      have F_offered_b2 := F_offered_b2'
      have F_accepted_b2 := F_accepted_b2'
      have F_rejected_b2 := F_rejected_b2'
      have F_meanResponseTime_b2 := F_meanResponseTime_b2'
      have F_meanInSystem_b2 := F_meanInSystem_b2'
      have F_workerSeconds_b2 := F_workerSeconds_b2'
      have F_targetSeconds_b2 := F_targetSeconds_b2'
      refine Go.on (fun _ k => st20.trans k) ?_
      show Go _ _ _ _ _ _ _ _ (mkF m 104 #[.val (.long off), .second, .val (.int i2), .val (.int i3), .val (.int i4), .val (.int i5), .val (.int md), .val (.long t), .second, .val (.int kk), .unset, .unset, .unset, .unset, .unset, .unset, .unset, .unset] [(.ref b2)])
      refine Go.on (fun _ k => XS.astore X20.here hx rfl (hb hby at_104) rfl rfl (l' := #[.val (.long off), .second, .val (.int i2), .val (.int i3), .val (.int i4), .val (.int i5), .val (.int md), .val (.long t), .second, .val (.int kk), .val (.ref b2), .unset, .unset, .unset, .unset, .unset, .unset, .unset]) rfl k) ?_
      show Go _ _ _ _ _ _ _ _ (mkF m 106 #[.val (.long off), .second, .val (.int i2), .val (.int i3), .val (.int i4), .val (.int i5), .val (.int md), .val (.long t), .second, .val (.int kk), .val (.ref b2), .unset, .unset, .unset, .unset, .unset, .unset, .unset] [])
      refine Go.on (fun _ k => XS.aload X20.here hx rfl (hb hby at_106) rfl rfl k) ?_
      show Go _ _ _ _ _ _ _ _ (mkF m 108 #[.val (.long off), .second, .val (.int i2), .val (.int i3), .val (.int i4), .val (.int i5), .val (.int md), .val (.long t), .second, .val (.int kk), .val (.ref b2), .unset, .unset, .unset, .unset, .unset, .unset, .unset] [(.ref b2)])
      obtain ⟨cq21, kq21, q21a, q21b, q21c⟩ := isOf hZ e20 E_b2
      obtain ⟨_, _, ⟨T21, L21, k21, n21⟩, -, X21, ⟨Lc21, hQ21, l21, y21, z21⟩, st21⟩ := X20.virtualBack hx (y := (⟨"com/example/deliberate_scaler/deliberatescaler/model/Simulation$Outcome", "relativeLag", "()D"⟩ : MethodName)) (z := (⟨"com/example/deliberate_scaler/deliberatescaler/model/Simulation$Outcome", "relativeLag", "()D"⟩ : MethodName)) hown (mvT hZ (hw _ (List.mem_of_getElem? (i := 29) rfl))) (mvT hZ (hw _ (List.mem_of_getElem? (i := 30) rfl))) (notFace_of_selects (args := #[]) (mvT hZ (hw _ (List.mem_of_getElem? (i := 32) rfl)))) (mvT hZ (hw _ (List.mem_of_getElem? (i := 32) rfl))) (mvT hZ (hw _ (List.mem_of_getElem? (i := 31) rfl))) (by decide) (backOf (W := 0) (rm4 l Z aw hw [] b2 (FP.l2d ((kk.toInt64) * t)) (FP.l2d t) h20 n0 ZZ F_workerSeconds_b2 F_targetSeconds_b2 (own_l1 (Jvm.FP.Core.l2d_fin _) (Jvm.FP.Core.l2d_fin _)) (own_l2 (Jvm.FP.Core.l2d_fin _) (Jvm.FP.Core.l2d_fin _))) hZ (hw _ (List.mem_of_getElem? (i := 33) rfl)) (hw _ (List.mem_of_getElem? (i := 3) rfl)) (by decide) (by decide)) q21a q21c (g := (mkF m 108 #[.val (.long off), .second, .val (.int i2), .val (.int i3), .val (.int i4), .val (.int i5), .val (.int md), .val (.long t), .second, .val (.int kk), .val (.ref b2), .unset, .unset, .unset, .unset, .unset, .unset, .unset] [(.ref b2)])) rfl (by rw [hml]; rfl) (Steps.refl _) (argsL := []) (rest := []) (lenOf pd_2 rfl) rfl (by show 2 * 0 + _ ≤ _; exact Nat.le_of_eq rfl) (hb hby at_108) (fun _ _ => ⟨rfl, e20, (by decide : 1 + 0 ≤ _), (by decide : 7 + 0 ≤ _)⟩)
      dsimp only [Pt.U, Pt.locs, Pt.cells, Pt.slots] at X21 l21 y21 z21 st21 hQ21
      subst l21 y21 z21
      obtain ⟨rfl, N21q, e21⟩ := hQ21
      have N21 := Fr.app N20 N21q
      refine Go.on (fun _ k => st21.trans k) ?_
      show Go _ _ _ _ _ _ _ _ (mkF m 111 #[.val (.long off), .second, .val (.int i2), .val (.int i3), .val (.int i4), .val (.int i5), .val (.int md), .val (.long t), .second, .val (.int kk), .val (.ref b2), .unset, .unset, .unset, .unset, .unset, .unset, .unset] [(.double (lagV (FP.l2d ((kk.toInt64) * t)) (FP.l2d t)))])
      generalize hlag1 : (lagV (FP.l2d ((kk.toInt64) * t)) (FP.l2d t)) = lag1
      show Go _ _ _ _ _ _ _ _ (mkF m 111 #[.val (.long off), .second, .val (.int i2), .val (.int i3), .val (.int i4), .val (.int i5), .val (.int md), .val (.long t), .second, .val (.int kk), .val (.ref b2), .unset, .unset, .unset, .unset, .unset, .unset, .unset] [(.double lag1)])
      refine Go.on (fun _ k => XS.iload X21.here hx rfl (hb hby at_111) rfl k) ?_
      show Go _ _ _ _ _ _ _ _ (mkF m 113 #[.val (.long off), .second, .val (.int i2), .val (.int i3), .val (.int i4), .val (.int i5), .val (.int md), .val (.long t), .second, .val (.int kk), .val (.ref b2), .unset, .unset, .unset, .unset, .unset, .unset, .unset] [(.int kk), (.double lag1)])
      refine Go.on (fun _ k => XS.iconst X21.here hx rfl (hb hby at_113) k) ?_
      show Go _ _ _ _ _ _ _ _ (mkF m 114 #[.val (.long off), .second, .val (.int i2), .val (.int i3), .val (.int i4), .val (.int i5), .val (.int md), .val (.long t), .second, .val (.int kk), .val (.ref b2), .unset, .unset, .unset, .unset, .unset, .unset, .unset] [(.int (1 : Int32)), (.int kk), (.double lag1)])
      refine Go.on (fun _ k => XS.isub X21.here hx rfl (hb hby at_114) rfl k) ?_
      show Go _ _ _ _ _ _ _ _ (mkF m 115 #[.val (.long off), .second, .val (.int i2), .val (.int i3), .val (.int i4), .val (.int i5), .val (.int md), .val (.long t), .second, .val (.int kk), .val (.ref b2), .unset, .unset, .unset, .unset, .unset, .unset, .unset] [(.int (kk - (1 : Int32))), (.double lag1)])
      refine Go.on (fun _ k => XS.i2dS X21.here hx rfl (hb hby at_115) rfl rfl k) ?_
      show Go _ _ _ _ _ _ _ _ (mkF m 116 #[.val (.long off), .second, .val (.int i2), .val (.int i3), .val (.int i4), .val (.int i5), .val (.int md), .val (.long t), .second, .val (.int kk), .val (.ref b2), .unset, .unset, .unset, .unset, .unset, .unset, .unset] [(.double (FP.i2d (kk - (1 : Int32)))), (.double lag1)])
      refine Go.on (fun _ k => XS.dcmpS X21.here hx rfl (hb hby at_116) rfl rfl k) ?_
      show Go _ _ _ _ _ _ _ _ (mkF m 117 #[.val (.long off), .second, .val (.int i2), .val (.int i3), .val (.int i4), .val (.int i5), .val (.int md), .val (.long t), .second, .val (.int kk), .val (.ref b2), .unset, .unset, .unset, .unset, .unset, .unset, .unset] [(.int (cmpValue (FP.dcmp lag1 (FP.i2d (kk - (1 : Int32)))) .l))])
      suffices hJ22 : ∀ (mul : Int32), mul = (if (cmpValue (FP.dcmp lag1 (FP.i2d (kk - (1 : Int32)))) .l) = (0 : Int32) then (1 : Int32) else (0 : Int32)) → Go p e below s K1 K2 QQ T21 (mkF m 125 #[.val (.long off), .second, .val (.int i2), .val (.int i3), .val (.int i4), .val (.int i5), .val (.int md), .val (.long t), .second, .val (.int kk), .val (.ref b2), .unset, .unset, .unset, .unset, .unset, .unset, .unset] [(.int mul)]) by
        by_cases hc23 : (cmpValue (FP.dcmp lag1 (FP.i2d (kk - (1 : Int32)))) .l) = (0 : Int32)
        · -- pc 117 yes
          refine Go.on (fun _ k => XS.ifNo X21.here hx rfl (hb hby at_117) rfl ((if0 _ _).trans (teq hc23).2) k) ?_
          show Go _ _ _ _ _ _ _ _ (mkF m 120 #[.val (.long off), .second, .val (.int i2), .val (.int i3), .val (.int i4), .val (.int i5), .val (.int md), .val (.long t), .second, .val (.int kk), .val (.ref b2), .unset, .unset, .unset, .unset, .unset, .unset, .unset] [])
          refine Go.on (fun _ k => XS.iconst X21.here hx rfl (hb hby at_120) k) ?_
          show Go _ _ _ _ _ _ _ _ (mkF m 121 #[.val (.long off), .second, .val (.int i2), .val (.int i3), .val (.int i4), .val (.int i5), .val (.int md), .val (.long t), .second, .val (.int kk), .val (.ref b2), .unset, .unset, .unset, .unset, .unset, .unset, .unset] [(.int (1 : Int32))])
          refine Go.on (fun _ k => XS.goto X21.here hx rfl (pc0 := 121) (pc' := 125) rfl (hb hby at_121) (by decide) (by decide) k) ?_
          show Go _ _ _ _ _ _ _ _ (mkF m 125 #[.val (.long off), .second, .val (.int i2), .val (.int i3), .val (.int i4), .val (.int i5), .val (.int md), .val (.long t), .second, .val (.int kk), .val (.ref b2), .unset, .unset, .unset, .unset, .unset, .unset, .unset] [(.int (1 : Int32))])
          exact hJ22 _ (by rw [if_pos hc23])
        · -- pc 117 no
          refine Go.on (fun _ k => XS.ifYes X21.here hx rfl (pc0 := 117) (pc' := 124) rfl (hb hby at_117) rfl ((if0 _ _).trans (feq hc23).2) (by decide) (by decide) k) ?_
          show Go _ _ _ _ _ _ _ _ (mkF m 124 #[.val (.long off), .second, .val (.int i2), .val (.int i3), .val (.int i4), .val (.int i5), .val (.int md), .val (.long t), .second, .val (.int kk), .val (.ref b2), .unset, .unset, .unset, .unset, .unset, .unset, .unset] [])
          refine Go.on (fun _ k => XS.iconst X21.here hx rfl (hb hby at_124) k) ?_
          show Go _ _ _ _ _ _ _ _ (mkF m 125 #[.val (.long off), .second, .val (.int i2), .val (.int i3), .val (.int i4), .val (.int i5), .val (.int md), .val (.long t), .second, .val (.int kk), .val (.ref b2), .unset, .unset, .unset, .unset, .unset, .unset, .unset] [(.int (0 : Int32))])
          exact hJ22 _ (by rw [if_neg hc23])
      intro mul hmul
      refine Go.on (fun _ k => XS.istore X21.here hx rfl (hb hby at_125) rfl (l' := #[.val (.long off), .second, .val (.int i2), .val (.int i3), .val (.int i4), .val (.int i5), .val (.int md), .val (.long t), .second, .val (.int kk), .val (.ref b2), .val (.int mul), .unset, .unset, .unset, .unset, .unset, .unset]) rfl k) ?_
      show Go _ _ _ _ _ _ _ _ (mkF m 127 #[.val (.long off), .second, .val (.int i2), .val (.int i3), .val (.int i4), .val (.int i5), .val (.int md), .val (.long t), .second, .val (.int kk), .val (.ref b2), .val (.int mul), .unset, .unset, .unset, .unset, .unset, .unset] [])
      obtain ⟨T24, h24, X24, e24, E24, A24, D24, -, st24⟩ := newO X21 hx hZ hown (hw _ (List.mem_of_getElem? (i := 1) rfl)) (hw _ (List.mem_of_getElem? (i := 2) rfl)) (hw _ (List.mem_of_getElem? (i := 3) rfl)) e21 (g := (mkF m 127 #[.val (.long off), .second, .val (.int i2), .val (.int i3), .val (.int i4), .val (.int i5), .val (.int md), .val (.long t), .second, .val (.int kk), .val (.ref b2), .val (.int mul), .unset, .unset, .unset, .unset, .unset, .unset] [])) rfl (hb hby at_127) (by decide) (by decide)
      obtain ⟨b3, g24⟩ : ∃ z, z = h20.size := ⟨_, rfl⟩
      have ne_b2_b3 : b2 ≠ b3 := Nat.ne_of_lt (Nat.lt_of_lt_of_le E_b2.lt (Nat.le_of_eq g24.symm))
      have g_b3 : n0 ≤ b3 := Nat.le_trans ZZ (Nat.le_of_eq g24.symm)
      rw [← g24] at A24 D24 st24
      replace E_b2 := E_b2.ext E24
      replace F_offered_b2 := F_offered_b2.ext E24
      replace F_accepted_b2 := F_accepted_b2.ext E24
      replace F_rejected_b2 := F_rejected_b2.ext E24
      replace F_meanResponseTime_b2 := F_meanResponseTime_b2.ext E24
      replace F_meanInSystem_b2 := F_meanInSystem_b2.ext E24
      replace F_workerSeconds_b2 := F_workerSeconds_b2.ext E24
      replace F_targetSeconds_b2 := F_targetSeconds_b2.ext E24
      replace ZZ := Nat.le_trans ZZ E24.1
      have E_b3 := A24
      have F_offered_b3 : Fld Z h24 b3 "com/example/deliberate_scaler/deliberatescaler/model/Simulation$Outcome" "offered" "J" (.long (0 : Int64)) := D24 (Or.inr (hw _ (List.mem_of_getElem? (i := 16) rfl))) (ty := .long) (by decide)
      have F_accepted_b3 : Fld Z h24 b3 "com/example/deliberate_scaler/deliberatescaler/model/Simulation$Outcome" "accepted" "J" (.long (0 : Int64)) := D24 (Or.inr (hw _ (List.mem_of_getElem? (i := 18) rfl))) (ty := .long) (by decide)
      have F_rejected_b3 : Fld Z h24 b3 "com/example/deliberate_scaler/deliberatescaler/model/Simulation$Outcome" "rejected" "J" (.long (0 : Int64)) := D24 (Or.inr (hw _ (List.mem_of_getElem? (i := 20) rfl))) (ty := .long) (by decide)
      have F_meanResponseTime_b3 : Fld Z h24 b3 "com/example/deliberate_scaler/deliberatescaler/model/Simulation$Outcome" "meanResponseTime" "D" (.double (0 : UInt64)) := D24 (Or.inr (hw _ (List.mem_of_getElem? (i := 22) rfl))) (ty := .double) (by decide)
      have F_meanInSystem_b3 : Fld Z h24 b3 "com/example/deliberate_scaler/deliberatescaler/model/Simulation$Outcome" "meanInSystem" "D" (.double (0 : UInt64)) := D24 (Or.inr (hw _ (List.mem_of_getElem? (i := 24) rfl))) (ty := .double) (by decide)
      have F_workerSeconds_b3 : Fld Z h24 b3 "com/example/deliberate_scaler/deliberatescaler/model/Simulation$Outcome" "workerSeconds" "D" (.double (0 : UInt64)) := D24 (Or.inr (hw _ (List.mem_of_getElem? (i := 26) rfl))) (ty := .double) (by decide)
      have F_targetSeconds_b3 : Fld Z h24 b3 "com/example/deliberate_scaler/deliberatescaler/model/Simulation$Outcome" "targetSeconds" "D" (.double (0 : UInt64)) := D24 (Or.inr (hw _ (List.mem_of_getElem? (i := 28) rfl))) (ty := .double) (by decide)
      refine Go.on st24 ?_
      show Go _ _ _ _ _ _ _ _ (mkF m 130 #[.val (.long off), .second, .val (.int i2), .val (.int i3), .val (.int i4), .val (.int i5), .val (.int md), .val (.long t), .second, .val (.int kk), .val (.ref b2), .val (.int mul), .unset, .unset, .unset, .unset, .unset, .unset] [(.ref b3)])
      refine Go.on (fun _ k => XS.dup X24.here hx rfl (hb hby at_130) rfl rfl k) ?_
      show Go _ _ _ _ _ _ _ _ (mkF m 131 #[.val (.long off), .second, .val (.int i2), .val (.int i3), .val (.int i4), .val (.int i5), .val (.int md), .val (.long t), .second, .val (.int kk), .val (.ref b2), .val (.int mul), .unset, .unset, .unset, .unset, .unset, .unset] [(.ref b3), (.ref b3)])
      refine Go.on (fun _ k => XS.lloadN X24.here hx rfl (hb hby at_131) rfl k) ?_
      show Go _ _ _ _ _ _ _ _ (mkF m 132 #[.val (.long off), .second, .val (.int i2), .val (.int i3), .val (.int i4), .val (.int i5), .val (.int md), .val (.long t), .second, .val (.int kk), .val (.ref b2), .val (.int mul), .unset, .unset, .unset, .unset, .unset, .unset] [(.long off), (.ref b3), (.ref b3)])
      refine Go.on (fun _ k => XS.lconst X24.here hx rfl (hb hby at_132) k) ?_
      show Go _ _ _ _ _ _ _ _ (mkF m 133 #[.val (.long off), .second, .val (.int i2), .val (.int i3), .val (.int i4), .val (.int i5), .val (.int md), .val (.long t), .second, .val (.int kk), .val (.ref b2), .val (.int mul), .unset, .unset, .unset, .unset, .unset, .unset] [(.long (0 : Int64)), (.long off), (.ref b3), (.ref b3)])
      refine Go.on (fun _ k => XS.lloadN X24.here hx rfl (hb hby at_133) rfl k) ?_
      show Go _ _ _ _ _ _ _ _ (mkF m 134 #[.val (.long off), .second, .val (.int i2), .val (.int i3), .val (.int i4), .val (.int i5), .val (.int md), .val (.long t), .second, .val (.int kk), .val (.ref b2), .val (.int mul), .unset, .unset, .unset, .unset, .unset, .unset] [(.long off), (.long (0 : Int64)), (.long off), (.ref b3), (.ref b3)])
      refine Go.on (fun _ k => XS.dconst1 X24.here hx rfl (v := (4607182418800017408 : UInt64)) (hb hby at_134) rfl k) ?_
      show Go _ _ _ _ _ _ _ _ (mkF m 135 #[.val (.long off), .second, .val (.int i2), .val (.int i3), .val (.int i4), .val (.int i5), .val (.int md), .val (.long t), .second, .val (.int kk), .val (.ref b2), .val (.int mul), .unset, .unset, .unset, .unset, .unset, .unset] [(.double (4607182418800017408 : UInt64)), (.long off), (.long (0 : Int64)), (.long off), (.ref b3), (.ref b3)])
      refine Go.on (fun _ k => XS.dconst1 X24.here hx rfl (v := (4607182418800017408 : UInt64)) (hb hby at_135) rfl k) ?_
      show Go _ _ _ _ _ _ _ _ (mkF m 136 #[.val (.long off), .second, .val (.int i2), .val (.int i3), .val (.int i4), .val (.int i5), .val (.int md), .val (.long t), .second, .val (.int kk), .val (.ref b2), .val (.int mul), .unset, .unset, .unset, .unset, .unset, .unset] [(.double (4607182418800017408 : UInt64)), (.double (4607182418800017408 : UInt64)), (.long off), (.long (0 : Int64)), (.long off), (.ref b3), (.ref b3)])
      refine Go.on (fun _ k => XS.iloadN X24.here hx rfl (hb hby at_136) rfl k) ?_
      show Go _ _ _ _ _ _ _ _ (mkF m 137 #[.val (.long off), .second, .val (.int i2), .val (.int i3), .val (.int i4), .val (.int i5), .val (.int md), .val (.long t), .second, .val (.int kk), .val (.ref b2), .val (.int mul), .unset, .unset, .unset, .unset, .unset, .unset] [(.int i3), (.double (4607182418800017408 : UInt64)), (.double (4607182418800017408 : UInt64)), (.long off), (.long (0 : Int64)), (.long off), (.ref b3), (.ref b3)])
      refine Go.on (fun _ k => XS.i2dS X24.here hx rfl (hb hby at_137) rfl rfl k) ?_
      show Go _ _ _ _ _ _ _ _ (mkF m 138 #[.val (.long off), .second, .val (.int i2), .val (.int i3), .val (.int i4), .val (.int i5), .val (.int md), .val (.long t), .second, .val (.int kk), .val (.ref b2), .val (.int mul), .unset, .unset, .unset, .unset, .unset, .unset] [(.double (FP.i2d i3)), (.double (4607182418800017408 : UInt64)), (.double (4607182418800017408 : UInt64)), (.long off), (.long (0 : Int64)), (.long off), (.ref b3), (.ref b3)])
      refine Go.on (fun _ k => XS.lload X24.here hx rfl (hb hby at_138) rfl k) ?_
      show Go _ _ _ _ _ _ _ _ (mkF m 140 #[.val (.long off), .second, .val (.int i2), .val (.int i3), .val (.int i4), .val (.int i5), .val (.int md), .val (.long t), .second, .val (.int kk), .val (.ref b2), .val (.int mul), .unset, .unset, .unset, .unset, .unset, .unset] [(.long t), (.double (FP.i2d i3)), (.double (4607182418800017408 : UInt64)), (.double (4607182418800017408 : UInt64)), (.long off), (.long (0 : Int64)), (.long off), (.ref b3), (.ref b3)])
      refine Go.on (fun _ k => XS.l2dS X24.here hx rfl (hb hby at_140) rfl rfl k) ?_
      show Go _ _ _ _ _ _ _ _ (mkF m 141 #[.val (.long off), .second, .val (.int i2), .val (.int i3), .val (.int i4), .val (.int i5), .val (.int md), .val (.long t), .second, .val (.int kk), .val (.ref b2), .val (.int mul), .unset, .unset, .unset, .unset, .unset, .unset] [(.double (FP.l2d t)), (.double (FP.i2d i3)), (.double (4607182418800017408 : UInt64)), (.double (4607182418800017408 : UInt64)), (.long off), (.long (0 : Int64)), (.long off), (.ref b3), (.ref b3)])
      obtain ⟨_, _, ⟨T25, L25, k25, n25⟩, -, X25, ⟨Lc25, hQ25, l25, y25, z25⟩, st25⟩ := X24.specialBack hx (y := (⟨"com/example/deliberate_scaler/deliberatescaler/model/Simulation$Outcome", "<init>", "(JJJDDDD)V"⟩ : MethodName)) rfl hown (mvT hZ (hw _ (List.mem_of_getElem? (i := 4) rfl))) (mvT hZ (hw _ (List.mem_of_getElem? (i := 5) rfl))) (mvT hZ (hw _ (List.mem_of_getElem? (i := 6) rfl))) (by decide) (backOf (W := 1) (rm1 l Z aw hw [] b3 off (0 : Int64) off (4607182418800017408 : UInt64) (4607182418800017408 : UInt64) (FP.i2d i3) (FP.l2d t) (.long (0 : Int64)) (.long (0 : Int64)) (.long (0 : Int64)) (.double (0 : UInt64)) (.double (0 : UInt64)) (.double (0 : UInt64)) (.double (0 : UInt64)) h24 n0 ZZ E_b3 F_offered_b3 F_accepted_b3 F_rejected_b3 F_meanResponseTime_b3 F_meanInSystem_b3 F_workerSeconds_b3 F_targetSeconds_b3 g_b3) hZ (hw _ (List.mem_of_getElem? (i := 6) rfl)) (hw _ (List.mem_of_getElem? (i := 3) rfl)) (by decide) (by decide)) (g := (mkF m 141 #[.val (.long off), .second, .val (.int i2), .val (.int i3), .val (.int i4), .val (.int i5), .val (.int md), .val (.long t), .second, .val (.int kk), .val (.ref b2), .val (.int mul), .unset, .unset, .unset, .unset, .unset, .unset] [(.double (FP.l2d t)), (.double (FP.i2d i3)), (.double (4607182418800017408 : UInt64)), (.double (4607182418800017408 : UInt64)), (.long off), (.long (0 : Int64)), (.long off), (.ref b3), (.ref b3)])) rfl (by rw [hml]; rfl) (Steps.refl _) (a := b3) (argsL := [(.long off), (.long (0 : Int64)), (.long off), (.double (4607182418800017408 : UInt64)), (.double (4607182418800017408 : UInt64)), (.double (FP.i2d i3)), (.double (FP.l2d t))]) (rest := [(.ref b3)]) (lenOf pd_1 rfl) rfl (by show 2 * 0 + _ ≤ _; exact Nat.le_of_eq rfl) (hb hby at_141) (fun _ _ => ⟨rfl, e24, (by decide : 2 + 0 ≤ _), (by decide : 14 + 0 ≤ _)⟩)
      dsimp only [Pt.U, Pt.locs, Pt.cells, Pt.slots] at X25 l25 y25 z25 st25 hQ25
      subst l25 y25 z25
      obtain ⟨h25, e25⟩ : ∃ q, T25.heap = q := ⟨_, rfl⟩
      rw [e25] at hQ25
      obtain ⟨rfl, N25q, K25q, E_b3', F_offered_b3', F_accepted_b3', F_rejected_b3', F_meanResponseTime_b3', F_meanInSystem_b3', F_workerSeconds_b3', F_targetSeconds_b3'⟩ := hQ25
      have N25 := Fr.app N21 N25q
      replace E_b2 := E_b2.keep K25q
      replace F_offered_b2 := F_offered_b2.keep K25q (ninS ne_b2_b3 nin0)
      replace F_accepted_b2 := F_accepted_b2.keep K25q (ninS ne_b2_b3 nin0)
      replace F_rejected_b2 := F_rejected_b2.keep K25q (ninS ne_b2_b3 nin0)
      replace F_meanResponseTime_b2 := F_meanResponseTime_b2.keep K25q (ninS ne_b2_b3 nin0)
      replace F_meanInSystem_b2 := F_meanInSystem_b2.keep K25q (ninS ne_b2_b3 nin0)
      replace F_workerSeconds_b2 := F_workerSeconds_b2.keep K25q (ninS ne_b2_b3 nin0)
      replace F_targetSeconds_b2 := F_targetSeconds_b2.keep K25q (ninS ne_b2_b3 nin0)
      replace E_b3 := E_b3.keep K25q
      replace ZZ := Nat.le_trans ZZ K25q.1
      replace E_b3 := E_b3'
      have F_offered_b3 := F_offered_b3'
      have F_accepted_b3 := F_accepted_b3'
      have F_rejected_b3 := F_rejected_b3'
      have F_meanResponseTime_b3 := F_meanResponseTime_b3'
      have F_meanInSystem_b3 := F_meanInSystem_b3'
      have F_workerSeconds_b3 := F_workerSeconds_b3'
      have F_targetSeconds_b3 := F_targetSeconds_b3'
      refine Go.on (fun _ k => st25.trans k) ?_
      show Go _ _ _ _ _ _ _ _ (mkF m 144 #[.val (.long off), .second, .val (.int i2), .val (.int i3), .val (.int i4), .val (.int i5), .val (.int md), .val (.long t), .second, .val (.int kk), .val (.ref b2), .val (.int mul), .unset, .unset, .unset, .unset, .unset, .unset] [(.ref b3)])
      refine Go.on (fun _ k => XS.astore X25.here hx rfl (hb hby at_144) rfl rfl (l' := #[.val (.long off), .second, .val (.int i2), .val (.int i3), .val (.int i4), .val (.int i5), .val (.int md), .val (.long t), .second, .val (.int kk), .val (.ref b2), .val (.int mul), .val (.ref b3), .unset, .unset, .unset, .unset, .unset]) rfl k) ?_
      show Go _ _ _ _ _ _ _ _ (mkF m 146 #[.val (.long off), .second, .val (.int i2), .val (.int i3), .val (.int i4), .val (.int i5), .val (.int md), .val (.long t), .second, .val (.int kk), .val (.ref b2), .val (.int mul), .val (.ref b3), .unset, .unset, .unset, .unset, .unset] [])
      refine Go.on (fun _ k => XS.aload X25.here hx rfl (hb hby at_146) rfl rfl k) ?_
      show Go _ _ _ _ _ _ _ _ (mkF m 148 #[.val (.long off), .second, .val (.int i2), .val (.int i3), .val (.int i4), .val (.int i5), .val (.int md), .val (.long t), .second, .val (.int kk), .val (.ref b2), .val (.int mul), .val (.ref b3), .unset, .unset, .unset, .unset, .unset] [(.ref b3)])
      obtain ⟨cq26, kq26, q26a, q26b, q26c⟩ := isOf hZ e25 E_b3
      obtain ⟨_, _, ⟨T26, L26, k26, n26⟩, -, X26, ⟨Lc26, hQ26, l26, y26, z26⟩, st26⟩ := X25.virtualBack hx (y := (⟨"com/example/deliberate_scaler/deliberatescaler/model/Simulation$Outcome", "relativeLag", "()D"⟩ : MethodName)) (z := (⟨"com/example/deliberate_scaler/deliberatescaler/model/Simulation$Outcome", "relativeLag", "()D"⟩ : MethodName)) hown (mvT hZ (hw _ (List.mem_of_getElem? (i := 29) rfl))) (mvT hZ (hw _ (List.mem_of_getElem? (i := 30) rfl))) (notFace_of_selects (args := #[]) (mvT hZ (hw _ (List.mem_of_getElem? (i := 32) rfl)))) (mvT hZ (hw _ (List.mem_of_getElem? (i := 32) rfl))) (mvT hZ (hw _ (List.mem_of_getElem? (i := 31) rfl))) (by decide) (backOf (W := 0) (rm4 l Z aw hw [] b3 (FP.i2d i3) (FP.l2d t) h25 n0 ZZ F_workerSeconds_b3 F_targetSeconds_b3 (own_l1 (Jvm.FP.Core.i2d_fin i3) (Jvm.FP.Core.l2d_fin _)) (own_l2 (Jvm.FP.Core.i2d_fin i3) (Jvm.FP.Core.l2d_fin _))) hZ (hw _ (List.mem_of_getElem? (i := 33) rfl)) (hw _ (List.mem_of_getElem? (i := 3) rfl)) (by decide) (by decide)) q26a q26c (g := (mkF m 148 #[.val (.long off), .second, .val (.int i2), .val (.int i3), .val (.int i4), .val (.int i5), .val (.int md), .val (.long t), .second, .val (.int kk), .val (.ref b2), .val (.int mul), .val (.ref b3), .unset, .unset, .unset, .unset, .unset] [(.ref b3)])) rfl (by rw [hml]; rfl) (Steps.refl _) (argsL := []) (rest := []) (lenOf pd_2 rfl) rfl (by show 2 * 0 + _ ≤ _; exact Nat.le_of_eq rfl) (hb hby at_148) (fun _ _ => ⟨rfl, e25, (by decide : 2 + 0 ≤ _), (by decide : 14 + 0 ≤ _)⟩)
      dsimp only [Pt.U, Pt.locs, Pt.cells, Pt.slots] at X26 l26 y26 z26 st26 hQ26
      subst l26 y26 z26
      obtain ⟨rfl, N26q, e26⟩ := hQ26
      have N26 := Fr.app N25 N26q
      refine Go.on (fun _ k => st26.trans k) ?_
      show Go _ _ _ _ _ _ _ _ (mkF m 151 #[.val (.long off), .second, .val (.int i2), .val (.int i3), .val (.int i4), .val (.int i5), .val (.int md), .val (.long t), .second, .val (.int kk), .val (.ref b2), .val (.int mul), .val (.ref b3), .unset, .unset, .unset, .unset, .unset] [(.double (lagV (FP.i2d i3) (FP.l2d t)))])
      generalize hr : (lagV (FP.i2d i3) (FP.l2d t)) = r
      show Go _ _ _ _ _ _ _ _ (mkF m 151 #[.val (.long off), .second, .val (.int i2), .val (.int i3), .val (.int i4), .val (.int i5), .val (.int md), .val (.long t), .second, .val (.int kk), .val (.ref b2), .val (.int mul), .val (.ref b3), .unset, .unset, .unset, .unset, .unset] [(.double r)])
      refine Go.on (fun _ k => XS.dstore X26.here hx rfl (hb hby at_151) rfl (l' := #[.val (.long off), .second, .val (.int i2), .val (.int i3), .val (.int i4), .val (.int i5), .val (.int md), .val (.long t), .second, .val (.int kk), .val (.ref b2), .val (.int mul), .val (.ref b3), .val (.double r), .second, .unset, .unset, .unset]) rfl k) ?_
      show Go _ _ _ _ _ _ _ _ (mkF m 153 #[.val (.long off), .second, .val (.int i2), .val (.int i3), .val (.int i4), .val (.int i5), .val (.int md), .val (.long t), .second, .val (.int kk), .val (.ref b2), .val (.int mul), .val (.ref b3), .val (.double r), .second, .unset, .unset, .unset] [])
      refine Go.on (fun _ k => XS.iloadN X26.here hx rfl (hb hby at_153) rfl k) ?_
      show Go _ _ _ _ _ _ _ _ (mkF m 154 #[.val (.long off), .second, .val (.int i2), .val (.int i3), .val (.int i4), .val (.int i5), .val (.int md), .val (.long t), .second, .val (.int kk), .val (.ref b2), .val (.int mul), .val (.ref b3), .val (.double r), .second, .unset, .unset, .unset] [(.int i3)])
      refine Go.on (fun _ k => XS.i2l X26.here hx rfl (hb hby at_154) rfl k) ?_
      show Go _ _ _ _ _ _ _ _ (mkF m 155 #[.val (.long off), .second, .val (.int i2), .val (.int i3), .val (.int i4), .val (.int i5), .val (.int md), .val (.long t), .second, .val (.int kk), .val (.ref b2), .val (.int mul), .val (.ref b3), .val (.double r), .second, .unset, .unset, .unset] [(.long (i3.toInt64))])
      refine Go.on (fun _ k => XS.lstore X26.here hx rfl (hb hby at_155) rfl (l' := #[.val (.long off), .second, .val (.int i2), .val (.int i3), .val (.int i4), .val (.int i5), .val (.int md), .val (.long t), .second, .val (.int kk), .val (.ref b2), .val (.int mul), .val (.ref b3), .val (.double r), .second, .val (.long (i3.toInt64)), .second, .unset]) rfl k) ?_
      show Go _ _ _ _ _ _ _ _ (mkF m 157 #[.val (.long off), .second, .val (.int i2), .val (.int i3), .val (.int i4), .val (.int i5), .val (.int md), .val (.long t), .second, .val (.int kk), .val (.ref b2), .val (.int mul), .val (.ref b3), .val (.double r), .second, .val (.long (i3.toInt64)), .second, .unset] [])
      generalize hwl : (i3.toInt64) = wl
      show Go _ _ _ _ _ _ _ _ (mkF m 157 #[.val (.long off), .second, .val (.int i2), .val (.int i3), .val (.int i4), .val (.int i5), .val (.int md), .val (.long t), .second, .val (.int kk), .val (.ref b2), .val (.int mul), .val (.ref b3), .val (.double r), .second, .val (.long wl), .second, .unset] [])
      refine Go.on (fun _ k => XS.lload X26.here hx rfl (hb hby at_157) rfl k) ?_
      show Go _ _ _ _ _ _ _ _ (mkF m 159 #[.val (.long off), .second, .val (.int i2), .val (.int i3), .val (.int i4), .val (.int i5), .val (.int md), .val (.long t), .second, .val (.int kk), .val (.ref b2), .val (.int mul), .val (.ref b3), .val (.double r), .second, .val (.long wl), .second, .unset] [(.long wl)])
      refine Go.on (fun _ k => XS.lload X26.here hx rfl (hb hby at_159) rfl k) ?_
      show Go _ _ _ _ _ _ _ _ (mkF m 161 #[.val (.long off), .second, .val (.int i2), .val (.int i3), .val (.int i4), .val (.int i5), .val (.int md), .val (.long t), .second, .val (.int kk), .val (.ref b2), .val (.int mul), .val (.ref b3), .val (.double r), .second, .val (.long wl), .second, .unset] [(.long t), (.long wl)])
      refine Go.on (fun _ k => XS.lcmp X26.here hx rfl (hb hby at_161) rfl k) ?_
      show Go _ _ _ _ _ _ _ _ (mkF m 162 #[.val (.long off), .second, .val (.int i2), .val (.int i3), .val (.int i4), .val (.int i5), .val (.int md), .val (.long t), .second, .val (.int kk), .val (.ref b2), .val (.int mul), .val (.ref b3), .val (.double r), .second, .val (.long wl), .second, .unset] [(.int (lcmpW wl t))])
      suffices hJ27 : ∀ (sg : Int32), sg = (if t < wl then (if (0 : Int32) < (cmpValue (FP.dcmp r (0 : UInt64)) .l) then (1 : Int32) else (0 : Int32)) else (if wl = t then (if (cmpValue (FP.dcmp r (0 : UInt64)) .l) = (0 : Int32) then (1 : Int32) else (0 : Int32)) else (if (cmpValue (FP.dcmp r (0 : UInt64)) .g) < (0 : Int32) then (1 : Int32) else (0 : Int32)))) → Go p e below s K1 K2 QQ T26 (mkF m 221 #[.val (.long off), .second, .val (.int i2), .val (.int i3), .val (.int i4), .val (.int i5), .val (.int md), .val (.long t), .second, .val (.int kk), .val (.ref b2), .val (.int mul), .val (.ref b3), .val (.double r), .second, .val (.long wl), .second, .val (.int sg)] []) by
        by_cases hc28 : t < wl
        · -- pc 162 yes
          refine Go.on (fun _ k => XS.ifNo X26.here hx rfl (hb hby at_162) rfl ((if0 _ _).trans (tlt (own_lc_gt.mpr hc28)).2.2.2) k) ?_
          show Go _ _ _ _ _ _ _ _ (mkF m 165 #[.val (.long off), .second, .val (.int i2), .val (.int i3), .val (.int i4), .val (.int i5), .val (.int md), .val (.long t), .second, .val (.int kk), .val (.ref b2), .val (.int mul), .val (.ref b3), .val (.double r), .second, .val (.long wl), .second, .unset] [])
          refine Go.on (fun _ k => XS.dload X26.here hx rfl (hb hby at_165) rfl k) ?_
          show Go _ _ _ _ _ _ _ _ (mkF m 167 #[.val (.long off), .second, .val (.int i2), .val (.int i3), .val (.int i4), .val (.int i5), .val (.int md), .val (.long t), .second, .val (.int kk), .val (.ref b2), .val (.int mul), .val (.ref b3), .val (.double r), .second, .val (.long wl), .second, .unset] [(.double r)])
          refine Go.on (fun _ k => XS.dconst0 X26.here hx rfl (v := (0 : UInt64)) (hb hby at_167) rfl k) ?_
          show Go _ _ _ _ _ _ _ _ (mkF m 168 #[.val (.long off), .second, .val (.int i2), .val (.int i3), .val (.int i4), .val (.int i5), .val (.int md), .val (.long t), .second, .val (.int kk), .val (.ref b2), .val (.int mul), .val (.ref b3), .val (.double r), .second, .val (.long wl), .second, .unset] [(.double (0 : UInt64)), (.double r)])
          refine Go.on (fun _ k => XS.dcmpS X26.here hx rfl (hb hby at_168) rfl rfl k) ?_
          show Go _ _ _ _ _ _ _ _ (mkF m 169 #[.val (.long off), .second, .val (.int i2), .val (.int i3), .val (.int i4), .val (.int i5), .val (.int md), .val (.long t), .second, .val (.int kk), .val (.ref b2), .val (.int mul), .val (.ref b3), .val (.double r), .second, .val (.long wl), .second, .unset] [(.int (cmpValue (FP.dcmp r (0 : UInt64)) .l))])
          by_cases hc29 : (0 : Int32) < (cmpValue (FP.dcmp r (0 : UInt64)) .l)
          · -- pc 169 yes
            refine Go.on (fun _ k => XS.ifNo X26.here hx rfl (hb hby at_169) rfl ((if0 _ _).trans (tlt hc29).2.2.2) k) ?_
            show Go _ _ _ _ _ _ _ _ (mkF m 172 #[.val (.long off), .second, .val (.int i2), .val (.int i3), .val (.int i4), .val (.int i5), .val (.int md), .val (.long t), .second, .val (.int kk), .val (.ref b2), .val (.int mul), .val (.ref b3), .val (.double r), .second, .val (.long wl), .second, .unset] [])
            refine Go.on (fun _ k => XS.iconst X26.here hx rfl (hb hby at_172) k) ?_
            show Go _ _ _ _ _ _ _ _ (mkF m 173 #[.val (.long off), .second, .val (.int i2), .val (.int i3), .val (.int i4), .val (.int i5), .val (.int md), .val (.long t), .second, .val (.int kk), .val (.ref b2), .val (.int mul), .val (.ref b3), .val (.double r), .second, .val (.long wl), .second, .unset] [(.int (1 : Int32))])
            refine Go.on (fun _ k => XS.goto X26.here hx rfl (pc0 := 173) (pc' := 177) rfl (hb hby at_173) (by decide) (by decide) k) ?_
            show Go _ _ _ _ _ _ _ _ (mkF m 177 #[.val (.long off), .second, .val (.int i2), .val (.int i3), .val (.int i4), .val (.int i5), .val (.int md), .val (.long t), .second, .val (.int kk), .val (.ref b2), .val (.int mul), .val (.ref b3), .val (.double r), .second, .val (.long wl), .second, .unset] [(.int (1 : Int32))])
            refine Go.on (fun _ k => XS.istore X26.here hx rfl (hb hby at_177) rfl (l' := #[.val (.long off), .second, .val (.int i2), .val (.int i3), .val (.int i4), .val (.int i5), .val (.int md), .val (.long t), .second, .val (.int kk), .val (.ref b2), .val (.int mul), .val (.ref b3), .val (.double r), .second, .val (.long wl), .second, .val (.int (1 : Int32))]) rfl k) ?_
            show Go _ _ _ _ _ _ _ _ (mkF m 179 #[.val (.long off), .second, .val (.int i2), .val (.int i3), .val (.int i4), .val (.int i5), .val (.int md), .val (.long t), .second, .val (.int kk), .val (.ref b2), .val (.int mul), .val (.ref b3), .val (.double r), .second, .val (.long wl), .second, .val (.int (1 : Int32))] [])
            refine Go.on (fun _ k => XS.goto X26.here hx rfl (pc0 := 179) (pc' := 221) rfl (hb hby at_179) (by decide) (by decide) k) ?_
            show Go _ _ _ _ _ _ _ _ (mkF m 221 #[.val (.long off), .second, .val (.int i2), .val (.int i3), .val (.int i4), .val (.int i5), .val (.int md), .val (.long t), .second, .val (.int kk), .val (.ref b2), .val (.int mul), .val (.ref b3), .val (.double r), .second, .val (.long wl), .second, .val (.int (1 : Int32))] [])
            exact hJ27 _ (by rw [if_pos hc28, if_pos hc29])
          · -- pc 169 no
            refine Go.on (fun _ k => XS.ifYes X26.here hx rfl (pc0 := 169) (pc' := 176) rfl (hb hby at_169) rfl ((if0 _ _).trans (flt hc29).2.2.2) (by decide) (by decide) k) ?_
            show Go _ _ _ _ _ _ _ _ (mkF m 176 #[.val (.long off), .second, .val (.int i2), .val (.int i3), .val (.int i4), .val (.int i5), .val (.int md), .val (.long t), .second, .val (.int kk), .val (.ref b2), .val (.int mul), .val (.ref b3), .val (.double r), .second, .val (.long wl), .second, .unset] [])
            refine Go.on (fun _ k => XS.iconst X26.here hx rfl (hb hby at_176) k) ?_
            show Go _ _ _ _ _ _ _ _ (mkF m 177 #[.val (.long off), .second, .val (.int i2), .val (.int i3), .val (.int i4), .val (.int i5), .val (.int md), .val (.long t), .second, .val (.int kk), .val (.ref b2), .val (.int mul), .val (.ref b3), .val (.double r), .second, .val (.long wl), .second, .unset] [(.int (0 : Int32))])
            refine Go.on (fun _ k => XS.istore X26.here hx rfl (hb hby at_177) rfl (l' := #[.val (.long off), .second, .val (.int i2), .val (.int i3), .val (.int i4), .val (.int i5), .val (.int md), .val (.long t), .second, .val (.int kk), .val (.ref b2), .val (.int mul), .val (.ref b3), .val (.double r), .second, .val (.long wl), .second, .val (.int (0 : Int32))]) rfl k) ?_
            show Go _ _ _ _ _ _ _ _ (mkF m 179 #[.val (.long off), .second, .val (.int i2), .val (.int i3), .val (.int i4), .val (.int i5), .val (.int md), .val (.long t), .second, .val (.int kk), .val (.ref b2), .val (.int mul), .val (.ref b3), .val (.double r), .second, .val (.long wl), .second, .val (.int (0 : Int32))] [])
            refine Go.on (fun _ k => XS.goto X26.here hx rfl (pc0 := 179) (pc' := 221) rfl (hb hby at_179) (by decide) (by decide) k) ?_
            show Go _ _ _ _ _ _ _ _ (mkF m 221 #[.val (.long off), .second, .val (.int i2), .val (.int i3), .val (.int i4), .val (.int i5), .val (.int md), .val (.long t), .second, .val (.int kk), .val (.ref b2), .val (.int mul), .val (.ref b3), .val (.double r), .second, .val (.long wl), .second, .val (.int (0 : Int32))] [])
            exact hJ27 _ (by rw [if_pos hc28, if_neg hc29])
        · -- pc 162 no
          refine Go.on (fun _ k => XS.ifYes X26.here hx rfl (pc0 := 162) (pc' := 182) rfl (hb hby at_162) rfl ((if0 _ _).trans (flt (fun q => hc28 (own_lc_gt.mp q))).2.2.2) (by decide) (by decide) k) ?_
          show Go _ _ _ _ _ _ _ _ (mkF m 182 #[.val (.long off), .second, .val (.int i2), .val (.int i3), .val (.int i4), .val (.int i5), .val (.int md), .val (.long t), .second, .val (.int kk), .val (.ref b2), .val (.int mul), .val (.ref b3), .val (.double r), .second, .val (.long wl), .second, .unset] [])
          refine Go.on (fun _ k => XS.lload X26.here hx rfl (hb hby at_182) rfl k) ?_
          show Go _ _ _ _ _ _ _ _ (mkF m 184 #[.val (.long off), .second, .val (.int i2), .val (.int i3), .val (.int i4), .val (.int i5), .val (.int md), .val (.long t), .second, .val (.int kk), .val (.ref b2), .val (.int mul), .val (.ref b3), .val (.double r), .second, .val (.long wl), .second, .unset] [(.long wl)])
          refine Go.on (fun _ k => XS.lload X26.here hx rfl (hb hby at_184) rfl k) ?_
          show Go _ _ _ _ _ _ _ _ (mkF m 186 #[.val (.long off), .second, .val (.int i2), .val (.int i3), .val (.int i4), .val (.int i5), .val (.int md), .val (.long t), .second, .val (.int kk), .val (.ref b2), .val (.int mul), .val (.ref b3), .val (.double r), .second, .val (.long wl), .second, .unset] [(.long t), (.long wl)])
          refine Go.on (fun _ k => XS.lcmp X26.here hx rfl (hb hby at_186) rfl k) ?_
          show Go _ _ _ _ _ _ _ _ (mkF m 187 #[.val (.long off), .second, .val (.int i2), .val (.int i3), .val (.int i4), .val (.int i5), .val (.int md), .val (.long t), .second, .val (.int kk), .val (.ref b2), .val (.int mul), .val (.ref b3), .val (.double r), .second, .val (.long wl), .second, .unset] [(.int (lcmpW wl t))])
          by_cases hc30 : wl = t
          · -- pc 187 yes
            refine Go.on (fun _ k => XS.ifNo X26.here hx rfl (hb hby at_187) rfl ((if0 _ _).trans (teq (own_lc_eq.mpr hc30)).2) k) ?_
            show Go _ _ _ _ _ _ _ _ (mkF m 190 #[.val (.long off), .second, .val (.int i2), .val (.int i3), .val (.int i4), .val (.int i5), .val (.int md), .val (.long t), .second, .val (.int kk), .val (.ref b2), .val (.int mul), .val (.ref b3), .val (.double r), .second, .val (.long wl), .second, .unset] [])
            refine Go.on (fun _ k => XS.dload X26.here hx rfl (hb hby at_190) rfl k) ?_
            show Go _ _ _ _ _ _ _ _ (mkF m 192 #[.val (.long off), .second, .val (.int i2), .val (.int i3), .val (.int i4), .val (.int i5), .val (.int md), .val (.long t), .second, .val (.int kk), .val (.ref b2), .val (.int mul), .val (.ref b3), .val (.double r), .second, .val (.long wl), .second, .unset] [(.double r)])
            refine Go.on (fun _ k => XS.dconst0 X26.here hx rfl (v := (0 : UInt64)) (hb hby at_192) rfl k) ?_
            show Go _ _ _ _ _ _ _ _ (mkF m 193 #[.val (.long off), .second, .val (.int i2), .val (.int i3), .val (.int i4), .val (.int i5), .val (.int md), .val (.long t), .second, .val (.int kk), .val (.ref b2), .val (.int mul), .val (.ref b3), .val (.double r), .second, .val (.long wl), .second, .unset] [(.double (0 : UInt64)), (.double r)])
            refine Go.on (fun _ k => XS.dcmpS X26.here hx rfl (hb hby at_193) rfl rfl k) ?_
            show Go _ _ _ _ _ _ _ _ (mkF m 194 #[.val (.long off), .second, .val (.int i2), .val (.int i3), .val (.int i4), .val (.int i5), .val (.int md), .val (.long t), .second, .val (.int kk), .val (.ref b2), .val (.int mul), .val (.ref b3), .val (.double r), .second, .val (.long wl), .second, .unset] [(.int (cmpValue (FP.dcmp r (0 : UInt64)) .l))])
            by_cases hc31 : (cmpValue (FP.dcmp r (0 : UInt64)) .l) = (0 : Int32)
            · -- pc 194 yes
              refine Go.on (fun _ k => XS.ifNo X26.here hx rfl (hb hby at_194) rfl ((if0 _ _).trans (teq hc31).2) k) ?_
              show Go _ _ _ _ _ _ _ _ (mkF m 197 #[.val (.long off), .second, .val (.int i2), .val (.int i3), .val (.int i4), .val (.int i5), .val (.int md), .val (.long t), .second, .val (.int kk), .val (.ref b2), .val (.int mul), .val (.ref b3), .val (.double r), .second, .val (.long wl), .second, .unset] [])
              refine Go.on (fun _ k => XS.iconst X26.here hx rfl (hb hby at_197) k) ?_
              show Go _ _ _ _ _ _ _ _ (mkF m 198 #[.val (.long off), .second, .val (.int i2), .val (.int i3), .val (.int i4), .val (.int i5), .val (.int md), .val (.long t), .second, .val (.int kk), .val (.ref b2), .val (.int mul), .val (.ref b3), .val (.double r), .second, .val (.long wl), .second, .unset] [(.int (1 : Int32))])
              refine Go.on (fun _ k => XS.goto X26.here hx rfl (pc0 := 198) (pc' := 202) rfl (hb hby at_198) (by decide) (by decide) k) ?_
              show Go _ _ _ _ _ _ _ _ (mkF m 202 #[.val (.long off), .second, .val (.int i2), .val (.int i3), .val (.int i4), .val (.int i5), .val (.int md), .val (.long t), .second, .val (.int kk), .val (.ref b2), .val (.int mul), .val (.ref b3), .val (.double r), .second, .val (.long wl), .second, .unset] [(.int (1 : Int32))])
              refine Go.on (fun _ k => XS.istore X26.here hx rfl (hb hby at_202) rfl (l' := #[.val (.long off), .second, .val (.int i2), .val (.int i3), .val (.int i4), .val (.int i5), .val (.int md), .val (.long t), .second, .val (.int kk), .val (.ref b2), .val (.int mul), .val (.ref b3), .val (.double r), .second, .val (.long wl), .second, .val (.int (1 : Int32))]) rfl k) ?_
              show Go _ _ _ _ _ _ _ _ (mkF m 204 #[.val (.long off), .second, .val (.int i2), .val (.int i3), .val (.int i4), .val (.int i5), .val (.int md), .val (.long t), .second, .val (.int kk), .val (.ref b2), .val (.int mul), .val (.ref b3), .val (.double r), .second, .val (.long wl), .second, .val (.int (1 : Int32))] [])
              refine Go.on (fun _ k => XS.goto X26.here hx rfl (pc0 := 204) (pc' := 221) rfl (hb hby at_204) (by decide) (by decide) k) ?_
              show Go _ _ _ _ _ _ _ _ (mkF m 221 #[.val (.long off), .second, .val (.int i2), .val (.int i3), .val (.int i4), .val (.int i5), .val (.int md), .val (.long t), .second, .val (.int kk), .val (.ref b2), .val (.int mul), .val (.ref b3), .val (.double r), .second, .val (.long wl), .second, .val (.int (1 : Int32))] [])
              exact hJ27 _ (by rw [if_neg hc28, if_pos hc30, if_pos hc31])
            · -- pc 194 no
              refine Go.on (fun _ k => XS.ifYes X26.here hx rfl (pc0 := 194) (pc' := 201) rfl (hb hby at_194) rfl ((if0 _ _).trans (feq hc31).2) (by decide) (by decide) k) ?_
              show Go _ _ _ _ _ _ _ _ (mkF m 201 #[.val (.long off), .second, .val (.int i2), .val (.int i3), .val (.int i4), .val (.int i5), .val (.int md), .val (.long t), .second, .val (.int kk), .val (.ref b2), .val (.int mul), .val (.ref b3), .val (.double r), .second, .val (.long wl), .second, .unset] [])
              refine Go.on (fun _ k => XS.iconst X26.here hx rfl (hb hby at_201) k) ?_
              show Go _ _ _ _ _ _ _ _ (mkF m 202 #[.val (.long off), .second, .val (.int i2), .val (.int i3), .val (.int i4), .val (.int i5), .val (.int md), .val (.long t), .second, .val (.int kk), .val (.ref b2), .val (.int mul), .val (.ref b3), .val (.double r), .second, .val (.long wl), .second, .unset] [(.int (0 : Int32))])
              refine Go.on (fun _ k => XS.istore X26.here hx rfl (hb hby at_202) rfl (l' := #[.val (.long off), .second, .val (.int i2), .val (.int i3), .val (.int i4), .val (.int i5), .val (.int md), .val (.long t), .second, .val (.int kk), .val (.ref b2), .val (.int mul), .val (.ref b3), .val (.double r), .second, .val (.long wl), .second, .val (.int (0 : Int32))]) rfl k) ?_
              show Go _ _ _ _ _ _ _ _ (mkF m 204 #[.val (.long off), .second, .val (.int i2), .val (.int i3), .val (.int i4), .val (.int i5), .val (.int md), .val (.long t), .second, .val (.int kk), .val (.ref b2), .val (.int mul), .val (.ref b3), .val (.double r), .second, .val (.long wl), .second, .val (.int (0 : Int32))] [])
              refine Go.on (fun _ k => XS.goto X26.here hx rfl (pc0 := 204) (pc' := 221) rfl (hb hby at_204) (by decide) (by decide) k) ?_
              show Go _ _ _ _ _ _ _ _ (mkF m 221 #[.val (.long off), .second, .val (.int i2), .val (.int i3), .val (.int i4), .val (.int i5), .val (.int md), .val (.long t), .second, .val (.int kk), .val (.ref b2), .val (.int mul), .val (.ref b3), .val (.double r), .second, .val (.long wl), .second, .val (.int (0 : Int32))] [])
              exact hJ27 _ (by rw [if_neg hc28, if_pos hc30, if_neg hc31])
          · -- pc 187 no
            refine Go.on (fun _ k => XS.ifYes X26.here hx rfl (pc0 := 187) (pc' := 207) rfl (hb hby at_187) rfl ((if0 _ _).trans (feq (fun q => hc30 (own_lc_eq.mp q))).2) (by decide) (by decide) k) ?_
            show Go _ _ _ _ _ _ _ _ (mkF m 207 #[.val (.long off), .second, .val (.int i2), .val (.int i3), .val (.int i4), .val (.int i5), .val (.int md), .val (.long t), .second, .val (.int kk), .val (.ref b2), .val (.int mul), .val (.ref b3), .val (.double r), .second, .val (.long wl), .second, .unset] [])
            refine Go.on (fun _ k => XS.dload X26.here hx rfl (hb hby at_207) rfl k) ?_
            show Go _ _ _ _ _ _ _ _ (mkF m 209 #[.val (.long off), .second, .val (.int i2), .val (.int i3), .val (.int i4), .val (.int i5), .val (.int md), .val (.long t), .second, .val (.int kk), .val (.ref b2), .val (.int mul), .val (.ref b3), .val (.double r), .second, .val (.long wl), .second, .unset] [(.double r)])
            refine Go.on (fun _ k => XS.dconst0 X26.here hx rfl (v := (0 : UInt64)) (hb hby at_209) rfl k) ?_
            show Go _ _ _ _ _ _ _ _ (mkF m 210 #[.val (.long off), .second, .val (.int i2), .val (.int i3), .val (.int i4), .val (.int i5), .val (.int md), .val (.long t), .second, .val (.int kk), .val (.ref b2), .val (.int mul), .val (.ref b3), .val (.double r), .second, .val (.long wl), .second, .unset] [(.double (0 : UInt64)), (.double r)])
            refine Go.on (fun _ k => XS.dcmpS X26.here hx rfl (hb hby at_210) rfl rfl k) ?_
            show Go _ _ _ _ _ _ _ _ (mkF m 211 #[.val (.long off), .second, .val (.int i2), .val (.int i3), .val (.int i4), .val (.int i5), .val (.int md), .val (.long t), .second, .val (.int kk), .val (.ref b2), .val (.int mul), .val (.ref b3), .val (.double r), .second, .val (.long wl), .second, .unset] [(.int (cmpValue (FP.dcmp r (0 : UInt64)) .g))])
            by_cases hc32 : (cmpValue (FP.dcmp r (0 : UInt64)) .g) < (0 : Int32)
            · -- pc 211 yes
              refine Go.on (fun _ k => XS.ifNo X26.here hx rfl (hb hby at_211) rfl ((if0 _ _).trans (tlt hc32).2.1) k) ?_
              show Go _ _ _ _ _ _ _ _ (mkF m 214 #[.val (.long off), .second, .val (.int i2), .val (.int i3), .val (.int i4), .val (.int i5), .val (.int md), .val (.long t), .second, .val (.int kk), .val (.ref b2), .val (.int mul), .val (.ref b3), .val (.double r), .second, .val (.long wl), .second, .unset] [])
              refine Go.on (fun _ k => XS.iconst X26.here hx rfl (hb hby at_214) k) ?_
              show Go _ _ _ _ _ _ _ _ (mkF m 215 #[.val (.long off), .second, .val (.int i2), .val (.int i3), .val (.int i4), .val (.int i5), .val (.int md), .val (.long t), .second, .val (.int kk), .val (.ref b2), .val (.int mul), .val (.ref b3), .val (.double r), .second, .val (.long wl), .second, .unset] [(.int (1 : Int32))])
              refine Go.on (fun _ k => XS.goto X26.here hx rfl (pc0 := 215) (pc' := 219) rfl (hb hby at_215) (by decide) (by decide) k) ?_
              show Go _ _ _ _ _ _ _ _ (mkF m 219 #[.val (.long off), .second, .val (.int i2), .val (.int i3), .val (.int i4), .val (.int i5), .val (.int md), .val (.long t), .second, .val (.int kk), .val (.ref b2), .val (.int mul), .val (.ref b3), .val (.double r), .second, .val (.long wl), .second, .unset] [(.int (1 : Int32))])
              refine Go.on (fun _ k => XS.istore X26.here hx rfl (hb hby at_219) rfl (l' := #[.val (.long off), .second, .val (.int i2), .val (.int i3), .val (.int i4), .val (.int i5), .val (.int md), .val (.long t), .second, .val (.int kk), .val (.ref b2), .val (.int mul), .val (.ref b3), .val (.double r), .second, .val (.long wl), .second, .val (.int (1 : Int32))]) rfl k) ?_
              show Go _ _ _ _ _ _ _ _ (mkF m 221 #[.val (.long off), .second, .val (.int i2), .val (.int i3), .val (.int i4), .val (.int i5), .val (.int md), .val (.long t), .second, .val (.int kk), .val (.ref b2), .val (.int mul), .val (.ref b3), .val (.double r), .second, .val (.long wl), .second, .val (.int (1 : Int32))] [])
              exact hJ27 _ (by rw [if_neg hc28, if_neg hc30, if_pos hc32])
            · -- pc 211 no
              refine Go.on (fun _ k => XS.ifYes X26.here hx rfl (pc0 := 211) (pc' := 218) rfl (hb hby at_211) rfl ((if0 _ _).trans (flt hc32).2.1) (by decide) (by decide) k) ?_
              show Go _ _ _ _ _ _ _ _ (mkF m 218 #[.val (.long off), .second, .val (.int i2), .val (.int i3), .val (.int i4), .val (.int i5), .val (.int md), .val (.long t), .second, .val (.int kk), .val (.ref b2), .val (.int mul), .val (.ref b3), .val (.double r), .second, .val (.long wl), .second, .unset] [])
              refine Go.on (fun _ k => XS.iconst X26.here hx rfl (hb hby at_218) k) ?_
              show Go _ _ _ _ _ _ _ _ (mkF m 219 #[.val (.long off), .second, .val (.int i2), .val (.int i3), .val (.int i4), .val (.int i5), .val (.int md), .val (.long t), .second, .val (.int kk), .val (.ref b2), .val (.int mul), .val (.ref b3), .val (.double r), .second, .val (.long wl), .second, .unset] [(.int (0 : Int32))])
              refine Go.on (fun _ k => XS.istore X26.here hx rfl (hb hby at_219) rfl (l' := #[.val (.long off), .second, .val (.int i2), .val (.int i3), .val (.int i4), .val (.int i5), .val (.int md), .val (.long t), .second, .val (.int kk), .val (.ref b2), .val (.int mul), .val (.ref b3), .val (.double r), .second, .val (.long wl), .second, .val (.int (0 : Int32))]) rfl k) ?_
              show Go _ _ _ _ _ _ _ _ (mkF m 221 #[.val (.long off), .second, .val (.int i2), .val (.int i3), .val (.int i4), .val (.int i5), .val (.int md), .val (.long t), .second, .val (.int kk), .val (.ref b2), .val (.int mul), .val (.ref b3), .val (.double r), .second, .val (.long wl), .second, .val (.int (0 : Int32))] [])
              exact hJ27 _ (by rw [if_neg hc28, if_neg hc30, if_neg hc32])
      intro sg hsg
      refine Go.on (fun _ k => XS.iload X26.here hx rfl (hb hby at_221) rfl k) ?_
      show Go _ _ _ _ _ _ _ _ (mkF m 223 #[.val (.long off), .second, .val (.int i2), .val (.int i3), .val (.int i4), .val (.int i5), .val (.int md), .val (.long t), .second, .val (.int kk), .val (.ref b2), .val (.int mul), .val (.ref b3), .val (.double r), .second, .val (.long wl), .second, .val (.int sg)] [(.int mul)])
      suffices hJ34 : ∀ (v33 : Int32), v33 = (if mul = (0 : Int32) then (0 : Int32) else (if sg = (0 : Int32) then (0 : Int32) else (1 : Int32))) → Go p e below s K1 K2 QQ T26 (mkF m 236 #[.val (.long off), .second, .val (.int i2), .val (.int i3), .val (.int i4), .val (.int i5), .val (.int md), .val (.long t), .second, .val (.int kk), .val (.ref b2), .val (.int mul), .val (.ref b3), .val (.double r), .second, .val (.long wl), .second, .val (.int sg)] [(.int v33)]) by
        by_cases hc35 : mul = (0 : Int32)
        · -- pc 223 yes
          refine Go.on (fun _ k => XS.ifYes X26.here hx rfl (pc0 := 223) (pc' := 235) rfl (hb hby at_223) rfl ((if0 _ _).trans (teq hc35).1) (by decide) (by decide) k) ?_
          show Go _ _ _ _ _ _ _ _ (mkF m 235 #[.val (.long off), .second, .val (.int i2), .val (.int i3), .val (.int i4), .val (.int i5), .val (.int md), .val (.long t), .second, .val (.int kk), .val (.ref b2), .val (.int mul), .val (.ref b3), .val (.double r), .second, .val (.long wl), .second, .val (.int sg)] [])
          refine Go.on (fun _ k => XS.iconst X26.here hx rfl (hb hby at_235) k) ?_
          show Go _ _ _ _ _ _ _ _ (mkF m 236 #[.val (.long off), .second, .val (.int i2), .val (.int i3), .val (.int i4), .val (.int i5), .val (.int md), .val (.long t), .second, .val (.int kk), .val (.ref b2), .val (.int mul), .val (.ref b3), .val (.double r), .second, .val (.long wl), .second, .val (.int sg)] [(.int (0 : Int32))])
          exact hJ34 _ (by rw [if_pos hc35])
        · -- pc 223 no
          refine Go.on (fun _ k => XS.ifNo X26.here hx rfl (hb hby at_223) rfl ((if0 _ _).trans (feq hc35).1) k) ?_
          show Go _ _ _ _ _ _ _ _ (mkF m 226 #[.val (.long off), .second, .val (.int i2), .val (.int i3), .val (.int i4), .val (.int i5), .val (.int md), .val (.long t), .second, .val (.int kk), .val (.ref b2), .val (.int mul), .val (.ref b3), .val (.double r), .second, .val (.long wl), .second, .val (.int sg)] [])
          refine Go.on (fun _ k => XS.iload X26.here hx rfl (hb hby at_226) rfl k) ?_
          show Go _ _ _ _ _ _ _ _ (mkF m 228 #[.val (.long off), .second, .val (.int i2), .val (.int i3), .val (.int i4), .val (.int i5), .val (.int md), .val (.long t), .second, .val (.int kk), .val (.ref b2), .val (.int mul), .val (.ref b3), .val (.double r), .second, .val (.long wl), .second, .val (.int sg)] [(.int sg)])
          by_cases hc36 : sg = (0 : Int32)
          · -- pc 228 yes
            refine Go.on (fun _ k => XS.ifYes X26.here hx rfl (pc0 := 228) (pc' := 235) rfl (hb hby at_228) rfl ((if0 _ _).trans (teq hc36).1) (by decide) (by decide) k) ?_
            show Go _ _ _ _ _ _ _ _ (mkF m 235 #[.val (.long off), .second, .val (.int i2), .val (.int i3), .val (.int i4), .val (.int i5), .val (.int md), .val (.long t), .second, .val (.int kk), .val (.ref b2), .val (.int mul), .val (.ref b3), .val (.double r), .second, .val (.long wl), .second, .val (.int sg)] [])
            refine Go.on (fun _ k => XS.iconst X26.here hx rfl (hb hby at_235) k) ?_
            show Go _ _ _ _ _ _ _ _ (mkF m 236 #[.val (.long off), .second, .val (.int i2), .val (.int i3), .val (.int i4), .val (.int i5), .val (.int md), .val (.long t), .second, .val (.int kk), .val (.ref b2), .val (.int mul), .val (.ref b3), .val (.double r), .second, .val (.long wl), .second, .val (.int sg)] [(.int (0 : Int32))])
            exact hJ34 _ (by rw [if_neg hc35, if_pos hc36])
          · -- pc 228 no
            refine Go.on (fun _ k => XS.ifNo X26.here hx rfl (hb hby at_228) rfl ((if0 _ _).trans (feq hc36).1) k) ?_
            show Go _ _ _ _ _ _ _ _ (mkF m 231 #[.val (.long off), .second, .val (.int i2), .val (.int i3), .val (.int i4), .val (.int i5), .val (.int md), .val (.long t), .second, .val (.int kk), .val (.ref b2), .val (.int mul), .val (.ref b3), .val (.double r), .second, .val (.long wl), .second, .val (.int sg)] [])
            refine Go.on (fun _ k => XS.iconst X26.here hx rfl (hb hby at_231) k) ?_
            show Go _ _ _ _ _ _ _ _ (mkF m 232 #[.val (.long off), .second, .val (.int i2), .val (.int i3), .val (.int i4), .val (.int i5), .val (.int md), .val (.long t), .second, .val (.int kk), .val (.ref b2), .val (.int mul), .val (.ref b3), .val (.double r), .second, .val (.long wl), .second, .val (.int sg)] [(.int (1 : Int32))])
            refine Go.on (fun _ k => XS.goto X26.here hx rfl (pc0 := 232) (pc' := 236) rfl (hb hby at_232) (by decide) (by decide) k) ?_
            show Go _ _ _ _ _ _ _ _ (mkF m 236 #[.val (.long off), .second, .val (.int i2), .val (.int i3), .val (.int i4), .val (.int i5), .val (.int md), .val (.long t), .second, .val (.int kk), .val (.ref b2), .val (.int mul), .val (.ref b3), .val (.double r), .second, .val (.long wl), .second, .val (.int sg)] [(.int (1 : Int32))])
            exact hJ34 _ (by rw [if_neg hc35, if_neg hc36])
      intro v33 hv33
      refine Go.retN X26 hx (t := .boolean) Bd.returns (by simp) (hb hby at_236) ?_ (by rw [hK1]; decide) (by rw [hK2]; decide)
      rw [e26, ← hQQ]
      have hres : v33 = 1 := own_pure ht hkk hlag1 hmul hr hwl hsg hv33
      rw [hres]
      exact ⟨rfl, N26⟩
set_option maxRecDepth 65536 in
set_option maxHeartbeats 40000000 in
theorem comes_1 {Post : Tables → Env → Array Value → State → Outcome → State → Prop} (hpost : ∀ tb e args s v u, (limb_1_1.after args s (.returned v) u = true ∧ limb_1_2.after args s (.returned v) u = true ∧ True) → FrameEnd s (.returned v) u (Jvm.fieldLocs frame_1_writes args s ++ Jvm.arrayLocs frame_1_arrays args s ++ Jvm.staticLocs frame_1_statics s) 16 128 → Post tb e args s (.returned v) u) :
    ArmFor flags0 classFile x code maxLocals ret World_1 tables_1 room_1 Calls_1 rest_1 Pre_1 Post := by
  intro l hfl _ _ p e ha hc hk s m args below hf hA hF happ hP
  obtain ⟨hcalls, hrest, hpre⟩ := hP
  obtain ⟨-, -, -, hnamed, -, -, -, hat⟩ := (Spec.applies_iff hf).mp happ
  obtain ⟨hg, hn⟩ := and_e (Cond.before_iff.mp (show (Jvm.Cond.and given_1 narrow_1).before args s = true from hpre))
  obtain ⟨g0, r0⟩ := and_e hg
  obtain ⟨g1, r1⟩ := and_e r0
  obtain ⟨g2, r2⟩ := and_e r1
  obtain ⟨g3, r3⟩ := and_e r2
  obtain ⟨g4, g5⟩ := and_e r3
  obtain ⟨w0, w1, w2, w3, w4, rfl⟩ : ∃ w0 w1 w2 w3 w4 : Value, args = #[w0, w1, w2, w3, w4] := by
    have hs : args.size = 5 := by simpa [Cond.value, given_1] using g0
    obtain ⟨L⟩ := args
    match L, hs with
    | [w0, w1, w2, w3, w4], _ => exact ⟨w0, w1, w2, w3, w4, rfl⟩
  have hw := fun d (hd : d ∈ tables_1) => atoms_spec (ws := Jvm.Cond.code x code maxLocals ret :: tables_1) hat d (List.mem_cons_of_mem _ hd)
  have hfit : Fit s := fun {y c} hc i hi => by
    obtain ⟨ha, rfl⟩ := Array.getElem?_eq_some_iff.mp hc
    have q := List.all_eq_true.mp ((Array.all_eq_true_iff_forall_mem.mp hF) _ (Array.getElem_mem ha)) i (List.mem_range.mpr hi)
    simpa [Array.getElem?_eq_getElem hi] using q
  obtain ⟨i0, ei0⟩ := isL_v g1
  obtain rfl : w0 = (.long i0) := Option.some.inj ei0
  obtain ⟨i1, ei1⟩ := is_v g2
  obtain rfl : w1 = (.int i1) := Option.some.inj ei1
  obtain ⟨i2, ei2⟩ := is_v g3
  obtain rfl : w2 = (.int i2) := Option.some.inj ei2
  obtain ⟨i3, ei3⟩ := is_v g4
  obtain rfl : w3 = (.int i3) := Option.some.inj ei3
  obtain ⟨i4, ei4⟩ := is_v g5
  obtain rfl : w4 = (.int i4) := Option.some.inj ei4
  obtain ⟨n, o, h1, h2, h3, _, L, rfl, ⟨rfl, N⟩, hq⟩ := rm0 l s _ hw tables_1 i0 i1 i2 i3 i4 s.heap s.heap.size (Nat.le_refl _) p e ha hc hk s m _ below hf ((Spec.applies_iff_loose hf).mp happ).1 ⟨rfl, State.Warmed39.refl s, rfl⟩ trivial
  refine ⟨n, _, h1, h2, h3, hpost _ _ _ _ _ _ ⟨Cond.after_iff.mpr rfl, Cond.after_iff.mpr (eq_i res_at (Term.int_eval (1)) rfl), trivial⟩ ⟨hq.1, hq.2.1, (hq.2.2.sift fun y hy => Or.inr (N y hy)).mono (by decide) (by decide)⟩⟩
theorem main_1_1 : Claimed_1_1 := comes_1 fun _ _ _ _ _ _ h hF => ⟨h.1, hF⟩
theorem main_1_2 : Claimed_1_2 := comes_1 fun _ _ _ _ _ _ h hF => ⟨h.2.1, hF⟩
end Jvm.Pilot.@@N@@
namespace Jvm.Pilot.@@N@@
open Jvm Jvm.ClassFile Sem Op Lib Jvm.Free Jvm.Stand Jvm.Pilot.@@N@@.Jvm.D
/-! MADE BY PROGRAM (witnessworld.py) out of the Statement's table words and the real class files: 10 classes; the members and pool entries that the words name. The judged class is class 1, her method 1. -/
namespace start1
open Jvm.ClassFile
def u (s : String) : CpInfo := .utf8 (stringToUtf16 s)
/-- a pool by its gaps: so many unusable entries, then the entry; so many at the end -/
def gap : Nat → List CpInfo → List CpInfo
  | 0, r => r
  | n + 1, r => .unusable :: gap n r
def poolList (es : List (Nat × CpInfo)) (last : Nat) : List CpInfo := es.foldr (fun e r => gap e.1 (e.2 :: r)) (gap last [])
def pool (es : List (Nat × CpInfo)) (last : Nat) : Array CpInfo := ⟨poolList es last⟩
def fileOf (pool : Array CpInfo) (this : Nat) (attrs : Array Attribute := #[]) (ms : Array MethodInfo := #[]) (fl : Nat := 33) (sup : Nat := 0) (ifs : Array Nat := #[]) (fds : Array FieldInfo := #[]) : ClassFile where
  minorVersion := 0
  majorVersion := 65
  constantPool := pool
  accessFlags := fl
  thisClass := this
  superClass := sup
  interfaces := ifs
  fields := fds
  methods := ms
  attributes := attrs
def plain (name : String) (sup : Option ClassId) : Class where
  name := name
  kind := .ordinary
  loader := none
  accessFlags := 33
  super := sup
  interfaces := #[]
  cf := none
  fields := #[]
  methods := #[]
  instanceTypes := #[]
  staticTypes := #[]
  resolved := #[]
  callSites := []
  init := .initialized
  statics := none
  mirror := none

def pool0 : Array CpInfo := pool [(5, u "<init>"), (0, u "()V"), (1, .class_ 10), (1, u "java/lang/Object")] 113

def k0c0 : Code := { maxStack := 0, maxLocals := 1, code := object_method_1_code, exceptionTable := #[], attributes := #[] }
def k0m0 : Method := { name := "<init>", desc := "()V", sig := { parameters := [], returnType := none }, accessFlags := 1, code := some k0c0 }
/-- java/lang/Object -/
def k0 : Class := { plain "java/lang/Object" none with
  accessFlags := 33
  interfaces := #[]
  cf := some (fileOf pool0 8 #[] #[{ accessFlags := 1, nameIndex := 5, descriptorIndex := 6, attributes := #[] }] 33 0 #[] #[])
  fields := #[]
  methods := #[k0m0]
  instanceTypes := #[]
  staticTypes := #[]
  resolved := Array.replicate 124 none
  statics := none }

def pool1 : Array CpInfo := pool [(2, .class_ 4), (1, u "java/lang/Object"), (0, u "<init>"), (0, u "()V"), (0, .double 9223372036854775808), (1, .class_ 10), (0, u "com/example/deliberate_scaler/deliberatescaler/model/Simulation$Outcome"), (0, .methodref 9 12), (0, .nameAndType 5 13), (0, u "(JJJDDDD)V"), (0, .methodref 9 15), (0, .nameAndType 16 17), (0, u "relativeLag"), (0, u "()D"), (0, .integer 1073741823), (0, .class_ 20), (0, u "com/example/deliberate_scaler/deliberatescaler/model/OutcomeRelativeLagPinLaw"), (2, u "law"), (0, u "(JIIII)Z")] 7

def k1m0 : Method := { name := "<init>", desc := "()V", sig := { parameters := [], returnType := none }, accessFlags := 1, code := none }
def k1c1 : Code := { maxStack := 16, maxLocals := 18, code := code, exceptionTable := #[], attributes := #[] }
def k1m1 : Method := { name := "law", desc := "(JIIII)Z", sig := { parameters := [.long, .int, .int, .int, .int], returnType := some .boolean }, accessFlags := 9, code := some k1c1 }
/-- com/example/deliberate_scaler/deliberatescaler/model/OutcomeRelativeLagPinLaw -/
def k1 : Class := { plain "com/example/deliberate_scaler/deliberatescaler/model/OutcomeRelativeLagPinLaw" (some 0) with
  accessFlags := 49
  interfaces := #[]
  cf := some (fileOf pool1 19 #[] #[{ accessFlags := 1, nameIndex := 5, descriptorIndex := 6, attributes := #[] }, { accessFlags := 9, nameIndex := 23, descriptorIndex := 24, attributes := #[] }] 49 2 #[] #[])
  fields := #[]
  methods := #[k1m0, k1m1]
  instanceTypes := #[]
  staticTypes := #[]
  resolved := Array.replicate 32 none
  statics := none }

def pool2 : Array CpInfo := pool [(1, .methodref 2 3), (0, .class_ 4), (0, .nameAndType 5 6), (0, u "java/lang/Object"), (0, u "<init>"), (0, u "()V"), (0, .class_ 8), (0, u "java/lang/Record")] 13

def k2c0 : Code := { maxStack := 1, maxLocals := 1, code := jdk_30_method_1_code, exceptionTable := #[], attributes := #[] }
def k2m0 : Method := { name := "<init>", desc := "()V", sig := { parameters := [], returnType := none }, accessFlags := 4, code := some k2c0 }
/-- java/lang/Record -/
def k2 : Class := { plain "java/lang/Record" (some 0) with
  accessFlags := 1057
  interfaces := #[]
  cf := some (fileOf pool2 7 #[] #[{ accessFlags := 4, nameIndex := 5, descriptorIndex := 6, attributes := #[] }] 1057 2 #[] #[])
  fields := #[]
  methods := #[k2m0]
  instanceTypes := #[]
  staticTypes := #[]
  resolved := Array.replicate 22 none
  statics := none }

def pool3 : Array CpInfo := pool [(1, .methodref 2 3), (0, .class_ 4), (0, .nameAndType 5 6), (0, u "java/lang/Record"), (0, u "<init>"), (0, u "()V"), (0, .fieldref 8 9), (0, .class_ 10), (0, .nameAndType 11 12), (0, u "com/example/deliberate_scaler/deliberatescaler/model/Simulation$Outcome"), (0, u "offered"), (0, u "J"), (0, .fieldref 8 14), (0, .nameAndType 15 12), (0, u "accepted"), (0, .fieldref 8 17), (0, .nameAndType 18 12), (0, u "rejected"), (0, .fieldref 8 20), (0, .nameAndType 21 22), (0, u "meanResponseTime"), (0, u "D"), (0, .fieldref 8 24), (0, .nameAndType 25 22), (0, u "meanInSystem"), (0, .fieldref 8 27), (0, .nameAndType 28 22), (0, u "workerSeconds"), (0, .fieldref 8 30), (0, .nameAndType 31 22), (0, u "targetSeconds"), (12, u "(JJJDDDD)V"), (4, u "()D"), (1, u "relativeLag"), (7, .class_ 60), (0, u "com/example/deliberate_scaler/deliberatescaler/model/Simulation")] 25

def k3c0 : Code := { maxStack := 3, maxLocals := 15, code := prog_47_method_1_code, exceptionTable := #[], attributes := #[] }
def k3m0 : Method := { name := "<init>", desc := "(JJJDDDD)V", sig := { parameters := [.long, .long, .long, .double, .double, .double, .double], returnType := none }, accessFlags := 1, code := some k3c0 }
def k3c1 : Code := { maxStack := 4, maxLocals := 1, code := prog_47_method_3_code, exceptionTable := #[], attributes := #[] }
def k3m1 : Method := { name := "relativeLag", desc := "()D", sig := { parameters := [], returnType := some .double }, accessFlags := 1, code := some k3c1 }
/-- com/example/deliberate_scaler/deliberatescaler/model/Simulation$Outcome -/
def k3 : Class := { plain "com/example/deliberate_scaler/deliberatescaler/model/Simulation$Outcome" (some 2) with
  accessFlags := 49
  interfaces := #[]
  cf := some (fileOf pool3 8 #[.nestHost 59] #[{ accessFlags := 1, nameIndex := 5, descriptorIndex := 44, attributes := #[] }, { accessFlags := 1, nameIndex := 51, descriptorIndex := 49, attributes := #[] }] 49 2 #[] #[{ accessFlags := 18, nameIndex := 11, descriptorIndex := 12, attributes := #[] }, { accessFlags := 18, nameIndex := 15, descriptorIndex := 12, attributes := #[] }, { accessFlags := 18, nameIndex := 18, descriptorIndex := 12, attributes := #[] }, { accessFlags := 18, nameIndex := 21, descriptorIndex := 22, attributes := #[] }, { accessFlags := 18, nameIndex := 25, descriptorIndex := 22, attributes := #[] }, { accessFlags := 18, nameIndex := 28, descriptorIndex := 22, attributes := #[] }, { accessFlags := 18, nameIndex := 31, descriptorIndex := 22, attributes := #[] }])
  fields := #[{ name := "offered", type := .long, accessFlags := 18, slot := 0, constantValue := 0 }, { name := "accepted", type := .long, accessFlags := 18, slot := 1, constantValue := 0 }, { name := "rejected", type := .long, accessFlags := 18, slot := 2, constantValue := 0 }, { name := "meanResponseTime", type := .double, accessFlags := 18, slot := 3, constantValue := 0 }, { name := "meanInSystem", type := .double, accessFlags := 18, slot := 4, constantValue := 0 }, { name := "workerSeconds", type := .double, accessFlags := 18, slot := 5, constantValue := 0 }, { name := "targetSeconds", type := .double, accessFlags := 18, slot := 6, constantValue := 0 }]
  methods := #[k3m0, k3m1]
  instanceTypes := #[.long, .long, .long, .double, .double, .double, .double]
  staticTypes := #[]
  resolved := Array.replicate 86 none
  statics := none }

def pool4 : Array CpInfo := pool [(1, u "java/lang/Cloneable"), (0, .class_ 1), (0, u "java/lang/Object"), (0, .class_ 3)] 3

/-- java/lang/Cloneable -/
def k4 : Class := { plain "java/lang/Cloneable" (some 0) with
  accessFlags := 1537
  interfaces := #[]
  cf := some (fileOf pool4 2 #[] #[] 1537 4 #[] #[])
  fields := #[]
  methods := #[]
  instanceTypes := #[]
  staticTypes := #[]
  resolved := Array.replicate 8 none
  statics := none }

def pool5 : Array CpInfo := pool [(1, u "java/io/Serializable"), (0, .class_ 1), (0, u "java/lang/Object"), (0, .class_ 3)] 3

/-- java/io/Serializable -/
def k5 : Class := { plain "java/io/Serializable" (some 0) with
  accessFlags := 1537
  interfaces := #[]
  cf := some (fileOf pool5 2 #[] #[] 1537 4 #[] #[])
  fields := #[]
  methods := #[]
  instanceTypes := #[]
  staticTypes := #[]
  resolved := Array.replicate 8 none
  statics := none }

/-- the primitive byte -/
def k6 : Class := { plain "byte" none with kind := .primitive 'B', accessFlags := 0x411 }
/-- [B -/
def k7 : Class := { plain "[B" (some 0) with kind := .array 6 .byte, interfaces := #[4, 5], accessFlags := 1041 }

/-- the primitive int -/
def k8 : Class := { plain "int" none with kind := .primitive 'I', accessFlags := 0x411 }
/-- [I -/
def k9 : Class := { plain "[I" (some 0) with kind := .array 8 .int, interfaces := #[4, 5], accessFlags := 1041 }

def heap : Heap := #[]
def classes : Array Class := #[k0, k1, k2, k3, k4, k5, k6, k7, k8, k9]
def interned : List (Array UInt16 × Addr) := []
def slotsUsed : Nat := 0
def theMethod : MethodId := ⟨1, 1⟩
def args0 : Array Value := #[.long 5, .int 300, .int 7, .int 300, .int 7]
def aboutOver (below : List Frame) : State where
  vm := { classes := classes, interned := interned.toArray }
  heap := heap
  slotsUsed := slotsUsed
  threads := #[{ frames := .invoking theMethod args0 :: below }]
def below0 : List Frame := [.native { method := ⟨0, 0⟩, args := #[] }]
def about1 : State := aboutOver below0
def p0 : Program := .bare "" "" ""
def e0 : Env := launch0.env 0 0 0
theorem w_frames : about1.frames = Frame.invoking theMethod args0 :: below0 := rfl
set_option maxRecDepth 65536 in
theorem w_args : argsFit about1.vm theMethod args0 = true := by decide +kernel
set_option maxRecDepth 65536 in
theorem w_heap : heapFits about1 = true := by decide +kernel
set_option maxRecDepth 65536 in
theorem w_runnable : about1.curStatus? = some .runnable := by decide +kernel
set_option maxRecDepth 65536 in
theorem w_alone : about1.alone = true := by decide +kernel
set_option maxRecDepth 65536 in
theorem w_named : about1.methodNamed? x = some theMethod := by decide +kernel
set_option maxRecDepth 65536 in
theorem w_hears : about1.hears theMethod below0 = true := by decide +kernel
set_option maxRecDepth 65536 in
theorem w_ripe : about1.ripe theMethod args0 below0 = true := by decide +kernel
theorem w_running : about1.status = .running := rfl
set_option maxRecDepth 65536 in
theorem w_room : about1.hasRoom e0.platform room_1 = true :=
  launch0.hasRoom_least _ room_1 (by decide +kernel) (by decide +kernel) (by decide +kernel) (by decide +kernel) (by decide +kernel) (by decide +kernel)
theorem allAtoms_all (ts : List Jvm.Cond) (a : Array Jvm.Value) (st : Jvm.State) : (allAtoms ts).before a st = ts.all (fun c => c.before a st) := by
  induction ts with
  | nil => rfl
  | cons c t ih =>
    show (Jvm.Cond.and c (allAtoms t)).before a st = _
    rw [Jvm.Cond.before_and, ih, List.all_cons]
def words1 : List Jvm.Cond := Jvm.Cond.code x code maxLocals ret :: tables_1
/-- a 'code' word, met by the world's own term for the bytes: nothing is compared byte by byte -/
theorem code_word {y : MethodName} {bytes : ByteArray} {mx : Nat} {rt : Option FieldType} {a : Array Value} {s : State} {m : MethodId} {meth : Method} {c : Code} (h1 : s.methodNamed? y = some m) (h2 : s.vm.method? m = some meth) (h3 : meth.code = some c) (h4 : c.code = bytes)
    (h5 : (c.maxLocals == mx && c.exceptionTable.isEmpty && decide (c.maxStack ≤ mostOperands) && decide (meth.sig.returnType = rt) && !meth.locks && decide (parseMethodDescriptor y.desc = some meth.sig)) = true) : (Jvm.Cond.code y bytes mx rt).before a s = true := by
  simp only [Bool.and_eq_true, beq_iff_eq, Bool.not_eq_true', decide_eq_true_eq] at h5
  obtain ⟨⟨⟨⟨⟨g1, g2⟩, g3⟩, g4⟩, g5⟩, g6⟩ := h5
  simp [Cond.before, Cond.holds, Cond.value, h1, h2, h3, h4, g1, g2, g3, g4, g5, g6]
def isCode : Jvm.Cond → Bool
  | .code _ _ _ _ => true
  | _ => false
theorem all_split {L : List Jvm.Cond} {P : Jvm.Cond → Bool} (h1 : L.all (fun c => isCode c || P c) = true) (h2 : ∀ c ∈ L.filter isCode, P c = true) : L.all P = true := by
  refine List.all_eq_true.mpr fun c hc => ?_
  have h := List.all_eq_true.mp h1 c hc
  rcases Bool.eq_false_or_eq_true (isCode c) with hi | hi
  · exact h2 c (List.mem_filter.mpr ⟨hc, hi⟩)
  · simpa [hi] using h
set_option maxRecDepth 65536 in
theorem w_c0 : (Jvm.Cond.code x code maxLocals ret).before args0 about1 = true := code_word (m := ⟨1, 1⟩) (meth := k1m1) (c := k1c1) (by decide +kernel) rfl rfl rfl (by decide +kernel)
set_option maxRecDepth 65536 in
theorem w_c1 : (Jvm.Cond.code ({ cls := "com/example/deliberate_scaler/deliberatescaler/model/Simulation$Outcome", name := "<init>", desc := "(JJJDDDD)V" } : Jvm.MethodName) prog_47_method_1_code (15 : Nat) (Option.none : Option Jvm.ClassFile.FieldType)).before args0 about1 = true := code_word (m := ⟨3, 0⟩) (meth := k3m0) (c := k3c0) (by decide +kernel) rfl rfl rfl (by decide +kernel)
set_option maxRecDepth 65536 in
theorem w_c2 : (Jvm.Cond.code ({ cls := "java/lang/Record", name := "<init>", desc := "()V" } : Jvm.MethodName) jdk_30_method_1_code (1 : Nat) (Option.none : Option Jvm.ClassFile.FieldType)).before args0 about1 = true := code_word (m := ⟨2, 0⟩) (meth := k2m0) (c := k2c0) (by decide +kernel) rfl rfl rfl (by decide +kernel)
set_option maxRecDepth 65536 in
theorem w_c3 : (Jvm.Cond.code ({ cls := "java/lang/Object", name := "<init>", desc := "()V" } : Jvm.MethodName) object_method_1_code (1 : Nat) (Option.none : Option Jvm.ClassFile.FieldType)).before args0 about1 = true := code_word (m := ⟨0, 0⟩) (meth := k0m0) (c := k0c0) (by decide +kernel) rfl rfl rfl (by decide +kernel)
set_option maxRecDepth 65536 in
theorem w_c4 : (Jvm.Cond.code ({ cls := "com/example/deliberate_scaler/deliberatescaler/model/Simulation$Outcome", name := "relativeLag", desc := "()D" } : Jvm.MethodName) prog_47_method_3_code (1 : Nat) (Option.some Jvm.ClassFile.FieldType.double)).before args0 about1 = true := code_word (m := ⟨3, 1⟩) (meth := k3m1) (c := k3c1) (by decide +kernel) rfl rfl rfl (by decide +kernel)
def codes1 : List Jvm.Cond := [Jvm.Cond.code x code maxLocals ret, Jvm.Cond.code ({ cls := "com/example/deliberate_scaler/deliberatescaler/model/Simulation$Outcome", name := "<init>", desc := "(JJJDDDD)V" } : Jvm.MethodName) prog_47_method_1_code (15 : Nat) (Option.none : Option Jvm.ClassFile.FieldType), Jvm.Cond.code ({ cls := "java/lang/Record", name := "<init>", desc := "()V" } : Jvm.MethodName) jdk_30_method_1_code (1 : Nat) (Option.none : Option Jvm.ClassFile.FieldType), Jvm.Cond.code ({ cls := "java/lang/Object", name := "<init>", desc := "()V" } : Jvm.MethodName) object_method_1_code (1 : Nat) (Option.none : Option Jvm.ClassFile.FieldType), Jvm.Cond.code ({ cls := "com/example/deliberate_scaler/deliberatescaler/model/Simulation$Outcome", name := "relativeLag", desc := "()D" } : Jvm.MethodName) prog_47_method_3_code (1 : Nat) (Option.some Jvm.ClassFile.FieldType.double)]
set_option maxRecDepth 65536 in
theorem codes_eq : words1.filter isCode = codes1 := rfl
theorem w_codes : ∀ c ∈ words1.filter isCode, c.before args0 about1 = true := by
  rw [codes_eq]
  intro c hc
  simp only [codes1, List.mem_cons, List.not_mem_nil, or_false] at hc
  rcases hc with rfl | rfl | rfl | rfl | rfl
  · exact w_c0
  · exact w_c1
  · exact w_c2
  · exact w_c3
  · exact w_c4
set_option maxRecDepth 65536 in
theorem w_t1 : (words1.take 24).all (fun c => isCode c || c.before args0 about1) = true := by decide +kernel
set_option maxRecDepth 65536 in
theorem w_t2 : (words1.drop 24).all (fun c => isCode c || c.before args0 about1) = true := by decide +kernel
theorem w_tables : (allAtoms (Jvm.Cond.code x code maxLocals ret :: tables_1)).before args0 about1 = true := by
  rw [allAtoms_all]
  show words1.all (fun c => c.before args0 about1) = true
  refine all_split ?_ w_codes
  rw [← List.take_append_drop 24 words1, List.all_append, w_t1, w_t2]
  rfl
set_option maxRecDepth 65536 in
theorem w_case : (Jvm.Cond.and given_1 narrow_1).before args0 about1 = true := by decide +kernel
theorem w_applies : (headSpec (Jvm.Cond.code x code maxLocals ret :: tables_1) room_1).applies x e0.platform about1 = true :=
  (Spec.applies_iff w_frames).mpr ⟨w_running, w_runnable, w_alone, w_named, w_hears, w_ripe, w_room, w_tables⟩
theorem atStart : AtStart classFile x code maxLocals ret World_1 tables_1 room_1 Calls_1 rest_1 Pre_1 launch0 p0 e0 about1 theMethod args0 below0 :=
  ⟨lists_1, trivial, launch0.admits_env _ _ _, launch0.least_env, fairChoices_fair.cas, fairChoices_fair.clock, w_frames, w_args, w_heap, w_applies, trivial, trivial, w_case⟩
end start1
theorem witness_1 : WitnessClaimed_1 := ⟨start1.p0, start1.e0, start1.about1, start1.theMethod, start1.args0, start1.below0, start1.atStart⟩
end Jvm.Pilot.@@N@@
