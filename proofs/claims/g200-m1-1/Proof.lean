import JvmDerived
import JvmDerived.Pilot.@@N@@Statement
import JvmDerived.Pilot.@@N@@Code
set_option linter.unusedVariables false
set_option linter.unusedSimpArgs false
@@BLOCK:NumsL.lean.txt@@
namespace Jvm.Pilot.@@N@@
open Jvm Jvm.ClassFile Sem Op Lib Jvm.Free Jvm.Stand Jvm.LawKit Jvm.RoadKit Bundle Jvm.Pilot.@@N@@.Jvm.D
section OwnGo
variable {p : Program} {l : Launch} {e : Env} {R : Room} {s : State} {m : MethodId} {args : Array Value} {below : List Frame} {meth : Method} {c : Code} {T T' : State} {locs : List Loc} {cells slots K1 K2 : Nat} {Q : Option Value → Heap → List Loc → Prop}
/-- from T at the frame f the run comes to an end that meets Q -/
def Go (p : Program) (e : Env) (below : List Frame) (s : State) (K1 K2 : Nat) (Q : Option Value → Heap → List Loc → Prop) (T : State) (f : JFrame) : Prop :=
  ∃ s₂ o, Steps p.tables e below (T.setTop f) s₂ ∧ s₂.status = .running ∧ Ended s₂ below o ∧ ∃ v L, o = .returned v ∧ Q v s₂.heap L ∧ FrameEnd s o s₂ L K1 K2
theorem Go.on {f f' : JFrame} (h : ∀ t, Steps p.tables e below (T'.setTop f') t → Steps p.tables e below (T.setTop f) t) (g : Go p e below s K1 K2 Q T' f') : Go p e below s K1 K2 Q T f := by
  obtain ⟨s₂, o, h1, r⟩ := g
  exact ⟨s₂, o, h _ h1, r⟩
theorem Go.cast {f f' : JFrame} (h : f = f') (g : Go p e below s K1 K2 Q T f') : Go p e below s K1 K2 Q T f := h ▸ g
theorem Go.gen {f : JFrame} (h : ∀ k1 k2 q, k1 = K1 → k2 = K2 → Q = q → Go p e below s k1 k2 q T f) : Go p e below s K1 K2 Q T f := h _ _ _ rfl rfl rfl
theorem Go.retV (X : Stand p l e R s m args below meth c T locs cells slots) (hx : p.tables.exec = Jvm.exec) {pc : Nat} {Ls : Array Slot} {w : Value} {t : FieldType} {i : Instr} {rest : List Value} (hret : meth.sig.returnType = some t) (hn : narrow t w = w)
    (hi : (i = .ireturn ∧ (t = .int ∨ t = .boolean ∨ t = .byte ∨ t = .char ∨ t = .short) ∧ ∃ z, w = .int z) ∨ (i = .lreturn ∧ t = .long ∧ ∃ z, w = .long z) ∨ (i = .dreturn ∧ t = .double ∧ ∃ z, w = .double z) ∨ (i = .freturn ∧ t = .float ∧ ∃ z, w = .float z) ∨ (i = .areturn ∧ t.isReference = true ∧ w.isRef = true))
    (hd : decode c.code pc = .ok (i, 1)) (hq : Q (some w) T.heap locs) (hc : cells ≤ K1) (hs : slots ≤ K2) (hlk : meth.locks = false := by assumption) : Go p e below s K1 K2 Q T (mkF m pc Ls (w :: rest)) := by
  obtain ⟨fs, hr, hrun, hended, hW, hsame⟩ := X.leave (v := some w) (fun h => by rw [hret] at h; cases h) hlk
  exact ⟨_, _, retOut X hx hret hn hi hd hr, hrun, hended, _, _, rfl, hq, ⟨_, rfl⟩, hW, hsame.mono hc hs⟩
theorem Go.retN (X : Stand p l e R s m args below meth c T locs cells slots) (hx : p.tables.exec = Jvm.exec) {pc : Nat} {Ls : Array Slot} {z : Int32} {t : FieldType} {rest : List Value} (hret : meth.sig.returnType = some t) (ht : t = .boolean ∨ t = .byte ∨ t = .char ∨ t = .short)
    (hd : decode c.code pc = .ok (.ireturn, 1)) (hq : Q (some (.int (nar t z))) T.heap locs) (hc : cells ≤ K1) (hs : slots ≤ K2) (hlk : meth.locks = false := by assumption) : Go p e below s K1 K2 Q T (mkF m pc Ls (.int z :: rest)) := by
  obtain ⟨fs, hr, hrun, hended, hW, hsame⟩ := X.leave (v := some (.int (nar t z))) (fun h => by rw [hret] at h; cases h) hlk
  exact ⟨_, _, Jvm.RoadKit.retN X hx hret ht hd hr, hrun, hended, _, _, rfl, hq, ⟨_, rfl⟩, hW, hsame.mono hc hs⟩
theorem Go.ret0 (X : Stand p l e R s m args below meth c T locs cells slots) (hx : p.tables.exec = Jvm.exec) {pc : Nat} {Ls : Array Slot} (hret : meth.sig.returnType = none)
    (hd : decode c.code pc = .ok (.return_, 1)) (hq : Q none T.heap locs) (hc : cells ≤ K1) (hs : slots ≤ K2) (hlk : meth.locks = false := by assumption) : Go p e below s K1 K2 Q T (mkF m pc Ls []) := by
  obtain ⟨fs, hr, hrun, hended, hW, hsame⟩ := X.leave (v := none) (fun _ => rfl) hlk
  exact ⟨_, _, X.returnOut hx hret hd hr, hrun, hended, _, _, rfl, hq, ⟨_, rfl⟩, hW, hsame.mono hc hs⟩
theorem own_lc_lt {a b : Int64} : lcmpW a b < 0 ↔ a < b := by rw [lcW]; exact lc_lt a b
theorem own_lc_gt {a b : Int64} : 0 < lcmpW a b ↔ b < a := by rw [lcW]; exact lc_gt a b
theorem own_lc_eq {a b : Int64} : lcmpW a b = 0 ↔ a = b := by rw [lcW]; exact lc_eq a b
theorem own_lremM {g : JFrame} {target : State} (X : Stand p l e R s m args below meth c T locs cells slots) (hx : p.tables.exec = Jvm.exec) (hg : g.method = m) {x y : Int64} {rest : List Value} (hd : decode c.code g.pc = .ok (.lrem, 1)) (hs : g.stack = .long y :: .long x :: rest) (hy : y ≠ 0)
    (hr : Steps p.tables e below (T.setTop { g with pc := g.pc + 1, stack := .long (x % y) :: rest }) target) : Steps p.tables e below (T.setTop g) target := by
  have q : x - x / y * y = x % y := by
    apply Int64.toInt_inj.mp
    have h1 := Int64.le_toInt (x % y)
    have h2 := Int64.toInt_lt (x % y)
    rw [Int64.toInt_sub, Int64.toInt_mul, Int64.toInt_div, Int.bmod_mul_bmod, Int.sub_bmod_bmod, Int.mul_comm (x.toInt.tdiv y.toInt), ← Int.tmod_def, ← Int64.toInt_mod]
    exact Int.bmod_eq_of_le_mul_two (by omega) (by omega)
  exact XS.lrem X.here hx hg hd hs hy (by rw [q]; exact hr)
theorem own_cl_gt {o : Option Ordering} : 0 < cmpValue o .l ↔ o = some .gt := by rcases o with _ | (_ | _ | _) <;> decide
theorem own_cl_lt {o : Option Ordering} : cmpValue o .l < 0 ↔ ¬ (o = some .gt ∨ o = some .eq) := by rcases o with _ | (_ | _ | _) <;> decide
theorem own_cg_lt {o : Option Ordering} : cmpValue o .g < 0 ↔ o = some .lt := by rcases o with _ | (_ | _ | _) <;> decide
theorem own_cg_gt {o : Option Ordering} : 0 < cmpValue o .g ↔ ¬ (o = some .lt ∨ o = some .eq) := by rcases o with _ | (_ | _ | _) <;> decide
theorem own_c_eq {o : Option Ordering} {k : CmpOp} : cmpValue o k = 0 ↔ o = some .eq := by cases k <;> rcases o with _ | (_ | _ | _) <;> decide
end OwnGo
section OwnFp
open Jvm.FP.Core
variable {a b V : UInt64} {x y z v : Int}
/-- the double a is finite and worth x units of 2^-1074 -/
def ZV (a : UInt64) (x : Int) : Prop := DFin a ∧ zval b64 (val64 a) = x
theorem ZV.ne (h : ZV a x) : val64 a ≠ .nan := h.1.ne_nan
theorem ZV.nn (h : ZV a x) : Jvm.Free.Fl.NoNaN64 a := Jvm.Free.Fl.noNaN64_no.mpr h.1.notNaN
theorem ZV.cmp (ha : ZV a x) (hb : ZV b y) : FP.dcmp a b = some (compare x y) := by
  show FP.Core.dcmp a b = _
  rw [dcmp_zval ha.ne hb.ne, ha.2, hb.2]
theorem ZV.uniq (ha : ZV a x) (hb : ZV a y) : x = y := ha.2.symm.trans hb.2
theorem own_fin_of {W : UInt64} (hn : val64 a ≠ .nan) (hW : DFin W) (h : zmag b64 (val64 a) ≤ zmag b64 (val64 W)) : DFin a := by
  cases h2 : val64 a with
  | nan => exact absurd h2 hn
  | inf s =>
    rw [h2] at h
    have := hW.zval_lt
    have e : zmag b64 (.inf s) = b64.tails * 2 ^ (b64.exps - 2) := rfl
    rw [e] at h
    omega
  | fin s c q => exact ⟨s, c, q, h2⟩
theorem own_natAbs (d : Datum) : (zval b64 d).natAbs = zmag b64 d := natAbs_signed _ _
theorem own_fin_of_z {W : UInt64} (hn : val64 a ≠ .nan) (hW : DFin W) (h : (zval b64 (val64 a)).natAbs ≤ (zval b64 (val64 W)).natAbs) : DFin a := by
  rw [own_natAbs, own_natAbs] at h; exact own_fin_of hn hW h
theorem ZV.add (ha : ZV a x) (hb : ZV b y) (hv : ZV V (x + y)) : ZV (FP.dadd a b) (x + y) := by
  have hn : val64 (FP.Core.dadd a b) ≠ .nan := (notNaN_iff _).mp (FP.Core.dadd_out ha.1.notNaN hb.1)
  have e : zval b64 (val64 (FP.Core.dadd a b)) = x + y := by
    have h1 := sum_le good_b64 ha.1 hb.1 (val64_fits a) (val64_fits b) (val64_fits V) hv.ne (by rw [ha.2, hb.2, hv.2]; exact Int.le_refl _)
    have h2 := sum_ge good_b64 ha.1 hb.1 (val64_fits a) (val64_fits b) (val64_fits V) hv.ne (by rw [ha.2, hb.2, hv.2]; exact Int.le_refl _)
    rw [← val64_dadd, hv.2] at h1 h2
    exact Int.le_antisymm h1 h2
  exact ⟨own_fin_of_z hn hv.1 (by rw [e, hv.2]; exact Nat.le_refl _), e⟩
theorem own_neg_fin {d : Datum} (h : ∃ s c q, d = .fin s c q) : ∃ s c q, negate d = .fin s c q := by
  obtain ⟨s, c, q, rfl⟩ := h; exact ⟨_, _, _, rfl⟩
theorem ZV.sub (ha : ZV a x) (hb : ZV b y) (hv : ZV V (x - y)) : ZV (FP.dsub a b) (x - y) := by
  have hn : val64 (FP.Core.dsub a b) ≠ .nan := (notNaN_iff _).mp (FP.Core.dsub_out ha.1.notNaN hb.1)
  have e : zval b64 (val64 (FP.Core.dsub a b)) = x - y := by
    have h1 := sum_le good_b64 ha.1 (own_neg_fin hb.1) (val64_fits a) (negate_fits (val64_fits b)) (val64_fits V) hv.ne (by rw [ha.2, zval_negate, hb.2, hv.2]; omega)
    have h2 := sum_ge good_b64 ha.1 (own_neg_fin hb.1) (val64_fits a) (negate_fits (val64_fits b)) (val64_fits V) hv.ne (by rw [ha.2, zval_negate, hb.2, hv.2]; omega)
    rw [← val64_dsub, hv.2] at h1 h2
    exact Int.le_antisymm h1 h2
  exact ⟨own_fin_of_z hn hv.1 (by rw [e, hv.2]; exact Nat.le_refl _), e⟩
/-- a sum or a difference lies between what bounds it -/
theorem ZV.add_le (ha : ZV a x) (hb : ZV b y) (hv : ZV V v) (h : x + y ≤ v) : zval b64 (val64 (FP.dadd a b)) ≤ v := by
  have h1 := sum_le good_b64 ha.1 hb.1 (val64_fits a) (val64_fits b) (val64_fits V) hv.ne (by rw [ha.2, hb.2, hv.2]; exact h)
  rw [← val64_dadd, hv.2] at h1; exact h1
theorem ZV.add_ge (ha : ZV a x) (hb : ZV b y) (hv : ZV V v) (h : v ≤ x + y) : v ≤ zval b64 (val64 (FP.dadd a b)) := by
  have h1 := sum_ge good_b64 ha.1 hb.1 (val64_fits a) (val64_fits b) (val64_fits V) hv.ne (by rw [ha.2, hb.2, hv.2]; exact h)
  rw [← val64_dadd, hv.2] at h1; exact h1
theorem ZV.sub_le (ha : ZV a x) (hb : ZV b y) (hv : ZV V v) (h : x - y ≤ v) : zval b64 (val64 (FP.dsub a b)) ≤ v := by
  have h1 := sum_le good_b64 ha.1 (own_neg_fin hb.1) (val64_fits a) (negate_fits (val64_fits b)) (val64_fits V) hv.ne (by rw [ha.2, zval_negate, hb.2, hv.2]; omega)
  rw [← val64_dsub, hv.2] at h1; exact h1
theorem ZV.sub_ge (ha : ZV a x) (hb : ZV b y) (hv : ZV V v) (h : v ≤ x - y) : v ≤ zval b64 (val64 (FP.dsub a b)) := by
  have h1 := sum_ge good_b64 ha.1 (own_neg_fin hb.1) (val64_fits a) (negate_fits (val64_fits b)) (val64_fits V) hv.ne (by rw [ha.2, zval_negate, hb.2, hv.2]; omega)
  rw [← val64_dsub, hv.2] at h1; exact h1
/-- the product's bounds -/
theorem own_mul_le (ha : ZV a x) (hb : ZV b y) (hv : ZV V v) (h : x * y ≤ v * (one64 : Int)) : zval b64 (val64 (FP.dmul a b)) ≤ v := by
  obtain ⟨⟨s, c, q, h1⟩, ex⟩ := ha
  obtain ⟨⟨t, d, r, h2⟩, ey⟩ := hb
  have f1 := val64_fits a; have f2 := val64_fits b
  rw [h1] at f1 ex; rw [h2] at f2 ey
  obtain ⟨p1, p2, p3⟩ := product_units f1 f2
  show zval b64 (val64 (FP.Core.dmul a b)) ≤ v
  rw [val64_dmul, h1, h2, p1, ← hv.2]
  refine zval_round_le good_b64 (val64_fits V) hv.ne (e0 := 2 * b64.qmin) (by decide) p2 ?_
  rw [p3, show (b64.qmin - 2 * b64.qmin).toNat = (-b64.qmin).toNat from by decide, pow_qmin64, hv.2, signed_xor]
  have : zval b64 (.fin s c q) * zval b64 (.fin t d r) ≤ v * (one64 : Int) := by rw [ex, ey]; exact h
  exact this
theorem own_mul_ge (ha : ZV a x) (hb : ZV b y) (hv : ZV V v) (h : v * (one64 : Int) ≤ x * y) : v ≤ zval b64 (val64 (FP.dmul a b)) := by
  obtain ⟨⟨s, c, q, h1⟩, ex⟩ := ha
  obtain ⟨⟨t, d, r, h2⟩, ey⟩ := hb
  have f1 := val64_fits a; have f2 := val64_fits b
  rw [h1] at f1 ex; rw [h2] at f2 ey
  obtain ⟨p1, p2, p3⟩ := product_units f1 f2
  show v ≤ zval b64 (val64 (FP.Core.dmul a b))
  rw [val64_dmul, h1, h2, p1, ← hv.2]
  refine zval_round_ge good_b64 (val64_fits V) hv.ne (e0 := 2 * b64.qmin) (by decide) p2 ?_
  rw [p3, show (b64.qmin - 2 * b64.qmin).toNat = (-b64.qmin).toNat from by decide, pow_qmin64, hv.2, signed_xor]
  have : v * (one64 : Int) ≤ zval b64 (.fin s c q) * zval b64 (.fin t d r) := by rw [ex, ey]; exact h
  exact this
theorem ZV.mul (ha : ZV a x) (hb : ZV b y) (hv : ZV V z) (h : x * y = z * (one64 : Int)) : ZV (FP.dmul a b) z := by
  have hn : val64 (FP.Core.dmul a b) ≠ .nan := (notNaN_iff _).mp (FP.Core.dmul_out ha.1 hb.1)
  have e : zval b64 (val64 (FP.Core.dmul a b)) = z := Int.le_antisymm (own_mul_le ha hb hv (Int.le_of_eq h)) (own_mul_ge ha hb hv (Int.le_of_eq h.symm))
  exact ⟨own_fin_of_z hn hv.1 (by rw [e, hv.2]; exact Nat.le_refl _), e⟩
/-- the quotient of finite doubles, the divisor not nought: its datum -/
theorem own_quot (ha : ZV a x) (hb : ZV b y) (hy : y ≠ 0) : ∃ s c q t d r, val64 a = .fin s c q ∧ val64 b = .fin t d r ∧ 0 < d ∧ val64 (FP.ddiv a b) = roundRatio b64 (s != t) c d (q - r) ∧ FP.Core.fits b64 (.fin s c q) ∧ FP.Core.fits b64 (.fin t d r) := by
  obtain ⟨⟨s, c, q, h1⟩, ex⟩ := ha
  obtain ⟨⟨t, d, r, h2⟩, ey⟩ := hb
  have f1 := val64_fits a; have f2 := val64_fits b
  rw [h1] at f1; rw [h2] at f2
  have hd : d ≠ 0 := fun q => by
    subst q
    rw [h2] at ey
    apply hy; rw [← ey]; show signed t (inUnits 0 r _) = 0
    unfold inUnits; rw [Nat.zero_mul, signed_zero]
  refine ⟨s, c, q, t, d, r, h1, h2, Nat.pos_of_ne_zero hd, ?_, f1, f2⟩
  show val64 (FP.Core.ddiv a b) = _
  rw [val64_ddiv, h1, h2]
  show (if d = 0 then _ else _) = _
  rw [if_neg hd]
theorem own_div_mag_le {c d : Nat} {q r : Int} {s t sg : Bool} (f1 : FP.Core.fits b64 (.fin s c q)) (f2 : FP.Core.fits b64 (.fin t d r)) (hd : 0 < d) {W : Datum} (fW : FP.Core.fits b64 W) (hW : W ≠ .nan)
    (h : inUnits c q b64.qmin * one64 ≤ zmag b64 W * inUnits d r b64.qmin) : zmag b64 (roundRatio b64 sg c d (q - r)) ≤ zmag b64 W := by
  have h1 := f1.2.1
  have h2 := f2.2.1
  have hq : b64.qmin < 0 := by decide
  refine zmag_roundRatio_le good_b64 hd fW hW (e0 := 2 * b64.qmin - r) (by omega) (by omega) ?_
  have e1 : (b64.qmin - (2 * b64.qmin - r)).toNat = (r - b64.qmin).toNat := by congr 1; omega
  rw [e1]
  have e2 : inUnits c (q - r) (2 * b64.qmin - r) = inUnits c q b64.qmin * one64 := by
    unfold inUnits
    rw [← pow_qmin64, Nat.mul_assoc, ← Nat.pow_add]
    congr 2; omega
  rw [e2]
  refine Nat.le_trans h (Nat.le_of_eq ?_)
  unfold inUnits
  rw [Nat.mul_comm d, Nat.mul_assoc]
theorem own_div_mag_ge {c d : Nat} {q r : Int} {s t sg : Bool} (f1 : FP.Core.fits b64 (.fin s c q)) (f2 : FP.Core.fits b64 (.fin t d r)) (hd : 0 < d) {W : Datum} (fW : FP.Core.fits b64 W)
    (h : zmag b64 W * inUnits d r b64.qmin ≤ inUnits c q b64.qmin * one64) : zmag b64 W ≤ zmag b64 (roundRatio b64 sg c d (q - r)) := by
  have h1 := f1.2.1
  have h2 := f2.2.1
  have hq : b64.qmin < 0 := by decide
  refine zmag_roundRatio_ge good_b64 hd fW (e0 := 2 * b64.qmin - r) (by omega) (by omega) ?_
  have e1 : (b64.qmin - (2 * b64.qmin - r)).toNat = (r - b64.qmin).toNat := by congr 1; omega
  rw [e1]
  have e2 : inUnits c (q - r) (2 * b64.qmin - r) = inUnits c q b64.qmin * one64 := by
    unfold inUnits
    rw [← pow_qmin64, Nat.mul_assoc, ← Nat.pow_add]
    congr 2; omega
  rw [e2]
  refine Nat.le_trans (Nat.le_of_eq ?_) h
  unfold inUnits
  rw [Nat.mul_comm d, Nat.mul_assoc]
/-- what is said of a quotient: r its units -/
def Quo (x y r : Int) : Prop := ∀ (V : UInt64) (v : Int), ZV V v → (x * (one64 : Int) ≤ v * y → r ≤ v) ∧ (v * y ≤ x * (one64 : Int) → v ≤ r)
theorem own_sgn_z (s : Bool) (m : Nat) : signed s m = if s then -(m : Int) else m := rfl
theorem ZV.neg_ex (h : ZV a x) : ∃ V, ZV V (-x) := by
  refine ⟨FP.Core.dneg a, ?_, ?_⟩
  · obtain ⟨⟨s, c, q, h1⟩, -⟩ := h; exact ⟨!s, c, q, by rw [val64_dneg, h1]; rfl⟩
  · rw [val64_dneg, zval_negate, h.2]
theorem own_mag {s : Bool} {c : Nat} {q : Int} : zval b64 (.fin s c q) = signed s (inUnits c q b64.qmin) := rfl
/-- the quotient by a positive double of at least one -/
theorem ZV.div (ha : ZV a x) (hb : ZV b y) (hy : (one64 : Int) ≤ y) : ∃ r, ZV (FP.ddiv a b) r ∧ Quo x y r := by
  have o1 := one64_pos
  obtain ⟨s, c, q, t, d, r, h1, h2, hd, h3, f1, f2⟩ := own_quot ha hb (by omega)
  have ey := hb.2; rw [h2, own_mag] at ey
  have ex := ha.2; rw [h1, own_mag] at ex
  have t0 : t = false := by
    cases t
    · rfl
    · simp only [own_sgn_z, if_true] at ey; omega
  subst t0
  have hy0 : (0 : Int) < y := by omega
  have ey' : ((inUnits d r b64.qmin : Nat) : Int) = y := ey
  generalize hu : inUnits d r b64.qmin = u at *
  generalize hc : inUnits c q b64.qmin = k at *
  have hsg : sgn (val64 (FP.ddiv a b)) = s := by rw [h3, sgn_roundRatio]; cases s <;> rfl
  have hne : val64 (FP.ddiv a b) ≠ .nan := by rw [h3]; exact roundRatio_ne_nan _ _ _ _ _
  have hz : zval b64 (val64 (FP.ddiv a b)) = signed s (zmag b64 (val64 (FP.ddiv a b))) := by rw [zval, hsg]
  have up : ∀ W : UInt64, val64 W ≠ .nan → k * one64 ≤ zmag b64 (val64 W) * u → zmag b64 (val64 (FP.ddiv a b)) ≤ zmag b64 (val64 W) := fun W hW h => by
    rw [h3]; exact own_div_mag_le f1 f2 hd (val64_fits W) hW (by rw [hu, hc]; exact h)
  have dn : ∀ W : UInt64, zmag b64 (val64 W) * u ≤ k * one64 → zmag b64 (val64 W) ≤ zmag b64 (val64 (FP.ddiv a b)) := fun W h => by
    rw [h3]; exact own_div_mag_ge f1 f2 hd (val64_fits W) (by rw [hu, hc]; exact h)
  have hk : k = zmag b64 (val64 a) := by rw [h1]; exact hc.symm
  have hfin : DFin (FP.ddiv a b) := own_fin_of hne ha.1 (up a ha.ne (by rw [← hk]; exact Nat.mul_le_mul_left _ (by omega)))
  refine ⟨_, ⟨hfin, rfl⟩, fun V v hv => ?_⟩
  rw [hz]
  generalize hm : zmag b64 (val64 (FP.ddiv a b)) = m at *
  have hV := own_natAbs (val64 V)
  rw [hv.2] at hV
  have upV := up V hv.ne
  have dnV := dn V
  rw [← hV] at upV dnV
  clear up dn
  have cast : ∀ p q : Nat, ((p * q : Nat) : Int) = (p : Int) * q := fun p q => by simp
  cases s
  · have ex' : (k : Int) = x := ex
    have em : signed false m = (m : Int) := rfl
    rw [em]
    constructor
    · intro h
      by_cases hv0 : 0 ≤ v
      · have e1 : (v.natAbs : Int) = v := Int.natAbs_of_nonneg hv0
        have : k * one64 ≤ v.natAbs * u := by apply Int.ofNat_le.mp; rw [cast, cast, ex', e1, ey']; exact h
        have := upV this; omega
      · exfalso
        have h5 : v * y < 0 := Int.mul_neg_of_neg_of_pos (by omega) hy0
        have h6 : 0 ≤ x * (one64 : Int) := Int.mul_nonneg (by omega) (by omega)
        omega
    · intro h
      by_cases hv0 : 0 ≤ v
      · have e1 : (v.natAbs : Int) = v := Int.natAbs_of_nonneg hv0
        have : v.natAbs * u ≤ k * one64 := by apply Int.ofNat_le.mp; rw [cast, cast, ex', e1, ey']; exact h
        have := dnV this; omega
      · omega
  · have ex' : -(k : Int) = x := ex
    have em : signed true m = -(m : Int) := rfl
    rw [em]
    have ek : (k : Int) = -x := by omega
    constructor
    · intro h
      by_cases hv0 : 0 ≤ v
      · omega
      · have e1 : (v.natAbs : Int) = -v := by omega
        have : v.natAbs * u ≤ k * one64 := by
          apply Int.ofNat_le.mp; rw [cast, cast, ek, e1, ey', Int.neg_mul, Int.neg_mul]; omega
        have := dnV this; omega
    · intro h
      by_cases hv0 : v ≤ 0
      · have e1 : (v.natAbs : Int) = -v := by omega
        have : k * one64 ≤ v.natAbs * u := by
          apply Int.ofNat_le.mp; rw [cast, cast, ek, e1, ey', Int.neg_mul, Int.neg_mul]; omega
        have := upV this; omega
      · exfalso
        have h5 : 0 < v * y := Int.mul_pos (by omega) hy0
        have h6 : x * (one64 : Int) ≤ 0 := by
          have : 0 ≤ (k : Int) * (one64 : Int) := Int.mul_nonneg (by omega) (by omega)
          rw [ek, Int.neg_mul] at this; omega
        omega
theorem ZV.div_exact (ha : ZV a x) (hb : ZV b y) (hy : (one64 : Int) ≤ y) (hv : ZV V z) (h : x * (one64 : Int) = z * y) : ZV (FP.ddiv a b) z := by
  obtain ⟨r, h1, h2⟩ := ha.div hb hy
  have h3 := h2 V z hv
  have : r = z := Int.le_antisymm (h3.1 (Int.le_of_eq h)) (h3.2 (Int.le_of_eq h.symm))
  exact this ▸ h1
/-- i * 2^k units are a double -/
theorem own_rep (i : Int) (k : Nat) (hi : i.natAbs < 2 ^ 53) (hk : k ≤ 2045) : ∃ V, ZV V (i * ((2 ^ k : Nat) : Int)) := by
  obtain ⟨c', q', h1, h2⟩ := round_exact good_b64 (decide (i < 0)) (c := i.natAbs) (q := (k : Int) + b64.qmin) hi (by omega) (by rw [show b64.qmax = 971 from by decide, qmin_b64]; omega)
  have hf : FP.Core.fits b64 (.fin (decide (i < 0)) c' q') := by rw [← h1]; exact round_fits good_b64 _
  refine ⟨of64 (.fin (decide (i < 0)) c' q'), ⟨_, _, _, val64_of64 hf⟩, ?_⟩
  rw [val64_of64 hf, own_mag, h2]
  unfold inUnits
  rw [show ((k : Int) + b64.qmin - b64.qmin).toNat = k from by omega, signed_mul, own_sgn_z]
  congr 1
  by_cases h : i < 0
  · simp only [h, decide_true, if_true]; omega
  · simp only [h, decide_false]; simp only [Bool.false_eq_true, if_false]; omega
theorem own_one64 : (one64 : Int) = ((2 ^ 1074 : Nat) : Int) := rfl
theorem ZV.of_int {i : Int} (h : DInt i a) : ZV a (i * (one64 : Int)) := by
  refine ⟨?_, DInt_zval h⟩
  unfold DInt at h
  cases h2 : val64 a with
  | nan => rw [h2] at h; exact h.elim
  | inf s => rw [h2] at h; exact h.elim
  | fin s c q => exact ⟨s, c, q, h2⟩
theorem own_i2d (n : Int32) : ZV (FP.i2d n) (n.toInt * (one64 : Int)) := ZV.of_int (i2d_int n)
theorem own_l2d {n : Int64} (h : n.toInt.natAbs ≤ 2 ^ 53) : ZV (FP.l2d n) (n.toInt * (one64 : Int)) := ZV.of_int (l2d_int h)
theorem own_ddiv_nn (ha : DFin a) (hb : DFin b) : FP.ddiv (FP.Core.dneg a) (FP.Core.dneg b) = FP.ddiv a b ∨ val64 (FP.ddiv a b) = .nan := by
  by_cases hn : val64 (FP.ddiv a b) = .nan
  · exact Or.inr hn
  · refine Or.inl (val64_inj hn ?_).symm
    obtain ⟨s, c, q, h1⟩ := ha
    obtain ⟨t, d, r, h2⟩ := hb
    show val64 (FP.Core.ddiv a b) = val64 (FP.Core.ddiv _ _)
    rw [val64_ddiv, val64_ddiv, val64_dneg, val64_dneg, h1, h2]
    show quotient b64 (.fin s c q) (.fin t d r) = quotient b64 (.fin (!s) c q) (.fin (!t) d r)
    simp only [quotient]
    have : ((!s) != (!t)) = (s != t) := by cases s <;> cases t <;> rfl
    rw [this]
theorem ZV.dneg (h : ZV a x) : ZV (FP.Core.dneg a) (-x) := by
  refine ⟨?_, by rw [val64_dneg, zval_negate, h.2]⟩
  obtain ⟨⟨s, c, q, h1⟩, -⟩ := h; exact ⟨!s, c, q, by rw [val64_dneg, h1]; rfl⟩
/-- the quotient by a negative double of at most minus one -/
theorem ZV.div_neg (ha : ZV a x) (hb : ZV b y) (hy : y ≤ -(one64 : Int)) : ∃ r, ZV (FP.ddiv a b) r ∧ Quo (-x) (-y) r := by
  obtain ⟨r, h1, h2⟩ := ha.dneg.div hb.dneg (by omega)
  have o1 := one64_pos
  obtain ⟨s, c, q, t, d, r', -, -, -, h3, -⟩ := own_quot ha hb (by omega)
  rcases own_ddiv_nn ha.1 hb.1 with h | h
  · exact ⟨r, h ▸ h1, h2⟩
  · rw [h3] at h; exact absurd h (roundRatio_ne_nan _ _ _ _ _)
/-- n / D against i / 2^j -/
theorem own_quo_int {n D r : Int} (h : Quo (n * (one64 : Int)) (D * (one64 : Int)) r) (i : Int) (j : Nat) (hj : j ≤ 1074) (hi : i.natAbs < 2 ^ 53) :
    (n * ((2 ^ j : Nat) : Int) ≤ i * D → r ≤ i * ((2 ^ (1074 - j) : Nat) : Int)) ∧ (i * D ≤ n * ((2 ^ j : Nat) : Int) → i * ((2 ^ (1074 - j) : Nat) : Int) ≤ r) := by
  obtain ⟨V, hV⟩ := own_rep i (1074 - j) hi (by omega)
  have q := h V _ hV
  have e : (one64 : Int) = ((2 ^ j : Nat) : Int) * ((2 ^ (1074 - j) : Nat) : Int) := by
    rw [own_one64, ← Int.natCast_mul, ← Nat.pow_add]; congr 2; omega
  have hu : (0 : Int) ≤ ((2 ^ (1074 - j) : Nat) : Int) * (one64 : Int) := Int.mul_nonneg (Int.natCast_nonneg _) (Int.natCast_nonneg _)
  have e1 : n * (one64 : Int) * (one64 : Int) = n * ((2 ^ j : Nat) : Int) * (((2 ^ (1074 - j) : Nat) : Int) * (one64 : Int)) := by
    conv => lhs; arg 1; rw [e]
    rw [← Int.mul_assoc n, Int.mul_assoc (n * _)]
  have e2 : i * ((2 ^ (1074 - j) : Nat) : Int) * (D * (one64 : Int)) = i * D * (((2 ^ (1074 - j) : Nat) : Int) * (one64 : Int)) := by rw [Int.mul_assoc i, Int.mul_left_comm _ D, ← Int.mul_assoc i D]
  rw [e1, e2] at q
  exact ⟨fun z => q.1 (Int.mul_le_mul_of_nonneg_right z hu), fun z => q.2 (Int.mul_le_mul_of_nonneg_right z hu)⟩
theorem own_zero : ZV (0 : UInt64) 0 := ⟨⟨_, _, _, val64_zero⟩, zval64_zero⟩
theorem own_one : ZV (4607182418800017408 : UInt64) (one64 : Int) := by
  have := ZV.of_int dint_one; rwa [Int.one_mul] at this
theorem own_cmp_gt {x y : Int} : some (compare x y) = some Ordering.gt ↔ y < x := by rw [Option.some.injEq]; exact compare_gt_iff x y
theorem own_cmp_lt {x y : Int} : some (compare x y) = some Ordering.lt ↔ x < y := by rw [Option.some.injEq]; exact compare_lt_iff x y
theorem own_cmp_eq {x y : Int} : some (compare x y) = some Ordering.eq ↔ x = y := by rw [Option.some.injEq]; exact compare_eq_iff x y
theorem own_dnn {i : Int} {a : UInt64} (h : DInt i a) : Jvm.Free.Fl.NoNaN64 a := (ZV.of_int h).nn
theorem own_nnd' {a : UInt64} (ha : DFin a) (n : Int32) (hn : n ≠ 0) : Jvm.Free.Fl.NoNaN64 (FP.ddiv a (FP.i2d n)) :=
  Jvm.Free.Fl.noNaN64_no.mpr (FP.Core.ddiv_out ha.notNaN (i2d_fin n) (fun q => i2d_ne_zero hn (by rwa [zero_bits2] at q)))
theorem own_nnd (s : Int64) (n : Int32) (hn : n ≠ 0) : Jvm.Free.Fl.NoNaN64 (FP.ddiv (FP.l2d s) (FP.i2d n)) := own_nnd' (l2d_fin s) n hn
theorem own_dz : DInt 0 (0 : UInt64) := by
  have : (0 : UInt64) = FP.l2d 0 := FP.Core.l2d_zero.symm
  rw [this]; exact l2d_int (a := 0) (by decide)
theorem own_div_eq {S S' : UInt64} {s : Int} (h : DInt s S) (h' : DInt s S') (n : Int32) (hn : 1 ≤ n.toInt) : FP.dcmp (FP.ddiv S (FP.i2d n)) (FP.ddiv S' (FP.i2d n)) = some .eq := by
  have hy : (one64 : Int) ≤ n.toInt * (one64 : Int) := by
    have := Int.mul_le_mul_of_nonneg_right hn (show (0 : Int) ≤ (one64 : Int) by omega)
    rwa [Int.one_mul] at this
  by_cases hs : s = 0
  · subst hs
    have z1 := ZV.of_int h
    have z2 := ZV.of_int h'
    rw [Int.zero_mul] at z1 z2
    have q1 := z1.div_exact (own_i2d n) hy own_zero (by rw [Int.zero_mul, Int.zero_mul])
    have q2 := z2.div_exact (own_i2d n) hy own_zero (by rw [Int.zero_mul, Int.zero_mul])
    rw [q1.cmp q2, own_cmp_eq]
  · have e := dint_unique hs h h'
    subst e
    have hz : n ≠ 0 := fun q => by subst q; revert hn; decide
    exact dcmp_refl (Jvm.Free.Fl.noNaN64_no.mp (own_nnd' (ZV.of_int h).1 n hz))
theorem own_ib (x : Int32) : x.toInt.natAbs ≤ 2147483648 := by have := x.le_toInt; have := x.toInt_lt; omega
end OwnFp
section OwnGoW
variable {p : Program} {l : Launch} {e : Env} {R : Room} {s : State} {vm₁ : Vm} {k0 : Nat} {m : MethodId} {args : Array Value} {below : List Frame} {meth : Method} {c : Code} {T T' : State} {locs : List Loc} {cells slots K1 K2 : Nat} {Q : Option Value → Heap → List Loc → Prop}
/-- as Go, for a run that may load String literals -/
def GoW (p : Program) (e : Env) (below : List Frame) (s : State) (K1 K2 : Nat) (Q : Option Value → Heap → List Loc → Prop) (T : State) (f : JFrame) : Prop :=
  ∃ s₂ o, Steps p.tables e below (T.setTop f) s₂ ∧ s₂.status = .running ∧ Ended s₂ below o ∧ ∃ v L, o = .returned v ∧ Q v s₂.heap L ∧ ReturnedEndW s o s₂ L K1 K2
theorem GoW.on {f f' : JFrame} (h : ∀ t, Steps p.tables e below (T'.setTop f') t → Steps p.tables e below (T.setTop f) t) (g : GoW p e below s K1 K2 Q T' f') : GoW p e below s K1 K2 Q T f := by
  obtain ⟨s₂, o, h1, r⟩ := g
  exact ⟨s₂, o, h _ h1, r⟩
theorem GoW.cast {f f' : JFrame} (h : f = f') (g : GoW p e below s K1 K2 Q T f') : GoW p e below s K1 K2 Q T f := h ▸ g
theorem GoW.gen {f : JFrame} (h : ∀ k1 k2 q, k1 = K1 → k2 = K2 → Q = q → GoW p e below s k1 k2 q T f) : GoW p e below s K1 K2 Q T f := h _ _ _ rfl rfl rfl
theorem own_moreW {o : Outcome} {t : State} {L : List Loc} {k n k' n' : Nat} (h : ReturnedEndW s o t L k n) (h1 : k ≤ k') (h2 : n ≤ n') : ReturnedEndW s o t L k' n' := ⟨h.1, h.2.1, h.2.2.1, h.2.2.2.mono h1 h2⟩
theorem GoW.retV (X : Stand p l e R (s.setVm vm₁) m args below meth c T locs cells slots) (hx : p.tables.exec = Jvm.exec) (hS : s.Since vm₁ k0) (hk : k0 ≤ T.heap.size) {pc : Nat} {Ls : Array Slot} {w : Value} {t : FieldType} {i : Instr} {rest : List Value} (hret : meth.sig.returnType = some t) (hn : narrow t w = w)
    (hi : (i = .ireturn ∧ (t = .int ∨ t = .boolean ∨ t = .byte ∨ t = .char ∨ t = .short) ∧ ∃ z, w = .int z) ∨ (i = .lreturn ∧ t = .long ∧ ∃ z, w = .long z) ∨ (i = .dreturn ∧ t = .double ∧ ∃ z, w = .double z) ∨ (i = .freturn ∧ t = .float ∧ ∃ z, w = .float z) ∨ (i = .areturn ∧ t.isReference = true ∧ w.isRef = true))
    (hd : decode c.code pc = .ok (i, 1)) (hq : Q (some w) T.heap locs) (hc : cells ≤ K1) (hs : slots ≤ K2) (hlk : meth.locks = false := by assumption) : GoW p e below s K1 K2 Q T (mkF m pc Ls (w :: rest)) := by
  obtain ⟨fs, hr, hrun, hended, hE⟩ := X.leaveW hS hk (v := some w) (fun h => by rw [hret] at h; cases h) hlk
  exact ⟨_, _, retOut X hx hret hn hi hd hr, hrun, hended, _, _, rfl, hq, own_moreW hE hc hs⟩
theorem GoW.retN (X : Stand p l e R (s.setVm vm₁) m args below meth c T locs cells slots) (hx : p.tables.exec = Jvm.exec) (hS : s.Since vm₁ k0) (hk : k0 ≤ T.heap.size) {pc : Nat} {Ls : Array Slot} {z : Int32} {t : FieldType} {rest : List Value} (hret : meth.sig.returnType = some t) (ht : t = .boolean ∨ t = .byte ∨ t = .char ∨ t = .short)
    (hd : decode c.code pc = .ok (.ireturn, 1)) (hq : Q (some (.int (nar t z))) T.heap locs) (hc : cells ≤ K1) (hs : slots ≤ K2) (hlk : meth.locks = false := by assumption) : GoW p e below s K1 K2 Q T (mkF m pc Ls (.int z :: rest)) := by
  obtain ⟨fs, hr, hrun, hended, hE⟩ := X.leaveW hS hk (v := some (.int (nar t z))) (fun h => by rw [hret] at h; cases h) hlk
  exact ⟨_, _, Jvm.RoadKit.retN X hx hret ht hd hr, hrun, hended, _, _, rfl, hq, own_moreW hE hc hs⟩
theorem GoW.ret0 (X : Stand p l e R (s.setVm vm₁) m args below meth c T locs cells slots) (hx : p.tables.exec = Jvm.exec) (hS : s.Since vm₁ k0) (hk : k0 ≤ T.heap.size) {pc : Nat} {Ls : Array Slot} (hret : meth.sig.returnType = none)
    (hd : decode c.code pc = .ok (.return_, 1)) (hq : Q none T.heap locs) (hc : cells ≤ K1) (hs : slots ≤ K2) (hlk : meth.locks = false := by assumption) : GoW p e below s K1 K2 Q T (mkF m pc Ls []) := by
  obtain ⟨fs, hr, hrun, hended, hE⟩ := X.leaveW hS hk (v := none) (fun _ => rfl) hlk
  exact ⟨_, _, X.returnOut hx hret hd hr, hrun, hended, _, _, rfl, hq, own_moreW hE hc hs⟩
end OwnGoW
theorem own_wS {Z : State} {aw : Array Value} (hw : ∀ d ∈ tables_1, d.before aw Z = true) : ∀ a ∈ Bundle.stringAtoms, a.before aw Z = true := fun d hd => by
  simp only [Bundle.stringAtoms, List.mem_cons, List.not_mem_nil, or_false] at hd
  rcases hd with rfl | rfl | rfl | rfl | rfl | rfl | rfl
  · exact hw _ (List.mem_of_getElem? (i := 5) rfl)
  · exact hw _ (List.mem_of_getElem? (i := 13) rfl)
  · exact hw _ (List.mem_of_getElem? (i := 17) rfl)
  · exact hw _ (List.mem_of_getElem? (i := 26) rfl)
  · exact hw _ (List.mem_of_getElem? (i := 28) rfl)
  · exact hw _ (List.mem_of_getElem? (i := 42) rfl)
  · exact hw _ (List.mem_of_getElem? (i := 43) rfl)
section OwnSta
variable {Z : State} {h h' : Heap} {ws : List Addr} {a : Addr}
theorem own_ob0 : ∀ x ∈ ([] : List Addr), ∃ cell : Cell, h[x]? = some cell ∧ cell.vm.isStatics = false := nofun
theorem own_obS (q : ∃ cell : Cell, h[a]? = some cell ∧ cell.vm.isStatics = false) (r : ∀ x ∈ ws, ∃ cell : Cell, h[x]? = some cell ∧ cell.vm.isStatics = false) : ∀ x ∈ a :: ws, ∃ cell : Cell, h[x]? = some cell ∧ cell.vm.isStatics = false := fun x hx => by
  rcases List.mem_cons.mp hx with rfl | hx
  · exact q
  · exact r x hx
theorem own_cell0 {C : String} (E : Exa Z h a C) : ∃ cell : Cell, h[a]? = some cell ∧ cell.vm.isStatics = false := by
  obtain ⟨c, k, h1, h2, h3, h4, h5⟩ := E; exact ⟨c, h1, h4⟩
theorem own_sta_keep {C n d : String} {v : Value} (F : Sta Z h C n d v) (K : Keep h h' ws) (r : ∀ x ∈ ws, ∃ cell : Cell, h[x]? = some cell ∧ cell.vm.isStatics = false) : Sta Z h' C n d v := by
  obtain ⟨cf, i, k, f, st, cell, h1, h2, h3, h4, h5, h6, h7⟩ := F
  refine ⟨cf, i, k, f, st, cell, h1, h2, h3, h4, K.2.1 _ _ h5 ?_, h6, h7⟩
  intro hx
  obtain ⟨c', q1, q2⟩ := r st hx
  rw [h5] at q1; cases q1
  rw [h6] at q2; cases q2
theorem own_eqi {a : Term} {args : Array Value} {s : State} {i : Int32} (h : (Jvm.Cond.eq a (Term.int i)).value args s none s [] = some true) : a.eval args s none [] s = some (.int i) := by
  cases ha : a.eval args s none [] s with
  | none => simp [Cond.value, ha] at h
  | some v =>
    cases v <;> simp [Cond.value, ha, Term.eval] at h ⊢
    exact h
theorem own_fstart {args : Array Value} {C n d f g e' : String} {x : Addr} {i : Int32} (ex : (Term.static C n d).eval args Z none [] Z = some (.ref x)) (h1 : (Jvm.Cond.eq (Term.field (Term.static C n d) f g e') (Term.int i)).value args Z none Z [] = some true) : Fld Z Z.heap x f g e' (.int i) :=
  Fld.start ((fld_at ex).symm.trans (own_eqi h1))
end OwnSta

section OwnPop
theorem own_pop2D {tb : Tables} [Ours tb] {e : Env} {below : List Frame} {T target : State} {m : MethodId} {c : Code} {g : JFrame} (h : At T m c below) (hx : tb.exec = Jvm.exec) (hg : g.method = m) {x : UInt64} {rest : List Value} (hd : decode c.code g.pc = .ok (.pop2, 1)) (hs : g.stack = .double x :: rest)
    (hr : Steps tb e below (T.setTop { g with pc := g.pc + 1, stack := rest }) target) : Steps tb e below (T.setTop g) target := by
  subst hg
  jvm_step h [h.top, hx, hd, hs, Value.category]
  exact hr
end OwnPop
section PureLaw
open Jvm.FP.Core
theorem own_csne {args : Array Value} {Z : State} {t : Term} {v : Int32} (ev : t.eval args Z none [] Z = some (.int v)) (h : (Jvm.Cond.not (Jvm.Cond.eq t (Jvm.Term.int (0 : Int32)))).value args Z none Z [] = some true) : ¬ (v = (0 : Int32)) := by
  intro q
  subst q
  simp [Cond.value, ev, Term.eval] at h
def Ge0 (d : UInt64) : Prop := DFin d ∧ 0 ≤ zval b64 (val64 d)
theorem own_g_lo {d : UInt64} (h : Ge0 d) : ¬ ((cmpValue (FP.dcmp d (0 : UInt64)) .l) < (0 : Int32)) := by
  have q : ZV d (zval b64 (val64 d)) := ⟨h.1, rfl⟩
  rw [own_cl_lt, q.cmp own_zero, own_cmp_gt, own_cmp_eq]
  have := h.2
  omega
theorem own_g_inf {d : UInt64} (h : DFin d) : (cmpValue (FP.dcmp d (9218868437227405312 : UInt64)) .g) < (0 : Int32) := by
  rw [own_cg_lt]; exact (fin_lt_inf h).1
theorem own_cost (y : Int32) : Ge0 (FP.i2d (y &&& (2147483647 : Int32))) := by
  have e1 : (y &&& 2147483647).toInt = y.toInt % 2 ^ 31 := Jvm.Kit.i32_mask y 2147483647 (k := 31) (by decide) (by decide)
  have a := own_i2d (y &&& (2147483647 : Int32))
  refine ⟨a.1, ?_⟩
  rw [a.2]
  exact Int.mul_nonneg (by rw [e1]; omega) (by omega)
/-- finite and above nought -/
def Pos0 (d : UInt64) : Prop := DFin d ∧ 0 < zval b64 (val64 d)
theorem own_pos {d : UInt64} (h : Pos0 d) : (0 : Int32) < (cmpValue (FP.dcmp d (0 : UInt64)) .l) := by
  have q : ZV d (zval b64 (val64 d)) := ⟨h.1, rfl⟩
  rw [own_cl_gt, q.cmp own_zero, own_cmp_gt]; exact h.2
theorem own_posinf : (0 : Int32) < (cmpValue (FP.dcmp (9218868437227405312 : UInt64) (0 : UInt64)) .l) := by
  rw [own_cl_gt]; exact (fin_lt_inf own_zero.1).2.2.1
theorem own_infinf : ¬ ((cmpValue (FP.dcmp (9218868437227405312 : UInt64) (9218868437227405312 : UInt64)) .g) < (0 : Int32)) := by decide +kernel
theorem own_op : (0 : Int) < (one64 : Int) := by have := one64_pos; omega
theorem own_mm {x m0 mm : Int64} (h0 : (x &&& (9223372036854775807 : Int64)) = m0) (h : mm = (if m0 = (0 : Int64) then (1 : Int64) else m0)) : 1 ≤ mm.toInt := by
  subst h0
  have e1 : (x &&& 9223372036854775807).toInt = x.toInt % 2 ^ 63 := Jvm.Kit.i64_mask x 9223372036854775807 (k := 63) (by decide) (by decide)
  rw [h]
  split
  · decide
  · rename_i q
    have : ¬ (x &&& 9223372036854775807).toInt = 0 := fun z => q (Int64.toInt_inj.mp (z.trans (by decide)))
    omega
variable {mm : Int64} {c0 : UInt64}
theorem own_c0 (h : 1 ≤ mm.toInt) (hc : FP.l2d mm = c0) : ∃ z, ZV c0 z ∧ (one64 : Int) ≤ z ∧ z ≤ 9223372036854775808 * (one64 : Int) := by
  subst hc
  refine ⟨_, ⟨l2d_fin mm, rfl⟩, ?_, ?_⟩
  · have := l2d_zval_ge (n := mm) own_one.ne (by
      rw [own_one.2]
      have := Int.mul_le_mul_of_nonneg_right h (Int.le_of_lt own_op)
      rwa [Int.one_mul] at this)
    rwa [own_one.2] at this
  · obtain ⟨V, hV⟩ := own_rep 1 1137 (by decide) (by decide)
    have e : (1 : Int) * ((2 ^ 1137 : Nat) : Int) = 9223372036854775808 * (one64 : Int) := by
      have : (2 : Nat) ^ 1137 = 2 ^ 63 * 2 ^ 1074 := by rw [← Nat.pow_add]
      rw [Int.one_mul, this, Int.natCast_mul, ← own_one64]; rfl
    rw [e] at hV
    have := l2d_zval_le (n := mm) hV.ne (by
      rw [hV.2]
      have l := Int64.toInt_lt mm
      exact Int.mul_le_mul_of_nonneg_right (by omega) (Int.le_of_lt own_op))
    rwa [hV.2] at this
theorem own_q20 (h : 1 ≤ mm.toInt) (hc : FP.l2d mm = c0) : Pos0 (FP.ddiv c0 (4697254411347427328 : UInt64)) := by
  obtain ⟨z, hz, z1, z2⟩ := own_c0 h hc
  have c20 : ZV (4697254411347427328 : UInt64) (1048576 * (one64 : Int)) := by
    have h : (4697254411347427328 : UInt64) = FP.l2d 1048576 := by decide +kernel
    rw [h]; exact own_l2d (n := 1048576) (by decide)
  have op := own_op
  obtain ⟨r, hr, hq⟩ := hz.div c20 (by omega)
  obtain ⟨V, hV⟩ := own_rep 1 1054 (by decide) (by decide)
  have e : (one64 : Int) = 1048576 * ((2 ^ 1054 : Nat) : Int) := by
    have : (2 : Nat) ^ 1074 = 2 ^ 20 * 2 ^ 1054 := by rw [← Nat.pow_add]
    rw [own_one64, this, Int.natCast_mul]; rfl
  have pp : (0 : Int) < ((2 ^ 1054 : Nat) : Int) := Int.natCast_pos.mpr (Nat.two_pow_pos _)
  have g := (hq V _ hV).2 (by
    have h1 : (1 : Int) * ((2 ^ 1054 : Nat) : Int) * (1048576 * (one64 : Int)) = (1048576 * ((2 ^ 1054 : Nat) : Int)) * (one64 : Int) := by
      generalize ((2 ^ 1054 : Nat) : Int) = P
      generalize (one64 : Int) = o
      rw [Int.one_mul]; ac_rfl
    rw [h1, ← e]
    exact Int.mul_le_mul_of_nonneg_right z1 (Int.le_of_lt op))
  refine ⟨hr.1, ?_⟩
  rw [hr.2]
  rw [Int.one_mul] at g
  generalize ((2 ^ 1054 : Nat) : Int) = P at *
  omega
theorem own_m900 (h : 1 ≤ mm.toInt) (hc : FP.l2d mm = c0) : Pos0 (FP.dmul c0 (8660422083433463808 : UInt64)) := by
  obtain ⟨z, hz, z1, z2⟩ := own_c0 h hc
  have op := own_op
  have cb : ZV (8660422083433463808 : UInt64) (1 * ((2 ^ 1974 : Nat) : Int)) := ⟨⟨_, _, _, rfl⟩, by decide +kernel⟩
  obtain ⟨V, hV⟩ := own_rep 1 1974 (by decide) (by decide)
  obtain ⟨W, hW⟩ := own_rep 1 2037 (by decide) (by decide)
  have e2 : ((2 ^ 2037 : Nat) : Int) = 9223372036854775808 * ((2 ^ 1974 : Nat) : Int) := by
    have : (2 : Nat) ^ 2037 = 2 ^ 63 * 2 ^ 1974 := by rw [← Nat.pow_add]
    rw [this, Int.natCast_mul]; rfl
  have pp : (0 : Int) < ((2 ^ 1974 : Nat) : Int) := Int.natCast_pos.mpr (Nat.two_pow_pos _)
  rw [e2] at hW
  have hn : val64 (FP.Core.dmul c0 (8660422083433463808 : UInt64)) ≠ .nan := (notNaN_iff _).mp (FP.Core.dmul_out hz.1 cb.1)
  rw [Int.one_mul] at hV hW cb
  generalize hP : ((2 ^ 1974 : Nat) : Int) = P at *
  have ge : P ≤ zval b64 (val64 (FP.Core.dmul c0 (8660422083433463808 : UInt64))) := own_mul_ge hz cb hV (by
    rw [Int.mul_comm P]; exact Int.mul_le_mul_of_nonneg_right z1 (Int.le_of_lt pp))
  have le : zval b64 (val64 (FP.Core.dmul c0 (8660422083433463808 : UInt64))) ≤ 9223372036854775808 * P := own_mul_le hz cb hW (by
    have h1 : 9223372036854775808 * P * (one64 : Int) = 9223372036854775808 * (one64 : Int) * P := by
      generalize (one64 : Int) = o
      ac_rfl
    rw [h1]; exact Int.mul_le_mul_of_nonneg_right z2 (Int.le_of_lt pp))
  refine ⟨own_fin_of_z hn hW.1 ?_, ?_⟩
  · rw [hW.2]
    show (zval b64 (val64 (FP.Core.dmul c0 (8660422083433463808 : UInt64)))).natAbs ≤ _
    omega
  · show 0 < zval b64 (val64 (FP.Core.dmul c0 (8660422083433463808 : UInt64)))
    omega
theorem own_p0 (h : 1 ≤ mm.toInt) (hc : FP.l2d mm = c0) : Pos0 c0 := by
  obtain ⟨z, hz, z1, z2⟩ := own_c0 h hc
  have op := own_op
  exact ⟨hz.1, by rw [hz.2]; omega⟩
theorem own_cp {kk : Int32} {cp : UInt64} (h : 1 ≤ mm.toInt) (hc : FP.l2d mm = c0) (e : cp = (if kk = (1 : Int32) then (FP.ddiv c0 (4697254411347427328 : UInt64)) else (if kk = (2 : Int32) then (FP.dmul c0 (8660422083433463808 : UInt64)) else c0))) : Pos0 cp := by
  rw [e]
  split
  · exact own_q20 h hc
  · split
    · exact own_m900 h hc
    · exact own_p0 h hc
theorem own_pnn {d : UInt64} (h : Pos0 d) : Jvm.Free.Fl.NoNaN64 d := ZV.nn (x := zval b64 (val64 d)) ⟨h.1, rfl⟩
theorem own_ch (i : Int32) : ¬ ((255 : Int32) < ((i &&& (255 : Int32)).toUInt32.toUInt16.toUInt32.toInt32)) := by
  have e1 : (i &&& 255).toInt = i.toInt % 2 ^ 8 := Jvm.Kit.i32_mask i 255 (k := 8) (by decide) (by decide)
  rw [Jvm.RoadKit.i2c_mask, Int32.lt_iff_toInt_lt, e1, show (255 : Int32).toInt = 255 by decide]; omega
end PureLaw

theorem d2_0 : decode jdk_43_method_3_code 0 = .ok (.iload_n 0, 1) := by decide +kernel
theorem d2_1 : decode jdk_43_method_3_code 1 = .ok (.sipush 255, 3) := by decide +kernel
theorem d2_4 : decode jdk_43_method_3_code 4 = .ok (.if_icmp .gt 7, 3) := by decide +kernel
theorem d2_7 : decode jdk_43_method_3_code 7 = .ok (.iconst 1, 1) := by decide +kernel
theorem d2_8 : decode jdk_43_method_3_code 8 = .ok (.goto 4, 3) := by decide +kernel
theorem d2_12 : decode jdk_43_method_3_code 12 = .ok (.ireturn, 1) := by decide +kernel
theorem pn_0 : plainName "java/lang/StringLatin1" = true := by first | (simp [plainName, overriddenIn]; done) | decide +kernel
theorem ef_rm2 (m : MethodId) (i0 : Int32) : entryFrame m #[(.int i0)] 1 = mkF m 0 #[.val (.int i0)] [] := by first | (simp [entryFrame, mkF, argsToLocals, Value.category]; done) | rfl
def Q_rm2 (Z : State) (i0 : Int32) (h0 : Heap) (n0 : Nat) (v : Option Value) (h : Heap) (L : List Loc) : Prop := v = some (.int (1 : Int32)) ∧ Fr n0 L ∧ h = h0
set_option maxRecDepth 65536 in
set_option maxHeartbeats 40000000 in
theorem rm2 (l : Launch) (Z : State) (aw : Array Value) (hw : ∀ d ∈ tables_1, d.before aw Z = true) (ws : List Jvm.Cond) (i0 : Int32) (h0 : Heap) (n0 : Nat) (Z0 : n0 ≤ h0.size) (hc : ¬ ((255 : Int32) < i0)) :
    MetFree l (⟨"java/lang/StringLatin1", "canEncode", "(C)Z"⟩ : MethodName) (head1 (Jvm.Cond.code (⟨"java/lang/StringLatin1", "canEncode", "(C)Z"⟩ : MethodName) jdk_43_method_3_code 1 (some .boolean) :: ws) ({ frames := 0, cells := 0, slots := 0, locals := 0 } : Room)) (fun a U => a = #[(.int i0)] ∧ Z.Warmed39 U.vm ∧ U.heap = h0) (fun _ _ _ _ _ => True) (fun _ U o U' => ∃ v L, o = .returned v ∧ Q_rm2 Z i0 h0 n0 v U'.heap L ∧ FrameEnd U o U' L ({ frames := 0, cells := 0, slots := 0, locals := 0 } : Room).cells ({ frames := 0, cells := 0, slots := 0, locals := 0 } : Room).slots) := by
  refine MetFree.of_bodySF (plainFor_of_name pn_0) hisR ?_
  intro p e s m args below meth c s₁ Bd hml0 hP hK
  obtain ⟨rfl, hZ, hh⟩ := hP
  have hx := Bd.exec
  have hby := Bd.bytes
  have hml : c.maxLocals = 1 := hml0
  have hown : s.vm.findClass "java/lang/StringLatin1" = some m.cls := findClass_of_methodNamed Bd.named
  have hnm := (name_of_methodNamed Bd.named Bd.method).1
  have hlk : meth.locks = false := BodyLoose.notSynchronized Bd
  have X0 : Stand p l e ({ frames := 0, cells := 0, slots := 0, locals := 0 } : Room) s m #[(.int i0)] below meth c s₁ [] 0 0 := Stand.of_body Bd
  have e0 : s₁.heap = h0 := by rw [← hh, Bd.state]; rfl
  have N0 := Fr.nil n0
  have ZZ := Z0
  show Go p e below s ({ frames := 0, cells := 0, slots := 0, locals := 0 } : Room).cells ({ frames := 0, cells := 0, slots := 0, locals := 0 } : Room).slots (fun v h L => Q_rm2 Z i0 h0 n0 v h L) s₁ (entryFrame m #[(.int i0)] 1)
  refine Go.cast (ef_rm2 m i0) ?_
  refine Go.gen ?_
  intro K1 K2 QQ hK1 hK2 hQQ
  refine Go.on (fun _ k => XS.iloadN X0.here hx rfl (hb hby d2_0) rfl k) ?_
  show Go _ _ _ _ _ _ _ _ (mkF m 1 #[.val (.int i0)] [(.int i0)])
  refine Go.on (fun _ k => XS.sipush X0.here hx rfl (hb hby d2_1) k) ?_
  show Go _ _ _ _ _ _ _ _ (mkF m 4 #[.val (.int i0)] [(.int (255 : Int32)), (.int i0)])
  have hc1 : ¬ ((255 : Int32) < i0) := hc
  refine Go.on (fun _ k => XS.icmpNo X0.here hx rfl (hb hby d2_4) rfl (flt hc1).2.2.1 k) ?_
  show Go _ _ _ _ _ _ _ _ (mkF m 7 #[.val (.int i0)] [])
  refine Go.on (fun _ k => XS.iconst X0.here hx rfl (hb hby d2_7) k) ?_
  show Go _ _ _ _ _ _ _ _ (mkF m 8 #[.val (.int i0)] [(.int (1 : Int32))])
  refine Go.on (fun _ k => XS.goto X0.here hx rfl (pc0 := 8) (pc' := 12) rfl (hb hby d2_8) (by decide) (by decide) k) ?_
  show Go _ _ _ _ _ _ _ _ (mkF m 12 #[.val (.int i0)] [(.int (1 : Int32))])
  refine Go.retN X0 hx (t := .boolean) Bd.returns (by simp) (hb hby d2_12) ?_ (by rw [hK1]; decide) (by rw [hK2]; decide)
  rw [e0, ← hQQ]
  exact ⟨rfl, N0, rfl⟩
theorem d3_0 : decode jdk_43_method_46_code 0 = .ok (.iconst 1, 1) := by decide +kernel
theorem d3_1 : decode jdk_43_method_46_code 1 = .ok (.newarray .byte, 2) := by decide +kernel
theorem d3_3 : decode jdk_43_method_46_code 3 = .ok (.dup, 1) := by decide +kernel
theorem d3_4 : decode jdk_43_method_46_code 4 = .ok (.iconst 0, 1) := by decide +kernel
theorem d3_5 : decode jdk_43_method_46_code 5 = .ok (.iload_n 0, 1) := by decide +kernel
theorem d3_6 : decode jdk_43_method_46_code 6 = .ok (.i2b, 1) := by decide +kernel
theorem d3_7 : decode jdk_43_method_46_code 7 = .ok (.bastore, 1) := by decide +kernel
theorem d3_8 : decode jdk_43_method_46_code 8 = .ok (.areturn, 1) := by decide +kernel
theorem ef_rm3 (m : MethodId) (i0 : Int32) : entryFrame m #[(.int i0)] 1 = mkF m 0 #[.val (.int i0)] [] := by first | (simp [entryFrame, mkF, argsToLocals, Value.category]; done) | rfl
def Q_rm3 (Z : State) (i0 : Int32) (h0 : Heap) (n0 : Nat) (v : Option Value) (h : Heap) (L : List Loc) : Prop := ∃ (ar : Addr) (k_ar : ClassId), v = some (.ref ar) ∧ Fr n0 L ∧ Keep h0 h [] ∧ h0.size ≤ ar ∧ Arv Z h ar k_ar .byte (1 : Int32) [(.int (nar .byte (i0.toInt8.toInt32)))] (.int (0 : Int32))
set_option maxRecDepth 65536 in
set_option maxHeartbeats 40000000 in
theorem rm3 (l : Launch) (Z : State) (aw : Array Value) (hw : ∀ d ∈ tables_1, d.before aw Z = true) (ws : List Jvm.Cond) (i0 : Int32) (h0 : Heap) (n0 : Nat) (Z0 : n0 ≤ h0.size) :
    MetFree l (⟨"java/lang/StringLatin1", "toBytes", "(C)[B"⟩ : MethodName) (head1 (Jvm.Cond.code (⟨"java/lang/StringLatin1", "toBytes", "(C)[B"⟩ : MethodName) jdk_43_method_46_code 1 (some (.array .byte)) :: ws) ({ frames := 0, cells := 1, slots := 1, locals := 0 } : Room)) (fun a U => a = #[(.int i0)] ∧ Z.Warmed39 U.vm ∧ U.heap = h0) (fun _ _ _ _ _ => True) (fun _ U o U' => ∃ v L, o = .returned v ∧ Q_rm3 Z i0 h0 n0 v U'.heap L ∧ FrameEnd U o U' L ({ frames := 0, cells := 1, slots := 1, locals := 0 } : Room).cells ({ frames := 0, cells := 1, slots := 1, locals := 0 } : Room).slots) := by
  refine MetFree.of_bodySF (plainFor_of_name pn_0) hisR ?_
  intro p e s m args below meth c s₁ Bd hml0 hP hK
  obtain ⟨rfl, hZ, hh⟩ := hP
  have hx := Bd.exec
  have hby := Bd.bytes
  have hml : c.maxLocals = 1 := hml0
  have hown : s.vm.findClass "java/lang/StringLatin1" = some m.cls := findClass_of_methodNamed Bd.named
  have hnm := (name_of_methodNamed Bd.named Bd.method).1
  have hlk : meth.locks = false := BodyLoose.notSynchronized Bd
  have X0 : Stand p l e ({ frames := 0, cells := 1, slots := 1, locals := 0 } : Room) s m #[(.int i0)] below meth c s₁ [] 0 0 := Stand.of_body Bd
  have e0 : s₁.heap = h0 := by rw [← hh, Bd.state]; rfl
  have N0 := Fr.nil n0
  have ZZ := Z0
  show Go p e below s ({ frames := 0, cells := 1, slots := 1, locals := 0 } : Room).cells ({ frames := 0, cells := 1, slots := 1, locals := 0 } : Room).slots (fun v h L => Q_rm3 Z i0 h0 n0 v h L) s₁ (entryFrame m #[(.int i0)] 1)
  refine Go.cast (ef_rm3 m i0) ?_
  refine Go.gen ?_
  intro K1 K2 QQ hK1 hK2 hQQ
  have KP : Keep h0 h0 [] := Keep.refl _ _
  refine Go.on (fun _ k => XS.iconst X0.here hx rfl (hb hby d3_0) k) ?_
  show Go _ _ _ _ _ _ _ _ (mkF m 1 #[.val (.int i0)] [(.int (1 : Int32))])
  obtain ⟨T1, h1, k_ar, X1, e1, E1, A1, st1⟩ := newP X0 hx hZ (hw _ (List.mem_of_getElem? (i := 17) rfl)) e0 (g := (mkF m 1 #[.val (.int i0)] [(.int (1 : Int32))])) rfl (hb hby d3_1) rfl (by decide) (cap := 1) (by decide) (by decide) (by decide) (by decide)
  obtain ⟨ar, g1⟩ : ∃ z, z = h0.size := ⟨_, rfl⟩
  have g_ar : n0 ≤ ar := Nat.le_trans ZZ (Nat.le_of_eq g1.symm)
  have sz_ar : h0.size ≤ ar := Nat.le_trans KP.1 (Nat.le_of_eq g1.symm)
  rw [← g1] at A1 st1
  replace ZZ := Nat.le_trans ZZ E1.1
  replace KP := KP.ext E1
  have V_ar : Arv Z h1 ar k_ar .byte (1 : Int32) [(.int (0 : Int32))] (.int (0 : Int32)) := (Arv.new A1 (by decide)).pad (pad_rep [] (.int (0 : Int32)) 1)
  refine Go.on st1 ?_
  show Go _ _ _ _ _ _ _ _ (mkF m 3 #[.val (.int i0)] [(.ref ar)])
  refine Go.on (fun _ k => XS.dup X1.here hx rfl (hb hby d3_3) rfl rfl k) ?_
  show Go _ _ _ _ _ _ _ _ (mkF m 4 #[.val (.int i0)] [(.ref ar), (.ref ar)])
  refine Go.on (fun _ k => XS.iconst X1.here hx rfl (hb hby d3_4) k) ?_
  show Go _ _ _ _ _ _ _ _ (mkF m 5 #[.val (.int i0)] [(.int (0 : Int32)), (.ref ar), (.ref ar)])
  refine Go.on (fun _ k => XS.iloadN X1.here hx rfl (hb hby d3_5) rfl k) ?_
  show Go _ _ _ _ _ _ _ _ (mkF m 6 #[.val (.int i0)] [(.int i0), (.int (0 : Int32)), (.ref ar), (.ref ar)])
  refine Go.on (fun _ k => XS.i2b X1.here hx rfl (hb hby d3_6) rfl k) ?_
  show Go _ _ _ _ _ _ _ _ (mkF m 7 #[.val (.int i0)] [(.int (i0.toInt8.toInt32)), (.int (0 : Int32)), (.ref ar), (.ref ar)])
  obtain ⟨cl2, Ar2, q2, S2, N2n, H2, G2⟩ := id V_ar
  have hin2 : ¬ ((0 : Int32) < 0 ∨ cl2.slots.size ≤ ((0 : Int32)).toNatClampNeg) := inb_of S2 ⟨by decide, by decide⟩
  obtain ⟨T2, h2, X2, e2, W2, st2⟩ := stB X1 hx hZ e1 Ar2 (j := (0 : Int32)) hin2 (g := (mkF m 7 #[.val (.int i0)] [(.int (i0.toInt8.toInt32)), (.int (0 : Int32)), (.ref ar), (.ref ar)])) rfl rfl (hb hby d3_7)
  replace V_ar := Arv.set Ar2 q2 S2 N2n H2 G2 (Jvm.RoadKit.fits_nar_byte _) W2 0 rfl (Nat.le_of_ble_eq_true rfl)
  refine Go.on st2 ?_
  have N2 := Fr.snoc X2 N0 g_ar
  replace ZZ := Nat.le_trans ZZ (Keep.of_wr W2).1
  replace KP := KP.wr W2 (Or.inr sz_ar)
  change Arv Z h2 ar k_ar .byte (1 : Int32) [(.int (nar .byte (i0.toInt8.toInt32)))] (.int (0 : Int32)) at V_ar
  show Go _ _ _ _ _ _ _ _ (mkF m 8 #[.val (.int i0)] [(.ref ar)])
  refine Go.retV X2 hx Bd.returns rfl (Or.inr (Or.inr (Or.inr (Or.inr ⟨rfl, rfl, rfl⟩)))) (hb hby d3_8) ?_ (by rw [hK1]; decide) (by rw [hK2]; decide)
  rw [e2, ← hQQ]
  exact ⟨ar, k_ar, rfl, N2, KP, sz_ar, V_ar⟩
theorem d4_0 : decode jdk_42_method_151_code 0 = .ok (.aload_n 0, 1) := by decide +kernel
theorem d4_1 : decode jdk_42_method_151_code 1 = .ok (.invokespecial 1, 3) := by decide +kernel
theorem d4_4 : decode jdk_42_method_151_code 4 = .ok (.aload_n 0, 1) := by decide +kernel
theorem d4_5 : decode jdk_42_method_151_code 5 = .ok (.aload_n 1, 1) := by decide +kernel
theorem d4_6 : decode jdk_42_method_151_code 6 = .ok (.putfield 9, 3) := by decide +kernel
theorem d4_9 : decode jdk_42_method_151_code 9 = .ok (.aload_n 0, 1) := by decide +kernel
theorem d4_10 : decode jdk_42_method_151_code 10 = .ok (.iload_n 2, 1) := by decide +kernel
theorem d4_11 : decode jdk_42_method_151_code 11 = .ok (.putfield 15, 3) := by decide +kernel
theorem d4_14 : decode jdk_42_method_151_code 14 = .ok (.return_, 1) := by decide +kernel
theorem pn_1 : plainName "java/lang/String" = true := by first | (simp [plainName, overriddenIn]; done) | decide +kernel
theorem ef_rm4 (m : MethodId) (a0 : Addr) (a1 : Addr) : entryFrame m #[(.ref a0), (.ref a1), (.int (0 : Int32))] 3 = mkF m 0 #[.val (.ref a0), .val (.ref a1), .val (.int (0 : Int32))] [] := by first | (simp [entryFrame, mkF, argsToLocals, Value.category]; done) | rfl
def Q_rm4 (Z : State) (a0 : Addr) (a1 : Addr) (h0 : Heap) (n0 : Nat) (v : Option Value) (h : Heap) (L : List Loc) : Prop := v = none ∧ Fr n0 L ∧ Keep h0 h [a0] ∧ Exa Z h a0 "java/lang/String" ∧ Fld Z h a0 "java/lang/String" "coder" "B" (.int (0 : Int32))
set_option maxRecDepth 65536 in
set_option maxHeartbeats 40000000 in
theorem rm4 (l : Launch) (Z : State) (aw : Array Value) (hw : ∀ d ∈ tables_1, d.before aw Z = true) (ws : List Jvm.Cond) (a0 : Addr) (a1 : Addr) (h0 : Heap) (n0 : Nat) (Z0 : n0 ≤ h0.size) (E_a0 : Exa Z h0 a0 "java/lang/String") (F_value_a0 : Fld Z h0 a0 "java/lang/String" "value" "[B" .null) (F_coder_a0 : Fld Z h0 a0 "java/lang/String" "coder" "B" (.int (0 : Int32))) (g_a0 : n0 ≤ a0) :
    MetFree l (⟨"java/lang/String", "<init>", "([BB)V"⟩ : MethodName) (head1 (Jvm.Cond.code (⟨"java/lang/String", "<init>", "([BB)V"⟩ : MethodName) jdk_42_method_151_code 3 none :: ws) ({ frames := 1, cells := 0, slots := 0, locals := 12 } : Room)) (fun a U => a = #[(.ref a0), (.ref a1), (.int (0 : Int32))] ∧ Z.Warmed39 U.vm ∧ U.heap = h0) (fun _ _ _ _ _ => True) (fun _ U o U' => ∃ v L, o = .returned v ∧ Q_rm4 Z a0 a1 h0 n0 v U'.heap L ∧ FrameEnd U o U' L ({ frames := 1, cells := 0, slots := 0, locals := 12 } : Room).cells ({ frames := 1, cells := 0, slots := 0, locals := 12 } : Room).slots) := by
  refine MetFree.of_bodySF (plainFor_of_name pn_1) hisR ?_
  intro p e s m args below meth c s₁ Bd hml0 hP hK
  obtain ⟨rfl, hZ, hh⟩ := hP
  have hx := Bd.exec
  have hby := Bd.bytes
  have hml : c.maxLocals = 3 := hml0
  have hown : s.vm.findClass "java/lang/String" = some m.cls := findClass_of_methodNamed Bd.named
  have hnm := (name_of_methodNamed Bd.named Bd.method).1
  have hlk : meth.locks = false := BodyLoose.notSynchronized Bd
  have X0 : Stand p l e ({ frames := 1, cells := 0, slots := 0, locals := 12 } : Room) s m #[(.ref a0), (.ref a1), (.int (0 : Int32))] below meth c s₁ [] 0 0 := Stand.of_body Bd
  have e0 : s₁.heap = h0 := by rw [← hh, Bd.state]; rfl
  have N0 := Fr.nil n0
  have ZZ := Z0
  show Go p e below s ({ frames := 1, cells := 0, slots := 0, locals := 12 } : Room).cells ({ frames := 1, cells := 0, slots := 0, locals := 12 } : Room).slots (fun v h L => Q_rm4 Z a0 a1 h0 n0 v h L) s₁ (entryFrame m #[(.ref a0), (.ref a1), (.int (0 : Int32))] 3)
  refine Go.cast (ef_rm4 m a0 a1) ?_
  refine Go.gen ?_
  intro K1 K2 QQ hK1 hK2 hQQ
  have KP : Keep h0 h0 [a0] := Keep.refl _ _
  refine Go.on (fun _ k => XS.aloadN X0.here hx rfl (hb hby d4_0) rfl rfl k) ?_
  show Go _ _ _ _ _ _ _ _ (mkF m 1 #[.val (.ref a0), .val (.ref a1), .val (.int (0 : Int32))] [(.ref a0)])
  obtain ⟨T1, X1, e1, st1⟩ := initO X0 hx hZ hown (hw _ (List.mem_of_getElem? (i := 22) rfl)) (hw _ (List.mem_of_getElem? (i := 23) rfl)) (hw _ (List.mem_of_getElem? (i := 24) rfl)) e0 (g := (mkF m 1 #[.val (.ref a0), .val (.ref a1), .val (.int (0 : Int32))] [(.ref a0)])) rfl (by rw [hml]; rfl) rfl (hb hby d4_1) (by decide) (W := 0) (by show 2 * 0 + _ ≤ _; exact Nat.le_of_eq rfl) (by decide)
  refine Go.on st1 ?_
  show Go _ _ _ _ _ _ _ _ (mkF m 4 #[.val (.ref a0), .val (.ref a1), .val (.int (0 : Int32))] [])
  refine Go.on (fun _ k => XS.aloadN X1.here hx rfl (hb hby d4_4) rfl rfl k) ?_
  show Go _ _ _ _ _ _ _ _ (mkF m 5 #[.val (.ref a0), .val (.ref a1), .val (.int (0 : Int32))] [(.ref a0)])
  refine Go.on (fun _ k => XS.aloadN X1.here hx rfl (hb hby d4_5) rfl rfl k) ?_
  show Go _ _ _ _ _ _ _ _ (mkF m 6 #[.val (.ref a0), .val (.ref a1), .val (.int (0 : Int32))] [(.ref a1), (.ref a0)])
  obtain ⟨T2, h2, X2, e2, W2, st2⟩ := putF X1 hx hZ hown (host := "") (Or.inl (hw _ (List.mem_of_getElem? (i := 25) rfl))) Via.refl e1 F_value_a0 E_a0 (Or.inr ⟨(hw _ (List.mem_of_getElem? (i := 26) rfl)), rfl, hnm⟩) (hw _ (List.mem_of_getElem? (i := 13) rfl)) (ty := (.array .byte)) (by decide) rfl rfl (g := (mkF m 6 #[.val (.ref a0), .val (.ref a1), .val (.int (0 : Int32))] [(.ref a1), (.ref a0)])) rfl rfl (hb hby d4_6)
  refine Go.on st2 ?_
  replace F_value_a0 := F_value_a0.same W2
  replace E_a0 := E_a0.wr W2
  replace F_coder_a0 := F_coder_a0.other W2 (Or.inr (slot_ne (Or.inr (hw _ (List.mem_of_getElem? (i := 28) rfl))) (Or.inr (hw _ (List.mem_of_getElem? (i := 26) rfl))) (by decide) (t := .byte) (t' := (.array .byte)) (by decide) (by decide)))
  have N2 := Fr.snoc X2 N0 g_a0
  replace ZZ := Nat.le_trans ZZ (Keep.of_wr W2).1
  replace KP := KP.wr W2 (Or.inl (List.mem_of_getElem? (i := 0) rfl))
  show Go _ _ _ _ _ _ _ _ (mkF m 9 #[.val (.ref a0), .val (.ref a1), .val (.int (0 : Int32))] [])
  refine Go.on (fun _ k => XS.aloadN X2.here hx rfl (hb hby d4_9) rfl rfl k) ?_
  show Go _ _ _ _ _ _ _ _ (mkF m 10 #[.val (.ref a0), .val (.ref a1), .val (.int (0 : Int32))] [(.ref a0)])
  refine Go.on (fun _ k => XS.iloadN X2.here hx rfl (hb hby d4_10) rfl k) ?_
  show Go _ _ _ _ _ _ _ _ (mkF m 11 #[.val (.ref a0), .val (.ref a1), .val (.int (0 : Int32))] [(.int (0 : Int32)), (.ref a0)])
  obtain ⟨T3, h3, X3, e3, W3, st3⟩ := putFN X2 hx hZ hown (hw _ (List.mem_of_getElem? (i := 27) rfl)) Via.refl e2 F_coder_a0 E_a0 (Or.inr ⟨(hw _ (List.mem_of_getElem? (i := 28) rfl)), rfl, hnm⟩) (hw _ (List.mem_of_getElem? (i := 13) rfl)) (ty := .byte) (v' := (.int (0 : Int32))) (by decide) rfl (by decide) (g := (mkF m 11 #[.val (.ref a0), .val (.ref a1), .val (.int (0 : Int32))] [(.int (0 : Int32)), (.ref a0)])) rfl rfl (hb hby d4_11)
  refine Go.on st3 ?_
  replace F_coder_a0 := F_coder_a0.same W3
  replace E_a0 := E_a0.wr W3
  replace F_value_a0 := F_value_a0.other W3 (Or.inr (slot_ne (Or.inr (hw _ (List.mem_of_getElem? (i := 26) rfl))) (Or.inr (hw _ (List.mem_of_getElem? (i := 28) rfl))) (by decide) (t := (.array .byte)) (t' := .byte) (by decide) (by decide)))
  have N3 := Fr.snoc X3 N2 g_a0
  replace ZZ := Nat.le_trans ZZ (Keep.of_wr W3).1
  replace KP := KP.wr W3 (Or.inl (List.mem_of_getElem? (i := 0) rfl))
  show Go _ _ _ _ _ _ _ _ (mkF m 14 #[.val (.ref a0), .val (.ref a1), .val (.int (0 : Int32))] [])
  refine Go.ret0 X3 hx Bd.returns (hb hby d4_14) ?_ (by rw [hK1]; decide) (by rw [hK2]; decide)
  rw [e3, ← hQQ]
  exact ⟨rfl, N3, KP, E_a0, F_coder_a0⟩
theorem pd_0 : parseMethodDescriptor "(C)Z" = some ⟨[.char], some .boolean⟩ := by decide +kernel
theorem pd_1 : parseMethodDescriptor "(C)[B" = some ⟨[.char], some (.array .byte)⟩ := by decide +kernel
theorem pd_2 : parseMethodDescriptor "([BB)V" = some ⟨[(.array .byte), .byte], none⟩ := by decide +kernel
theorem d1_0 : decode jdk_42_method_139_code 0 = .ok (.getstatic 38, 3) := by decide +kernel
theorem d1_3 : decode jdk_42_method_139_code 3 = .ok (.ifCond .eq 23, 3) := by decide +kernel
theorem d1_6 : decode jdk_42_method_139_code 6 = .ok (.iload_n 0, 1) := by decide +kernel
theorem d1_7 : decode jdk_42_method_139_code 7 = .ok (.invokestatic 1015, 3) := by decide +kernel
theorem d1_10 : decode jdk_42_method_139_code 10 = .ok (.ifCond .eq 16, 3) := by decide +kernel
theorem d1_13 : decode jdk_42_method_139_code 13 = .ok (.new 10, 3) := by decide +kernel
theorem d1_16 : decode jdk_42_method_139_code 16 = .ok (.dup, 1) := by decide +kernel
theorem d1_17 : decode jdk_42_method_139_code 17 = .ok (.iload_n 0, 1) := by decide +kernel
theorem d1_18 : decode jdk_42_method_139_code 18 = .ok (.invokestatic 1018, 3) := by decide +kernel
theorem d1_21 : decode jdk_42_method_139_code 21 = .ok (.iconst 0, 1) := by decide +kernel
theorem d1_22 : decode jdk_42_method_139_code 22 = .ok (.invokespecial 209, 3) := by decide +kernel
theorem d1_25 : decode jdk_42_method_139_code 25 = .ok (.areturn, 1) := by decide +kernel
theorem ef_rm1 (m : MethodId) (i0 : Int32) : entryFrame m #[(.int i0)] 1 = mkF m 0 #[.val (.int i0)] [] := by first | (simp [entryFrame, mkF, argsToLocals, Value.category]; done) | rfl
def Q_rm1 (Z : State) (i0 : Int32) (cs : Int32) (h0 : Heap) (n0 : Nat) (v : Option Value) (h : Heap) (L : List Loc) : Prop := ∃ (ob : Addr), v = some (.ref ob) ∧ Fr n0 L ∧ Keep h0 h [] ∧ h0.size ≤ ob ∧ Exa Z h ob "java/lang/String" ∧ Fld Z h ob "java/lang/String" "coder" "B" (.int (0 : Int32))
set_option maxRecDepth 65536 in
set_option maxHeartbeats 40000000 in
theorem rm1 (l : Launch) (Z : State) (aw : Array Value) (hw : ∀ d ∈ tables_1, d.before aw Z = true) (ws : List Jvm.Cond) (i0 : Int32) (cs : Int32) (h0 : Heap) (n0 : Nat) (Z0 : n0 ≤ h0.size) (S_COMPACT_STRINGS : Sta Z h0 "java/lang/String" "COMPACT_STRINGS" "Z" (.int cs)) (hcs : ¬ (cs = (0 : Int32))) (hc : ¬ ((255 : Int32) < i0)) :
    MetFree l (⟨"java/lang/String", "valueOf", "(C)Ljava/lang/String;"⟩ : MethodName) (head1 (Jvm.Cond.code (⟨"java/lang/String", "valueOf", "(C)Ljava/lang/String;"⟩ : MethodName) jdk_42_method_139_code 1 (some (.object "java/lang/String")) :: ws) ({ frames := 2, cells := 2, slots := 5, locals := 27 } : Room)) (fun a U => a = #[(.int i0)] ∧ Z.Warmed39 U.vm ∧ U.heap = h0) (fun _ _ _ _ _ => True) (fun _ U o U' => ∃ v L, o = .returned v ∧ Q_rm1 Z i0 cs h0 n0 v U'.heap L ∧ FrameEnd U o U' L ({ frames := 2, cells := 2, slots := 5, locals := 27 } : Room).cells ({ frames := 2, cells := 2, slots := 5, locals := 27 } : Room).slots) := by
  refine MetFree.of_bodySF (plainFor_of_name pn_1) hisR ?_
  intro p e s m args below meth c s₁ Bd hml0 hP hK
  obtain ⟨rfl, hZ, hh⟩ := hP
  have hx := Bd.exec
  have hby := Bd.bytes
  have hml : c.maxLocals = 1 := hml0
  have hown : s.vm.findClass "java/lang/String" = some m.cls := findClass_of_methodNamed Bd.named
  have hnm := (name_of_methodNamed Bd.named Bd.method).1
  have hlk : meth.locks = false := BodyLoose.notSynchronized Bd
  have X0 : Stand p l e ({ frames := 2, cells := 2, slots := 5, locals := 27 } : Room) s m #[(.int i0)] below meth c s₁ [] 0 0 := Stand.of_body Bd
  have e0 : s₁.heap = h0 := by rw [← hh, Bd.state]; rfl
  have N0 := Fr.nil n0
  have ZZ := Z0
  show Go p e below s ({ frames := 2, cells := 2, slots := 5, locals := 27 } : Room).cells ({ frames := 2, cells := 2, slots := 5, locals := 27 } : Room).slots (fun v h L => Q_rm1 Z i0 cs h0 n0 v h L) s₁ (entryFrame m #[(.int i0)] 1)
  refine Go.cast (ef_rm1 m i0) ?_
  refine Go.gen ?_
  intro K1 K2 QQ hK1 hK2 hQQ
  have KP : Keep h0 h0 [] := Keep.refl _ _
  obtain ⟨T1, X1, e1, st1⟩ := getS2 X0 hx hZ hown (host := "") (Or.inl (hw _ (List.mem_of_getElem? (i := 7) rfl))) Via.refl e0 S_COMPACT_STRINGS (g := (mkF m 0 #[.val (.int i0)] [])) rfl (hb hby d1_0)
  refine Go.on st1 ?_
  show Go _ _ _ _ _ _ _ _ (mkF m 3 #[.val (.int i0)] [(.int cs)])
  have hc2 : ¬ (cs = (0 : Int32)) := hcs
  refine Go.on (fun _ k => XS.ifNo X1.here hx rfl (hb hby d1_3) rfl ((if0 _ _).trans (feq hc2).1) k) ?_
  show Go _ _ _ _ _ _ _ _ (mkF m 6 #[.val (.int i0)] [])
  refine Go.on (fun _ k => XS.iloadN X1.here hx rfl (hb hby d1_6) rfl k) ?_
  show Go _ _ _ _ _ _ _ _ (mkF m 7 #[.val (.int i0)] [(.int i0)])
  obtain ⟨_, _, ⟨T3, L3, k3, n3⟩, -, X3, ⟨Lc3, hQ3, l3, y3, z3⟩, st3⟩ := Jvm.LawKit.callS X1 hx (y := (⟨"java/lang/StringLatin1", "canEncode", "(C)Z"⟩ : MethodName)) hown (mvT hZ (hw _ (List.mem_of_getElem? (i := 8) rfl))) (mvT hZ (hw _ (List.mem_of_getElem? (i := 9) rfl))) (mvT hZ (hw _ (List.mem_of_getElem? (i := 10) rfl))) (mvT hZ (hw _ (List.mem_of_getElem? (i := 11) rfl))) (by decide) (backOf (W := 0) (rm2 l Z aw hw [] i0  h0 n0 ZZ hc) hZ (hw _ (List.mem_of_getElem? (i := 11) rfl)) (hw _ (List.mem_of_getElem? (i := 10) rfl)) (by decide) (by decide)) (g := (mkF m 7 #[.val (.int i0)] [(.int i0)])) rfl (by rw [hml]; rfl) (argsL := [(.int i0)]) (rest := []) (lenOf pd_0 rfl) rfl (by show 2 * 0 + _ ≤ _; exact Nat.le_of_eq rfl) (hb hby d1_7) (fun _ _ => ⟨rfl, e1, (by decide : 0 + 0 ≤ _), (by decide : 0 + 0 ≤ _)⟩)
  dsimp only [Pt.U, Pt.locs, Pt.cells, Pt.slots] at X3 l3 y3 z3 st3 hQ3
  subst l3 y3 z3
  obtain ⟨rfl, N3q, e3⟩ := hQ3
  have N3 := Fr.app N0 N3q
  refine Go.on st3 ?_
  show Go _ _ _ _ _ _ _ _ (mkF m 10 #[.val (.int i0)] [(.int (1 : Int32))])
  have hc4 : ¬ ((1 : Int32) = (0 : Int32)) := by decide
  refine Go.on (fun _ k => XS.ifNo X3.here hx rfl (hb hby d1_10) rfl ((if0 _ _).trans (feq hc4).1) k) ?_
  show Go _ _ _ _ _ _ _ _ (mkF m 13 #[.val (.int i0)] [])
  obtain ⟨T5, h5, X5, e5, E5, A5, D5, -, st5⟩ := newO X3 hx hZ hown (hw _ (List.mem_of_getElem? (i := 12) rfl)) (hw _ (List.mem_of_getElem? (i := 13) rfl)) (hw _ (List.mem_of_getElem? (i := 5) rfl)) e3 (g := (mkF m 13 #[.val (.int i0)] [])) rfl (hb hby d1_13) (by decide) (by decide)
  obtain ⟨sq, g5⟩ : ∃ z, z = h0.size := ⟨_, rfl⟩
  have g_sq : n0 ≤ sq := Nat.le_trans ZZ (Nat.le_of_eq g5.symm)
  have sz_sq : h0.size ≤ sq := Nat.le_trans KP.1 (Nat.le_of_eq g5.symm)
  rw [← g5] at A5 D5 st5
  replace S_COMPACT_STRINGS := S_COMPACT_STRINGS.ext E5
  replace ZZ := Nat.le_trans ZZ E5.1
  replace KP := KP.ext E5
  have E_sq := A5
  have F_value_sq : Fld Z h5 sq "java/lang/String" "value" "[B" .null := D5 (Or.inr (hw _ (List.mem_of_getElem? (i := 26) rfl))) (ty := (.array .byte)) (by decide)
  have F_coder_sq : Fld Z h5 sq "java/lang/String" "coder" "B" (.int (0 : Int32)) := D5 (Or.inr (hw _ (List.mem_of_getElem? (i := 28) rfl))) (ty := .byte) (by decide)
  refine Go.on st5 ?_
  show Go _ _ _ _ _ _ _ _ (mkF m 16 #[.val (.int i0)] [(.ref sq)])
  refine Go.on (fun _ k => XS.dup X5.here hx rfl (hb hby d1_16) rfl rfl k) ?_
  show Go _ _ _ _ _ _ _ _ (mkF m 17 #[.val (.int i0)] [(.ref sq), (.ref sq)])
  refine Go.on (fun _ k => XS.iloadN X5.here hx rfl (hb hby d1_17) rfl k) ?_
  show Go _ _ _ _ _ _ _ _ (mkF m 18 #[.val (.int i0)] [(.int i0), (.ref sq), (.ref sq)])
  obtain ⟨_, _, ⟨T6, L6, k6, n6⟩, -, X6, ⟨Lc6, hQ6, l6, y6, z6⟩, st6⟩ := Jvm.LawKit.callS X5 hx (y := (⟨"java/lang/StringLatin1", "toBytes", "(C)[B"⟩ : MethodName)) hown (mvT hZ (hw _ (List.mem_of_getElem? (i := 14) rfl))) (mvT hZ (hw _ (List.mem_of_getElem? (i := 15) rfl))) (mvT hZ (hw _ (List.mem_of_getElem? (i := 10) rfl))) (mvT hZ (hw _ (List.mem_of_getElem? (i := 16) rfl))) (by decide) (backOf (W := 2) (rm3 l Z aw hw [] i0  h5 n0 ZZ ) hZ (hw _ (List.mem_of_getElem? (i := 16) rfl)) (hw _ (List.mem_of_getElem? (i := 10) rfl)) (by decide) (by decide)) (g := (mkF m 18 #[.val (.int i0)] [(.int i0), (.ref sq), (.ref sq)])) rfl (by rw [hml]; rfl) (argsL := [(.int i0)]) (rest := [(.ref sq), (.ref sq)]) (lenOf pd_1 rfl) rfl (by show 2 * 0 + _ ≤ _; exact Nat.le_of_eq rfl) (hb hby d1_18) (fun _ _ => ⟨rfl, e5, (by decide : 1 + 1 ≤ _), (by decide : 4 + 1 ≤ _)⟩)
  dsimp only [Pt.U, Pt.locs, Pt.cells, Pt.slots] at X6 l6 y6 z6 st6 hQ6
  subst l6 y6 z6
  obtain ⟨h6, e6⟩ : ∃ q, T6.heap = q := ⟨_, rfl⟩
  rw [e6] at hQ6
  obtain ⟨sb, k_sb, rfl, N6q, K6q, szq6, V_sb⟩ := hQ6
  have N6 := Fr.app N3 N6q
  have g_sb : n0 ≤ sb := Nat.le_trans ZZ szq6
  have ne_sq_sb : sq ≠ sb := Nat.ne_of_lt (Nat.lt_of_lt_of_le E_sq.lt szq6)
  replace S_COMPACT_STRINGS := own_sta_keep S_COMPACT_STRINGS K6q own_ob0
  replace E_sq := E_sq.keep K6q
  replace F_value_sq := F_value_sq.keep K6q nin0
  replace F_coder_sq := F_coder_sq.keep K6q nin0
  replace ZZ := Nat.le_trans ZZ K6q.1
  replace KP := KP.trans K6q all0
  refine Go.on st6 ?_
  show Go _ _ _ _ _ _ _ _ (mkF m 21 #[.val (.int i0)] [(.ref sb), (.ref sq), (.ref sq)])
  refine Go.on (fun _ k => XS.iconst X6.here hx rfl (hb hby d1_21) k) ?_
  show Go _ _ _ _ _ _ _ _ (mkF m 22 #[.val (.int i0)] [(.int (0 : Int32)), (.ref sb), (.ref sq), (.ref sq)])
  obtain ⟨_, _, ⟨T7, L7, k7, n7⟩, -, X7, ⟨Lc7, hQ7, l7, y7, z7⟩, st7⟩ := X6.specialBack hx (y := (⟨"java/lang/String", "<init>", "([BB)V"⟩ : MethodName)) rfl hown (mvT hZ (hw _ (List.mem_of_getElem? (i := 18) rfl))) (mvT hZ (hw _ (List.mem_of_getElem? (i := 19) rfl))) (mvT hZ (hw _ (List.mem_of_getElem? (i := 21) rfl))) (by decide) (backOf (W := 1) (rm4 l Z aw hw [] sq sb  h6 n0 ZZ E_sq F_value_sq F_coder_sq g_sq) hZ (hw _ (List.mem_of_getElem? (i := 21) rfl)) (hw _ (List.mem_of_getElem? (i := 5) rfl)) (by decide) (by decide)) (g := (mkF m 22 #[.val (.int i0)] [(.int (0 : Int32)), (.ref sb), (.ref sq), (.ref sq)])) rfl (by rw [hml]; rfl) (Steps.refl _) (a := sq) (argsL := [(.ref sb), (.int (0 : Int32))]) (rest := [(.ref sq)]) (lenOf pd_2 rfl) rfl (by show 2 * 0 + _ ≤ _; exact Nat.le_of_eq rfl) (hb hby d1_22) (fun _ _ => ⟨rfl, e6, (by decide : 2 + 0 ≤ _), (by decide : 5 + 0 ≤ _)⟩)
  dsimp only [Pt.U, Pt.locs, Pt.cells, Pt.slots] at X7 l7 y7 z7 st7 hQ7
  subst l7 y7 z7
  obtain ⟨h7, e7⟩ : ∃ q, T7.heap = q := ⟨_, rfl⟩
  rw [e7] at hQ7
  obtain ⟨rfl, N7q, K7q, E_sq', F_coder_sq'⟩ := hQ7
  have N7 := Fr.app N6 N7q
  replace S_COMPACT_STRINGS := own_sta_keep S_COMPACT_STRINGS K7q (own_obS (own_cell0 E_sq) own_ob0)
  replace E_sq := E_sq.keep K7q
  replace ZZ := Nat.le_trans ZZ K7q.1
  replace KP := KP.trans K7q (allS (Or.inr sz_sq) all0)
  replace E_sq := E_sq'
  have F_coder_sq := F_coder_sq'
  refine Go.on (fun _ k => st7.trans k) ?_
  show Go _ _ _ _ _ _ _ _ (mkF m 25 #[.val (.int i0)] [(.ref sq)])
  refine Go.retV X7 hx Bd.returns rfl (Or.inr (Or.inr (Or.inr (Or.inr ⟨rfl, rfl, rfl⟩)))) (hb hby d1_25) ?_ (by rw [hK1]; decide) (by rw [hK2]; decide)
  rw [e7, ← hQQ]
  exact ⟨sq, rfl, N7, KP, sz_sq, E_sq, F_coder_sq⟩
theorem d7_0 : decode jdk_30_method_1_code 0 = .ok (.aload_n 0, 1) := by decide +kernel
theorem d7_1 : decode jdk_30_method_1_code 1 = .ok (.invokespecial 1, 3) := by decide +kernel
theorem d7_4 : decode jdk_30_method_1_code 4 = .ok (.return_, 1) := by decide +kernel
theorem pn_2 : plainName "java/lang/Record" = true := by first | (simp [plainName, overriddenIn]; done) | decide +kernel
theorem ef_rm7 (m : MethodId) (a0 : Addr) : entryFrame m #[(.ref a0)] 1 = mkF m 0 #[.val (.ref a0)] [] := by first | (simp [entryFrame, mkF, argsToLocals, Value.category]; done) | rfl
def Q_rm7 (Z : State) (a0 : Addr) (h0 : Heap) (n0 : Nat) (v : Option Value) (h : Heap) (L : List Loc) : Prop := v = none ∧ Fr n0 L ∧ h = h0
set_option maxRecDepth 65536 in
set_option maxHeartbeats 40000000 in
theorem rm7 (l : Launch) (Z : State) (aw : Array Value) (hw : ∀ d ∈ tables_1, d.before aw Z = true) (ws : List Jvm.Cond) (a0 : Addr) (h0 : Heap) (n0 : Nat) (Z0 : n0 ≤ h0.size) :
    MetFree l (⟨"java/lang/Record", "<init>", "()V"⟩ : MethodName) (head1 (Jvm.Cond.code (⟨"java/lang/Record", "<init>", "()V"⟩ : MethodName) jdk_30_method_1_code 1 none :: ws) ({ frames := 1, cells := 0, slots := 0, locals := 12 } : Room)) (fun a U => a = #[(.ref a0)] ∧ Z.Warmed39 U.vm ∧ U.heap = h0) (fun _ _ _ _ _ => True) (fun _ U o U' => ∃ v L, o = .returned v ∧ Q_rm7 Z a0 h0 n0 v U'.heap L ∧ FrameEnd U o U' L ({ frames := 1, cells := 0, slots := 0, locals := 12 } : Room).cells ({ frames := 1, cells := 0, slots := 0, locals := 12 } : Room).slots) := by
  refine MetFree.of_bodySF (plainFor_of_name pn_2) hisR ?_
  intro p e s m args below meth c s₁ Bd hml0 hP hK
  obtain ⟨rfl, hZ, hh⟩ := hP
  have hx := Bd.exec
  have hby := Bd.bytes
  have hml : c.maxLocals = 1 := hml0
  have hown : s.vm.findClass "java/lang/Record" = some m.cls := findClass_of_methodNamed Bd.named
  have hnm := (name_of_methodNamed Bd.named Bd.method).1
  have hlk : meth.locks = false := BodyLoose.notSynchronized Bd
  have X0 : Stand p l e ({ frames := 1, cells := 0, slots := 0, locals := 12 } : Room) s m #[(.ref a0)] below meth c s₁ [] 0 0 := Stand.of_body Bd
  have e0 : s₁.heap = h0 := by rw [← hh, Bd.state]; rfl
  have N0 := Fr.nil n0
  have ZZ := Z0
  show Go p e below s ({ frames := 1, cells := 0, slots := 0, locals := 12 } : Room).cells ({ frames := 1, cells := 0, slots := 0, locals := 12 } : Room).slots (fun v h L => Q_rm7 Z a0 h0 n0 v h L) s₁ (entryFrame m #[(.ref a0)] 1)
  refine Go.cast (ef_rm7 m a0) ?_
  refine Go.gen ?_
  intro K1 K2 QQ hK1 hK2 hQQ
  refine Go.on (fun _ k => XS.aloadN X0.here hx rfl (hb hby d7_0) rfl rfl k) ?_
  show Go _ _ _ _ _ _ _ _ (mkF m 1 #[.val (.ref a0)] [(.ref a0)])
  obtain ⟨T1, X1, e1, st1⟩ := initO X0 hx hZ hown (hw _ (List.mem_of_getElem? (i := 40) rfl)) (hw _ (List.mem_of_getElem? (i := 23) rfl)) (hw _ (List.mem_of_getElem? (i := 24) rfl)) e0 (g := (mkF m 1 #[.val (.ref a0)] [(.ref a0)])) rfl (by rw [hml]; rfl) rfl (hb hby d7_1) (by decide) (W := 0) (by show 2 * 0 + _ ≤ _; exact Nat.le_of_eq rfl) (by decide)
  refine Go.on st1 ?_
  show Go _ _ _ _ _ _ _ _ (mkF m 4 #[.val (.ref a0)] [])
  refine Go.ret0 X1 hx Bd.returns (hb hby d7_4) ?_ (by rw [hK1]; decide) (by rw [hK2]; decide)
  rw [e1, ← hQQ]
  exact ⟨rfl, N0, rfl⟩
theorem d8_0 : decode jdk_31_method_11_code 0 = .ok (.aload_n 0, 1) := by decide +kernel
theorem d8_1 : decode jdk_31_method_11_code 1 = .ok (.ifnonnull 12, 3) := by decide +kernel
theorem d8_13 : decode jdk_31_method_11_code 13 = .ok (.aload_n 0, 1) := by decide +kernel
theorem d8_14 : decode jdk_31_method_11_code 14 = .ok (.areturn, 1) := by decide +kernel
theorem pn_3 : plainName "java/util/Objects" = true := by first | (simp [plainName, overriddenIn]; done) | decide +kernel
theorem ef_rm8 (m : MethodId) (a0 : Addr) (a1 : Addr) : entryFrame m #[(.ref a0), (.ref a1)] 2 = mkF m 0 #[.val (.ref a0), .val (.ref a1)] [] := by first | (simp [entryFrame, mkF, argsToLocals, Value.category]; done) | rfl
def Q_rm8 (Z : State) (a0 : Addr) (a1 : Addr) (h0 : Heap) (n0 : Nat) (v : Option Value) (h : Heap) (L : List Loc) : Prop := v = some (.ref a0) ∧ Fr n0 L ∧ h = h0
set_option maxRecDepth 65536 in
set_option maxHeartbeats 40000000 in
theorem rm8 (l : Launch) (Z : State) (aw : Array Value) (hw : ∀ d ∈ tables_1, d.before aw Z = true) (ws : List Jvm.Cond) (a0 : Addr) (a1 : Addr) (h0 : Heap) (n0 : Nat) (Z0 : n0 ≤ h0.size) :
    MetFree l (⟨"java/util/Objects", "requireNonNull", "(Ljava/lang/Object;Ljava/lang/String;)Ljava/lang/Object;"⟩ : MethodName) (head1 (Jvm.Cond.code (⟨"java/util/Objects", "requireNonNull", "(Ljava/lang/Object;Ljava/lang/String;)Ljava/lang/Object;"⟩ : MethodName) jdk_31_method_11_code 2 (some (.object "java/lang/Object")) :: ws) ({ frames := 0, cells := 0, slots := 0, locals := 0 } : Room)) (fun a U => a = #[(.ref a0), (.ref a1)] ∧ Z.Warmed39 U.vm ∧ U.heap = h0) (fun _ _ _ _ _ => True) (fun _ U o U' => ∃ v L, o = .returned v ∧ Q_rm8 Z a0 a1 h0 n0 v U'.heap L ∧ FrameEnd U o U' L ({ frames := 0, cells := 0, slots := 0, locals := 0 } : Room).cells ({ frames := 0, cells := 0, slots := 0, locals := 0 } : Room).slots) := by
  refine MetFree.of_bodySF (plainFor_of_name pn_3) hisR ?_
  intro p e s m args below meth c s₁ Bd hml0 hP hK
  obtain ⟨rfl, hZ, hh⟩ := hP
  have hx := Bd.exec
  have hby := Bd.bytes
  have hml : c.maxLocals = 2 := hml0
  have hown : s.vm.findClass "java/util/Objects" = some m.cls := findClass_of_methodNamed Bd.named
  have hnm := (name_of_methodNamed Bd.named Bd.method).1
  have hlk : meth.locks = false := BodyLoose.notSynchronized Bd
  have X0 : Stand p l e ({ frames := 0, cells := 0, slots := 0, locals := 0 } : Room) s m #[(.ref a0), (.ref a1)] below meth c s₁ [] 0 0 := Stand.of_body Bd
  have e0 : s₁.heap = h0 := by rw [← hh, Bd.state]; rfl
  have N0 := Fr.nil n0
  have ZZ := Z0
  show Go p e below s ({ frames := 0, cells := 0, slots := 0, locals := 0 } : Room).cells ({ frames := 0, cells := 0, slots := 0, locals := 0 } : Room).slots (fun v h L => Q_rm8 Z a0 a1 h0 n0 v h L) s₁ (entryFrame m #[(.ref a0), (.ref a1)] 2)
  refine Go.cast (ef_rm8 m a0 a1) ?_
  refine Go.gen ?_
  intro K1 K2 QQ hK1 hK2 hQQ
  refine Go.on (fun _ k => XS.aloadN X0.here hx rfl (hb hby d8_0) rfl rfl k) ?_
  show Go _ _ _ _ _ _ _ _ (mkF m 1 #[.val (.ref a0), .val (.ref a1)] [(.ref a0)])
  refine Go.on (fun _ k => XS.ifnonnullYes X0.here hx rfl (pc0 := 1) (pc' := 13) rfl (hb hby d8_1) rfl (by decide) (by decide) k) ?_
  show Go _ _ _ _ _ _ _ _ (mkF m 13 #[.val (.ref a0), .val (.ref a1)] [])
  refine Go.on (fun _ k => XS.aloadN X0.here hx rfl (hb hby d8_13) rfl rfl k) ?_
  show Go _ _ _ _ _ _ _ _ (mkF m 14 #[.val (.ref a0), .val (.ref a1)] [(.ref a0)])
  refine Go.retV X0 hx Bd.returns rfl (Or.inr (Or.inr (Or.inr (Or.inr ⟨rfl, rfl, rfl⟩)))) (hb hby d8_14) ?_ (by rw [hK1]; decide) (by rw [hK2]; decide)
  rw [e0, ← hQQ]
  exact ⟨rfl, N0, rfl⟩
theorem d9_0 : decode prog_2_method_2_code 0 = .ok (.dload_n 0, 1) := by decide +kernel
theorem d9_1 : decode prog_2_method_2_code 1 = .ok (.dconst 0, 1) := by decide +kernel
theorem d9_2 : decode prog_2_method_2_code 2 = .ok (.dcmp .l, 1) := by decide +kernel
theorem d9_3 : decode prog_2_method_2_code 3 = .ok (.ifCond .lt 11, 3) := by decide +kernel
theorem d9_6 : decode prog_2_method_2_code 6 = .ok (.dload_n 0, 1) := by decide +kernel
theorem d9_7 : decode prog_2_method_2_code 7 = .ok (.ldc2_w 9, 3) := by decide +kernel
theorem d9_10 : decode prog_2_method_2_code 10 = .ok (.dcmp .g, 1) := by decide +kernel
theorem d9_11 : decode prog_2_method_2_code 11 = .ok (.ifCond .lt 18, 3) := by decide +kernel
theorem d9_29 : decode prog_2_method_2_code 29 = .ok (.dload_n 0, 1) := by decide +kernel
theorem d9_30 : decode prog_2_method_2_code 30 = .ok (.dreturn, 1) := by decide +kernel
theorem pn_4 : plainName "com/example/outpost/outpost/Amounts" = true := by first | (simp [plainName, overriddenIn]; done) | decide +kernel
theorem ef_rm9 (m : MethodId) (d0 : UInt64) (a1 : Addr) : entryFrame m #[(.double d0), (.ref a1)] 3 = mkF m 0 #[.val (.double d0), .second, .val (.ref a1)] [] := by first | (simp [entryFrame, mkF, argsToLocals, Value.category]; done) | rfl
def Q_rm9 (Z : State) (d0 : UInt64) (a1 : Addr) (h0 : Heap) (n0 : Nat) (v : Option Value) (h : Heap) (L : List Loc) : Prop := v = some (.double d0) ∧ Fr n0 L ∧ h = h0
set_option maxRecDepth 65536 in
set_option maxHeartbeats 40000000 in
theorem rm9 (l : Launch) (Z : State) (aw : Array Value) (hw : ∀ d ∈ tables_1, d.before aw Z = true) (ws : List Jvm.Cond) (d0 : UInt64) (a1 : Addr) (h0 : Heap) (n0 : Nat) (Z0 : n0 ≤ h0.size) (p1_ : ¬ ((cmpValue (FP.dcmp d0 (0 : UInt64)) .l) < (0 : Int32))) (p2_ : (cmpValue (FP.dcmp d0 (9218868437227405312 : UInt64)) .g) < (0 : Int32)) :
    MetFree l (⟨"com/example/outpost/outpost/Amounts", "finiteNonNegative", "(DLjava/lang/String;)D"⟩ : MethodName) (head1 (Jvm.Cond.code (⟨"com/example/outpost/outpost/Amounts", "finiteNonNegative", "(DLjava/lang/String;)D"⟩ : MethodName) prog_2_method_2_code 3 (some .double) :: ws) ({ frames := 0, cells := 0, slots := 0, locals := 0 } : Room)) (fun a U => a = #[(.double d0), (.ref a1)] ∧ Z.Warmed39 U.vm ∧ U.heap = h0) (fun _ _ _ _ _ => True) (fun _ U o U' => ∃ v L, o = .returned v ∧ Q_rm9 Z d0 a1 h0 n0 v U'.heap L ∧ FrameEnd U o U' L ({ frames := 0, cells := 0, slots := 0, locals := 0 } : Room).cells ({ frames := 0, cells := 0, slots := 0, locals := 0 } : Room).slots) := by
  refine MetFree.of_bodySF (plainFor_of_name pn_4) hisR ?_
  intro p e s m args below meth c s₁ Bd hml0 hP hK
  obtain ⟨rfl, hZ, hh⟩ := hP
  have hx := Bd.exec
  have hby := Bd.bytes
  have hml : c.maxLocals = 3 := hml0
  have hown : s.vm.findClass "com/example/outpost/outpost/Amounts" = some m.cls := findClass_of_methodNamed Bd.named
  have hnm := (name_of_methodNamed Bd.named Bd.method).1
  have hlk : meth.locks = false := BodyLoose.notSynchronized Bd
  have X0 : Stand p l e ({ frames := 0, cells := 0, slots := 0, locals := 0 } : Room) s m #[(.double d0), (.ref a1)] below meth c s₁ [] 0 0 := Stand.of_body Bd
  have e0 : s₁.heap = h0 := by rw [← hh, Bd.state]; rfl
  have N0 := Fr.nil n0
  have ZZ := Z0
  show Go p e below s ({ frames := 0, cells := 0, slots := 0, locals := 0 } : Room).cells ({ frames := 0, cells := 0, slots := 0, locals := 0 } : Room).slots (fun v h L => Q_rm9 Z d0 a1 h0 n0 v h L) s₁ (entryFrame m #[(.double d0), (.ref a1)] 3)
  refine Go.cast (ef_rm9 m d0 a1) ?_
  refine Go.gen ?_
  intro K1 K2 QQ hK1 hK2 hQQ
  refine Go.on (fun _ k => XS.dloadN X0.here hx rfl (hb hby d9_0) rfl k) ?_
  show Go _ _ _ _ _ _ _ _ (mkF m 1 #[.val (.double d0), .second, .val (.ref a1)] [(.double d0)])
  refine Go.on (fun _ k => XS.dconst0 X0.here hx rfl (v := (0 : UInt64)) (hb hby d9_1) rfl k) ?_
  show Go _ _ _ _ _ _ _ _ (mkF m 2 #[.val (.double d0), .second, .val (.ref a1)] [(.double (0 : UInt64)), (.double d0)])
  refine Go.on (fun _ k => XS.dcmpS X0.here hx rfl (hb hby d9_2) rfl rfl k) ?_
  show Go _ _ _ _ _ _ _ _ (mkF m 3 #[.val (.double d0), .second, .val (.ref a1)] [(.int (cmpValue (FP.dcmp d0 (0 : UInt64)) .l))])
  have hc1 : ¬ ((cmpValue (FP.dcmp d0 (0 : UInt64)) .l) < (0 : Int32)) := p1_
  refine Go.on (fun _ k => XS.ifNo X0.here hx rfl (hb hby d9_3) rfl ((if0 _ _).trans (flt hc1).1) k) ?_
  show Go _ _ _ _ _ _ _ _ (mkF m 6 #[.val (.double d0), .second, .val (.ref a1)] [])
  refine Go.on (fun _ k => XS.dloadN X0.here hx rfl (hb hby d9_6) rfl k) ?_
  show Go _ _ _ _ _ _ _ _ (mkF m 7 #[.val (.double d0), .second, .val (.ref a1)] [(.double d0)])
  refine Go.on (X0.ldc2DoubleC hx hown (mvT hZ (hw _ (List.mem_of_getElem? (i := 53) rfl))) (g := (mkF m 7 #[.val (.double d0), .second, .val (.ref a1)] [(.double d0)])) rfl (hb hby d9_7)) ?_
  show Go _ _ _ _ _ _ _ _ (mkF m 10 #[.val (.double d0), .second, .val (.ref a1)] [(.double (9218868437227405312 : UInt64)), (.double d0)])
  refine Go.on (fun _ k => XS.dcmpS X0.here hx rfl (hb hby d9_10) rfl rfl k) ?_
  show Go _ _ _ _ _ _ _ _ (mkF m 11 #[.val (.double d0), .second, .val (.ref a1)] [(.int (cmpValue (FP.dcmp d0 (9218868437227405312 : UInt64)) .g))])
  have hc2 : (cmpValue (FP.dcmp d0 (9218868437227405312 : UInt64)) .g) < (0 : Int32) := p2_
  refine Go.on (fun _ k => XS.ifYes X0.here hx rfl (pc0 := 11) (pc' := 29) rfl (hb hby d9_11) rfl ((if0 _ _).trans (tlt hc2).1) (by decide) (by decide) k) ?_
  show Go _ _ _ _ _ _ _ _ (mkF m 29 #[.val (.double d0), .second, .val (.ref a1)] [])
  refine Go.on (fun _ k => XS.dloadN X0.here hx rfl (hb hby d9_29) rfl k) ?_
  show Go _ _ _ _ _ _ _ _ (mkF m 30 #[.val (.double d0), .second, .val (.ref a1)] [(.double d0)])
  refine Go.retV X0 hx Bd.returns rfl (Or.inr (Or.inr (Or.inl ⟨rfl, rfl, _, rfl⟩))) (hb hby d9_30) ?_ (by rw [hK1]; decide) (by rw [hK2]; decide)
  rw [e0, ← hQQ]
  exact ⟨rfl, N0, rfl⟩
theorem pd_3 : parseMethodDescriptor "()V" = some ⟨[], none⟩ := by decide +kernel
theorem pd_4 : parseMethodDescriptor "(Ljava/lang/Object;Ljava/lang/String;)Ljava/lang/Object;" = some ⟨[(.object "java/lang/Object"), (.object "java/lang/String")], some (.object "java/lang/Object")⟩ := by decide +kernel
theorem pd_5 : parseMethodDescriptor "(DLjava/lang/String;)D" = some ⟨[.double, (.object "java/lang/String")], some .double⟩ := by decide +kernel
theorem d6_0 : decode prog_20_method_1_code 0 = .ok (.aload_n 0, 1) := by decide +kernel
theorem d6_1 : decode prog_20_method_1_code 1 = .ok (.invokespecial 1, 3) := by decide +kernel
theorem d6_4 : decode prog_20_method_1_code 4 = .ok (.aload_n 1, 1) := by decide +kernel
theorem d6_5 : decode prog_20_method_1_code 5 = .ok (.ldc 7, 2) := by decide +kernel
theorem d6_7 : decode prog_20_method_1_code 7 = .ok (.invokestatic 9, 3) := by decide +kernel
theorem d6_10 : decode prog_20_method_1_code 10 = .ok (.pop, 1) := by decide +kernel
theorem d6_11 : decode prog_20_method_1_code 11 = .ok (.dload_n 2, 1) := by decide +kernel
theorem d6_12 : decode prog_20_method_1_code 12 = .ok (.ldc 15, 2) := by decide +kernel
theorem d6_14 : decode prog_20_method_1_code 14 = .ok (.invokestatic 17, 3) := by decide +kernel
theorem d6_17 : decode prog_20_method_1_code 17 = .ok (.pop2, 1) := by decide +kernel
theorem d6_18 : decode prog_20_method_1_code 18 = .ok (.dload 4, 2) := by decide +kernel
theorem d6_20 : decode prog_20_method_1_code 20 = .ok (.dconst 0, 1) := by decide +kernel
theorem d6_21 : decode prog_20_method_1_code 21 = .ok (.dcmp .l, 1) := by decide +kernel
theorem d6_22 : decode prog_20_method_1_code 22 = .ok (.ifCond .gt 18, 3) := by decide +kernel
theorem d6_40 : decode prog_20_method_1_code 40 = .ok (.aload_n 0, 1) := by decide +kernel
theorem d6_41 : decode prog_20_method_1_code 41 = .ok (.aload_n 1, 1) := by decide +kernel
theorem d6_42 : decode prog_20_method_1_code 42 = .ok (.putfield 32, 3) := by decide +kernel
theorem d6_45 : decode prog_20_method_1_code 45 = .ok (.aload_n 0, 1) := by decide +kernel
theorem d6_46 : decode prog_20_method_1_code 46 = .ok (.dload_n 2, 1) := by decide +kernel
theorem d6_47 : decode prog_20_method_1_code 47 = .ok (.putfield 37, 3) := by decide +kernel
theorem d6_50 : decode prog_20_method_1_code 50 = .ok (.aload_n 0, 1) := by decide +kernel
theorem d6_51 : decode prog_20_method_1_code 51 = .ok (.dload 4, 2) := by decide +kernel
theorem d6_53 : decode prog_20_method_1_code 53 = .ok (.putfield 41, 3) := by decide +kernel
theorem d6_56 : decode prog_20_method_1_code 56 = .ok (.return_, 1) := by decide +kernel
theorem pn_5 : plainName "com/example/outpost/outpost/Site" = true := by first | (simp [plainName, overriddenIn]; done) | decide +kernel
theorem ef_rm6 (m : MethodId) (a0 : Addr) (a1 : Addr) (d2 : UInt64) (d3 : UInt64) : entryFrame m #[(.ref a0), (.ref a1), (.double d2), (.double d3)] 6 = mkF m 0 #[.val (.ref a0), .val (.ref a1), .val (.double d2), .second, .val (.double d3), .second] [] := by first | (simp [entryFrame, mkF, argsToLocals, Value.category]; done) | rfl
def Q_rm6 (Z : State) (a0 : Addr) (a1 : Addr) (d2 : UInt64) (d3 : UInt64) (h0 : Heap) (n0 : Nat) (v : Option Value) (h : Heap) (L : List Loc) : Prop := v = none ∧ Fr n0 L ∧ Keep h0 h [a0] ∧ Exa Z h a0 "com/example/outpost/outpost/Site" ∧ Fld Z h a0 "com/example/outpost/outpost/Site" "capacity" "D" (.double d3)
set_option maxRecDepth 65536 in
set_option maxHeartbeats 40000000 in
theorem rm6 (l : Launch) (Z : State) (aw : Array Value) (hw : ∀ d ∈ tables_1, d.before aw Z = true) (ws : List Jvm.Cond) (a0 : Addr) (a1 : Addr) (d2 : UInt64) (d3 : UInt64) (h0 : Heap) (n0 : Nat) (Z0 : n0 ≤ h0.size) (E_a0 : Exa Z h0 a0 "com/example/outpost/outpost/Site") (F_id_a0 : Fld Z h0 a0 "com/example/outpost/outpost/Site" "id" "Ljava/lang/String;" .null) (F_openingCost_a0 : Fld Z h0 a0 "com/example/outpost/outpost/Site" "openingCost" "D" (.double (0 : UInt64))) (F_capacity_a0 : Fld Z h0 a0 "com/example/outpost/outpost/Site" "capacity" "D" (.double (0 : UInt64))) (g_a0 : n0 ≤ a0) (p1_ : ¬ ((cmpValue (FP.dcmp d2 (0 : UInt64)) .l) < (0 : Int32))) (p2_ : (cmpValue (FP.dcmp d2 (9218868437227405312 : UInt64)) .g) < (0 : Int32)) (p3_ : (0 : Int32) < (cmpValue (FP.dcmp d3 (0 : UInt64)) .l)) :
    MetFree l (⟨"com/example/outpost/outpost/Site", "<init>", "(Ljava/lang/String;DD)V"⟩ : MethodName) (head1 (Jvm.Cond.code (⟨"com/example/outpost/outpost/Site", "<init>", "(Ljava/lang/String;DD)V"⟩ : MethodName) prog_20_method_1_code 6 none :: ws) ({ frames := 2, cells := 4, slots := 64, locals := 24 } : Room)) (fun a U => a = #[(.ref a0), (.ref a1), (.double d2), (.double d3)] ∧ Z.Warmed39 U.vm ∧ U.heap = h0) (fun _ _ _ _ _ => True) (fun _ U o U' => ∃ v L, o = .returned v ∧ Q_rm6 Z a0 a1 d2 d3 h0 n0 v U'.heap L ∧ ReturnedEndW U o U' L ({ frames := 2, cells := 4, slots := 64, locals := 24 } : Room).cells ({ frames := 2, cells := 4, slots := 64, locals := 24 } : Room).slots) := by
  refine MetFree.of_bodySF (plainFor_of_name pn_5) hisR ?_
  intro p e s m args below meth c s₁ Bd hml0 hP hK
  obtain ⟨rfl, hZ, hh⟩ := hP
  have hx := Bd.exec
  have hby := Bd.bytes
  have hml : c.maxLocals = 6 := hml0
  have hown : s.vm.findClass "com/example/outpost/outpost/Site" = some m.cls := findClass_of_methodNamed Bd.named
  have hnm := (name_of_methodNamed Bd.named Bd.method).1
  have hlk : meth.locks = false := BodyLoose.notSynchronized Bd
  have X0 : Stand p l e ({ frames := 2, cells := 4, slots := 64, locals := 24 } : Room) (s.setVm s.vm) m #[(.ref a0), (.ref a1), (.double d2), (.double d3)] below meth c s₁ [] 0 0 := Stand.of_body Bd
  have e0 : s₁.heap = h0 := by rw [← hh, Bd.state]; rfl
  have N0 := Fr.nil n0
  have ZZ := Z0
  show GoW p e below s ({ frames := 2, cells := 4, slots := 64, locals := 24 } : Room).cells ({ frames := 2, cells := 4, slots := 64, locals := 24 } : Room).slots (fun v h L => Q_rm6 Z a0 a1 d2 d3 h0 n0 v h L) s₁ (entryFrame m #[(.ref a0), (.ref a1), (.double d2), (.double d3)] 6)
  refine GoW.cast (ef_rm6 m a0 a1 d2 d3) ?_
  refine GoW.gen ?_
  intro K1 K2 QQ hK1 hK2 hQQ
  have HS : s.Since s.vm s.heap.size := (State.WarmedH.refl s).since _
  have HK : s.heap.size ≤ h0.size := by rw [hh]; exact Nat.le_refl _
  replace hZ : Z.Warmed39 (s.setVm s.vm).vm := hZ
  replace hown : (s.setVm s.vm).vm.findClass "com/example/outpost/outpost/Site" = some m.cls := hown
  have KP : Keep h0 h0 [a0] := Keep.refl _ _
  refine GoW.on (fun _ k => XS.aloadN X0.here hx rfl (hb hby d6_0) rfl rfl k) ?_
  show GoW _ _ _ _ _ _ _ _ (mkF m 1 #[.val (.ref a0), .val (.ref a1), .val (.double d2), .second, .val (.double d3), .second] [(.ref a0)])
  obtain ⟨_, _, ⟨T1, L1, k1, n1⟩, -, X1, ⟨Lc1, hQ1, l1, y1, z1⟩, st1⟩ := X0.specialBack hx (y := (⟨"java/lang/Record", "<init>", "()V"⟩ : MethodName)) rfl hown (mvT hZ (hw _ (List.mem_of_getElem? (i := 35) rfl))) (mvT hZ (hw _ (List.mem_of_getElem? (i := 36) rfl))) (mvT hZ (hw _ (List.mem_of_getElem? (i := 39) rfl))) (by decide) (backOf (W := 0) (rm7 l Z aw hw [] a0  h0 n0 ZZ ) hZ (hw _ (List.mem_of_getElem? (i := 39) rfl)) (hw _ (List.mem_of_getElem? (i := 38) rfl)) (by decide) (by decide)) (g := (mkF m 1 #[.val (.ref a0), .val (.ref a1), .val (.double d2), .second, .val (.double d3), .second] [(.ref a0)])) rfl (by rw [hml]; rfl) (Steps.refl _) (a := a0) (argsL := []) (rest := []) (lenOf pd_3 rfl) rfl (by show 2 * 0 + _ ≤ _; exact Nat.le_of_eq rfl) (hb hby d6_1) (fun _ _ => ⟨rfl, e0, (by decide : 0 + 0 ≤ _), (by decide : 0 + 0 ≤ _)⟩)
  dsimp only [Pt.U, Pt.locs, Pt.cells, Pt.slots] at X1 l1 y1 z1 st1 hQ1
  subst l1 y1 z1
  obtain ⟨rfl, N1q, e1⟩ := hQ1
  have N1 := Fr.app N0 N1q
  refine GoW.on (fun _ k => st1.trans k) ?_
  show GoW _ _ _ _ _ _ _ _ (mkF m 4 #[.val (.ref a0), .val (.ref a1), .val (.double d2), .second, .val (.double d3), .second] [])
  refine GoW.on (fun _ k => XS.aloadN X1.here hx rfl (hb hby d6_4) rfl rfl k) ?_
  show GoW _ _ _ _ _ _ _ _ (mkF m 5 #[.val (.ref a0), .val (.ref a1), .val (.double d2), .second, .val (.double d3), .second] [(.ref a1)])
  obtain ⟨sa2, T2, h2, kk2, X2, e2, E2, HS2, HK2, hZ2, hown2, st2⟩ := Jvm.RoadKit.ldcS X1 hx hZ hown (hw _ (List.mem_of_getElem? (i := 41) rfl)) (own_wS hw) e1 HS HK (g := (mkF m 5 #[.val (.ref a0), .val (.ref a1), .val (.double d2), .second, .val (.double d3), .second] [(.ref a1)])) rfl (hb hby d6_5) (n := 8) (by decide) (by decide) (by decide) (by decide)
  replace E_a0 := E_a0.ext E2
  replace F_id_a0 := F_id_a0.ext E2
  replace F_openingCost_a0 := F_openingCost_a0.ext E2
  replace F_capacity_a0 := F_capacity_a0.ext E2
  replace ZZ := Nat.le_trans ZZ E2.1
  replace KP := KP.ext E2
  replace HS := HS2
  replace HK := HK2
  replace hZ := hZ2
  replace hown := hown2
  refine GoW.on st2 ?_
  show GoW _ _ _ _ _ _ _ _ (mkF m 7 #[.val (.ref a0), .val (.ref a1), .val (.double d2), .second, .val (.double d3), .second] [(.ref sa2), (.ref a1)])
  obtain ⟨_, _, ⟨T3, L3, k3, n3⟩, -, X3, ⟨Lc3, hQ3, l3, y3, z3⟩, st3⟩ := Jvm.LawKit.callS X2 hx (y := (⟨"java/util/Objects", "requireNonNull", "(Ljava/lang/Object;Ljava/lang/String;)Ljava/lang/Object;"⟩ : MethodName)) hown (mvT hZ (hw _ (List.mem_of_getElem? (i := 44) rfl))) (mvT hZ (hw _ (List.mem_of_getElem? (i := 45) rfl))) (mvT hZ (hw _ (List.mem_of_getElem? (i := 46) rfl))) (mvT hZ (hw _ (List.mem_of_getElem? (i := 47) rfl))) (by decide) (backOf (W := 0) (rm8 l Z aw hw [] a1 sa2  h2 n0 ZZ ) hZ (hw _ (List.mem_of_getElem? (i := 47) rfl)) (hw _ (List.mem_of_getElem? (i := 46) rfl)) (by decide) (by decide)) (g := (mkF m 7 #[.val (.ref a0), .val (.ref a1), .val (.double d2), .second, .val (.double d3), .second] [(.ref sa2), (.ref a1)])) rfl (by rw [hml]; rfl) (argsL := [(.ref a1), (.ref sa2)]) (rest := []) (lenOf pd_4 rfl) rfl (by show 2 * 0 + _ ≤ _; exact Nat.le_of_eq rfl) (hb hby d6_7) (fun _ _ => ⟨rfl, e2, (by decide : 2 + 0 ≤ _), (by decide : 12 + 0 ≤ _)⟩)
  dsimp only [Pt.U, Pt.locs, Pt.cells, Pt.slots] at X3 l3 y3 z3 st3 hQ3
  subst l3 y3 z3
  obtain ⟨rfl, N3q, e3⟩ := hQ3
  have N3 := Fr.app N1 N3q
  refine GoW.on st3 ?_
  show GoW _ _ _ _ _ _ _ _ (mkF m 10 #[.val (.ref a0), .val (.ref a1), .val (.double d2), .second, .val (.double d3), .second] [(.ref a1)])
  refine GoW.on (fun _ k => XS.pop X3.here hx rfl (hb hby d6_10) rfl rfl k) ?_
  show GoW _ _ _ _ _ _ _ _ (mkF m 11 #[.val (.ref a0), .val (.ref a1), .val (.double d2), .second, .val (.double d3), .second] [])
  refine GoW.on (fun _ k => XS.dloadN X3.here hx rfl (hb hby d6_11) rfl k) ?_
  show GoW _ _ _ _ _ _ _ _ (mkF m 12 #[.val (.ref a0), .val (.ref a1), .val (.double d2), .second, .val (.double d3), .second] [(.double d2)])
  obtain ⟨sa4, T4, h4, kk4, X4, e4, E4, HS4, HK4, hZ4, hown4, st4⟩ := Jvm.RoadKit.ldcS X3 hx hZ hown (hw _ (List.mem_of_getElem? (i := 48) rfl)) (own_wS hw) e3 HS HK (g := (mkF m 12 #[.val (.ref a0), .val (.ref a1), .val (.double d2), .second, .val (.double d3), .second] [(.double d2)])) rfl (hb hby d6_12) (n := 48) (by decide) (by decide) (by decide) (by decide)
  replace E_a0 := E_a0.ext E4
  replace F_id_a0 := F_id_a0.ext E4
  replace F_openingCost_a0 := F_openingCost_a0.ext E4
  replace F_capacity_a0 := F_capacity_a0.ext E4
  replace ZZ := Nat.le_trans ZZ E4.1
  replace KP := KP.ext E4
  replace HS := HS4
  replace HK := HK4
  replace hZ := hZ4
  replace hown := hown4
  refine GoW.on st4 ?_
  show GoW _ _ _ _ _ _ _ _ (mkF m 14 #[.val (.ref a0), .val (.ref a1), .val (.double d2), .second, .val (.double d3), .second] [(.ref sa4), (.double d2)])
  obtain ⟨_, _, ⟨T5, L5, k5, n5⟩, -, X5, ⟨Lc5, hQ5, l5, y5, z5⟩, st5⟩ := Jvm.LawKit.callS X4 hx (y := (⟨"com/example/outpost/outpost/Amounts", "finiteNonNegative", "(DLjava/lang/String;)D"⟩ : MethodName)) hown (mvT hZ (hw _ (List.mem_of_getElem? (i := 49) rfl))) (mvT hZ (hw _ (List.mem_of_getElem? (i := 50) rfl))) (mvT hZ (hw _ (List.mem_of_getElem? (i := 51) rfl))) (mvT hZ (hw _ (List.mem_of_getElem? (i := 52) rfl))) (by decide) (backOf (W := 0) (rm9 l Z aw hw [] d2 sa4  h4 n0 ZZ p1_ p2_) hZ (hw _ (List.mem_of_getElem? (i := 52) rfl)) (hw _ (List.mem_of_getElem? (i := 51) rfl)) (by decide) (by decide)) (g := (mkF m 14 #[.val (.ref a0), .val (.ref a1), .val (.double d2), .second, .val (.double d3), .second] [(.ref sa4), (.double d2)])) rfl (by rw [hml]; rfl) (argsL := [(.double d2), (.ref sa4)]) (rest := []) (lenOf pd_5 rfl) rfl (by show 2 * 0 + _ ≤ _; exact Nat.le_of_eq rfl) (hb hby d6_14) (fun _ _ => ⟨rfl, e4, (by decide : 4 + 0 ≤ _), (by decide : 64 + 0 ≤ _)⟩)
  dsimp only [Pt.U, Pt.locs, Pt.cells, Pt.slots] at X5 l5 y5 z5 st5 hQ5
  subst l5 y5 z5
  obtain ⟨rfl, N5q, e5⟩ := hQ5
  have N5 := Fr.app N3 N5q
  refine GoW.on st5 ?_
  show GoW _ _ _ _ _ _ _ _ (mkF m 17 #[.val (.ref a0), .val (.ref a1), .val (.double d2), .second, .val (.double d3), .second] [(.double d2)])
  refine GoW.on (fun _ k => own_pop2D X5.here hx rfl (hb hby d6_17) rfl k) ?_
  show GoW _ _ _ _ _ _ _ _ (mkF m 18 #[.val (.ref a0), .val (.ref a1), .val (.double d2), .second, .val (.double d3), .second] [])
  refine GoW.on (fun _ k => XS.dload X5.here hx rfl (hb hby d6_18) rfl k) ?_
  show GoW _ _ _ _ _ _ _ _ (mkF m 20 #[.val (.ref a0), .val (.ref a1), .val (.double d2), .second, .val (.double d3), .second] [(.double d3)])
  refine GoW.on (fun _ k => XS.dconst0 X5.here hx rfl (v := (0 : UInt64)) (hb hby d6_20) rfl k) ?_
  show GoW _ _ _ _ _ _ _ _ (mkF m 21 #[.val (.ref a0), .val (.ref a1), .val (.double d2), .second, .val (.double d3), .second] [(.double (0 : UInt64)), (.double d3)])
  refine GoW.on (fun _ k => XS.dcmpS X5.here hx rfl (hb hby d6_21) rfl rfl k) ?_
  show GoW _ _ _ _ _ _ _ _ (mkF m 22 #[.val (.ref a0), .val (.ref a1), .val (.double d2), .second, .val (.double d3), .second] [(.int (cmpValue (FP.dcmp d3 (0 : UInt64)) .l))])
  have hc6 : (0 : Int32) < (cmpValue (FP.dcmp d3 (0 : UInt64)) .l) := p3_
  refine GoW.on (fun _ k => XS.ifYes X5.here hx rfl (pc0 := 22) (pc' := 40) rfl (hb hby d6_22) rfl ((if0 _ _).trans (tlt hc6).2.2.1) (by decide) (by decide) k) ?_
  show GoW _ _ _ _ _ _ _ _ (mkF m 40 #[.val (.ref a0), .val (.ref a1), .val (.double d2), .second, .val (.double d3), .second] [])
  refine GoW.on (fun _ k => XS.aloadN X5.here hx rfl (hb hby d6_40) rfl rfl k) ?_
  show GoW _ _ _ _ _ _ _ _ (mkF m 41 #[.val (.ref a0), .val (.ref a1), .val (.double d2), .second, .val (.double d3), .second] [(.ref a0)])
  refine GoW.on (fun _ k => XS.aloadN X5.here hx rfl (hb hby d6_41) rfl rfl k) ?_
  show GoW _ _ _ _ _ _ _ _ (mkF m 42 #[.val (.ref a0), .val (.ref a1), .val (.double d2), .second, .val (.double d3), .second] [(.ref a1), (.ref a0)])
  obtain ⟨T7, h7, X7, e7, W7, st7⟩ := putF X5 hx hZ hown (host := "") (Or.inl (hw _ (List.mem_of_getElem? (i := 54) rfl))) Via.refl e5 F_id_a0 E_a0 (Or.inr ⟨(hw _ (List.mem_of_getElem? (i := 55) rfl)), rfl, hnm⟩) (hw _ (List.mem_of_getElem? (i := 30) rfl)) (ty := (.object "java/lang/String")) (by decide) rfl rfl (g := (mkF m 42 #[.val (.ref a0), .val (.ref a1), .val (.double d2), .second, .val (.double d3), .second] [(.ref a1), (.ref a0)])) rfl rfl (hb hby d6_42)
  refine GoW.on st7 ?_
  replace F_id_a0 := F_id_a0.same W7
  replace E_a0 := E_a0.wr W7
  replace F_openingCost_a0 := F_openingCost_a0.other W7 (Or.inr (slot_ne (Or.inr (hw _ (List.mem_of_getElem? (i := 57) rfl))) (Or.inr (hw _ (List.mem_of_getElem? (i := 55) rfl))) (by decide) (t := .double) (t' := (.object "java/lang/String")) (by decide) (by decide)))
  replace F_capacity_a0 := F_capacity_a0.other W7 (Or.inr (slot_ne (Or.inr (hw _ (List.mem_of_getElem? (i := 59) rfl))) (Or.inr (hw _ (List.mem_of_getElem? (i := 55) rfl))) (by decide) (t := .double) (t' := (.object "java/lang/String")) (by decide) (by decide)))
  have N7 := Fr.snoc X7 N5 g_a0
  replace ZZ := Nat.le_trans ZZ (Keep.of_wr W7).1
  replace HK := Nat.le_trans HK (Keep.of_wr W7).1
  replace KP := KP.wr W7 (Or.inl (List.mem_of_getElem? (i := 0) rfl))
  show GoW _ _ _ _ _ _ _ _ (mkF m 45 #[.val (.ref a0), .val (.ref a1), .val (.double d2), .second, .val (.double d3), .second] [])
  refine GoW.on (fun _ k => XS.aloadN X7.here hx rfl (hb hby d6_45) rfl rfl k) ?_
  show GoW _ _ _ _ _ _ _ _ (mkF m 46 #[.val (.ref a0), .val (.ref a1), .val (.double d2), .second, .val (.double d3), .second] [(.ref a0)])
  refine GoW.on (fun _ k => XS.dloadN X7.here hx rfl (hb hby d6_46) rfl k) ?_
  show GoW _ _ _ _ _ _ _ _ (mkF m 47 #[.val (.ref a0), .val (.ref a1), .val (.double d2), .second, .val (.double d3), .second] [(.double d2), (.ref a0)])
  obtain ⟨T8, h8, X8, e8, W8, st8⟩ := putF X7 hx hZ hown (host := "") (Or.inl (hw _ (List.mem_of_getElem? (i := 56) rfl))) Via.refl e7 F_openingCost_a0 E_a0 (Or.inr ⟨(hw _ (List.mem_of_getElem? (i := 57) rfl)), rfl, hnm⟩) (hw _ (List.mem_of_getElem? (i := 30) rfl)) (ty := .double) (by decide) rfl rfl (g := (mkF m 47 #[.val (.ref a0), .val (.ref a1), .val (.double d2), .second, .val (.double d3), .second] [(.double d2), (.ref a0)])) rfl rfl (hb hby d6_47)
  refine GoW.on st8 ?_
  replace F_openingCost_a0 := F_openingCost_a0.same W8
  replace E_a0 := E_a0.wr W8
  replace F_id_a0 := F_id_a0.other W8 (Or.inr (slot_ne (Or.inr (hw _ (List.mem_of_getElem? (i := 55) rfl))) (Or.inr (hw _ (List.mem_of_getElem? (i := 57) rfl))) (by decide) (t := (.object "java/lang/String")) (t' := .double) (by decide) (by decide)))
  replace F_capacity_a0 := F_capacity_a0.other W8 (Or.inr (slot_ne (Or.inr (hw _ (List.mem_of_getElem? (i := 59) rfl))) (Or.inr (hw _ (List.mem_of_getElem? (i := 57) rfl))) (by decide) (t := .double) (t' := .double) (by decide) (by decide)))
  have N8 := Fr.snoc X8 N7 g_a0
  replace ZZ := Nat.le_trans ZZ (Keep.of_wr W8).1
  replace HK := Nat.le_trans HK (Keep.of_wr W8).1
  replace KP := KP.wr W8 (Or.inl (List.mem_of_getElem? (i := 0) rfl))
  show GoW _ _ _ _ _ _ _ _ (mkF m 50 #[.val (.ref a0), .val (.ref a1), .val (.double d2), .second, .val (.double d3), .second] [])
  refine GoW.on (fun _ k => XS.aloadN X8.here hx rfl (hb hby d6_50) rfl rfl k) ?_
  show GoW _ _ _ _ _ _ _ _ (mkF m 51 #[.val (.ref a0), .val (.ref a1), .val (.double d2), .second, .val (.double d3), .second] [(.ref a0)])
  refine GoW.on (fun _ k => XS.dload X8.here hx rfl (hb hby d6_51) rfl k) ?_
  show GoW _ _ _ _ _ _ _ _ (mkF m 53 #[.val (.ref a0), .val (.ref a1), .val (.double d2), .second, .val (.double d3), .second] [(.double d3), (.ref a0)])
  obtain ⟨T9, h9, X9, e9, W9, st9⟩ := putF X8 hx hZ hown (host := "") (Or.inl (hw _ (List.mem_of_getElem? (i := 58) rfl))) Via.refl e8 F_capacity_a0 E_a0 (Or.inr ⟨(hw _ (List.mem_of_getElem? (i := 59) rfl)), rfl, hnm⟩) (hw _ (List.mem_of_getElem? (i := 30) rfl)) (ty := .double) (by decide) rfl rfl (g := (mkF m 53 #[.val (.ref a0), .val (.ref a1), .val (.double d2), .second, .val (.double d3), .second] [(.double d3), (.ref a0)])) rfl rfl (hb hby d6_53)
  refine GoW.on st9 ?_
  replace F_capacity_a0 := F_capacity_a0.same W9
  replace E_a0 := E_a0.wr W9
  replace F_id_a0 := F_id_a0.other W9 (Or.inr (slot_ne (Or.inr (hw _ (List.mem_of_getElem? (i := 55) rfl))) (Or.inr (hw _ (List.mem_of_getElem? (i := 59) rfl))) (by decide) (t := (.object "java/lang/String")) (t' := .double) (by decide) (by decide)))
  replace F_openingCost_a0 := F_openingCost_a0.other W9 (Or.inr (slot_ne (Or.inr (hw _ (List.mem_of_getElem? (i := 57) rfl))) (Or.inr (hw _ (List.mem_of_getElem? (i := 59) rfl))) (by decide) (t := .double) (t' := .double) (by decide) (by decide)))
  have N9 := Fr.snoc X9 N8 g_a0
  replace ZZ := Nat.le_trans ZZ (Keep.of_wr W9).1
  replace HK := Nat.le_trans HK (Keep.of_wr W9).1
  replace KP := KP.wr W9 (Or.inl (List.mem_of_getElem? (i := 0) rfl))
  show GoW _ _ _ _ _ _ _ _ (mkF m 56 #[.val (.ref a0), .val (.ref a1), .val (.double d2), .second, .val (.double d3), .second] [])
  refine GoW.ret0 X9 hx HS (by rw [e9]; exact HK) Bd.returns (hb hby d6_56) ?_ (by rw [hK1]; decide) (by rw [hK2]; decide)
  rw [e9, ← hQQ]
  exact ⟨rfl, N9, KP, E_a0, F_capacity_a0⟩
theorem pd_6 : parseMethodDescriptor "(Ljava/lang/String;DD)V" = some ⟨[(.object "java/lang/String"), .double, .double], none⟩ := by decide +kernel
theorem d11_0 : decode prog_20_method_2_code 0 = .ok (.aload_n 0, 1) := by decide +kernel
theorem d11_1 : decode prog_20_method_2_code 1 = .ok (.aload_n 1, 1) := by decide +kernel
theorem d11_2 : decode prog_20_method_2_code 2 = .ok (.dload_n 2, 1) := by decide +kernel
theorem d11_3 : decode prog_20_method_2_code 3 = .ok (.ldc2_w 46, 3) := by decide +kernel
theorem d11_6 : decode prog_20_method_2_code 6 = .ok (.invokespecial 48, 3) := by decide +kernel
theorem d11_9 : decode prog_20_method_2_code 9 = .ok (.return_, 1) := by decide +kernel
theorem ef_rm11 (m : MethodId) (a0 : Addr) (a1 : Addr) (d2 : UInt64) : entryFrame m #[(.ref a0), (.ref a1), (.double d2)] 4 = mkF m 0 #[.val (.ref a0), .val (.ref a1), .val (.double d2), .second] [] := by first | (simp [entryFrame, mkF, argsToLocals, Value.category]; done) | rfl
def Q_rm11 (Z : State) (a0 : Addr) (a1 : Addr) (d2 : UInt64) (h0 : Heap) (n0 : Nat) (v : Option Value) (h : Heap) (L : List Loc) : Prop := v = none ∧ Fr n0 L ∧ Keep h0 h [a0] ∧ Exa Z h a0 "com/example/outpost/outpost/Site" ∧ Fld Z h a0 "com/example/outpost/outpost/Site" "capacity" "D" (.double (9218868437227405312 : UInt64))
set_option maxRecDepth 65536 in
set_option maxHeartbeats 40000000 in
theorem rm11 (l : Launch) (Z : State) (aw : Array Value) (hw : ∀ d ∈ tables_1, d.before aw Z = true) (ws : List Jvm.Cond) (a0 : Addr) (a1 : Addr) (d2 : UInt64) (h0 : Heap) (n0 : Nat) (Z0 : n0 ≤ h0.size) (E_a0 : Exa Z h0 a0 "com/example/outpost/outpost/Site") (F_id_a0 : Fld Z h0 a0 "com/example/outpost/outpost/Site" "id" "Ljava/lang/String;" .null) (F_openingCost_a0 : Fld Z h0 a0 "com/example/outpost/outpost/Site" "openingCost" "D" (.double (0 : UInt64))) (F_capacity_a0 : Fld Z h0 a0 "com/example/outpost/outpost/Site" "capacity" "D" (.double (0 : UInt64))) (g_a0 : n0 ≤ a0) (p1_ : ¬ ((cmpValue (FP.dcmp d2 (0 : UInt64)) .l) < (0 : Int32))) (p2_ : (cmpValue (FP.dcmp d2 (9218868437227405312 : UInt64)) .g) < (0 : Int32)) :
    MetFree l (⟨"com/example/outpost/outpost/Site", "<init>", "(Ljava/lang/String;D)V"⟩ : MethodName) (head1 (Jvm.Cond.code (⟨"com/example/outpost/outpost/Site", "<init>", "(Ljava/lang/String;D)V"⟩ : MethodName) prog_20_method_2_code 4 none :: ws) ({ frames := 3, cells := 4, slots := 64, locals := 41 } : Room)) (fun a U => a = #[(.ref a0), (.ref a1), (.double d2)] ∧ Z.Warmed39 U.vm ∧ U.heap = h0) (fun _ _ _ _ _ => True) (fun _ U o U' => ∃ v L, o = .returned v ∧ Q_rm11 Z a0 a1 d2 h0 n0 v U'.heap L ∧ ReturnedEndW U o U' L ({ frames := 3, cells := 4, slots := 64, locals := 41 } : Room).cells ({ frames := 3, cells := 4, slots := 64, locals := 41 } : Room).slots) := by
  refine MetFree.of_bodySF (plainFor_of_name pn_5) hisR ?_
  intro p e s m args below meth c s₁ Bd hml0 hP hK
  obtain ⟨rfl, hZ, hh⟩ := hP
  have hx := Bd.exec
  have hby := Bd.bytes
  have hml : c.maxLocals = 4 := hml0
  have hown : s.vm.findClass "com/example/outpost/outpost/Site" = some m.cls := findClass_of_methodNamed Bd.named
  have hnm := (name_of_methodNamed Bd.named Bd.method).1
  have hlk : meth.locks = false := BodyLoose.notSynchronized Bd
  have X0 : Stand p l e ({ frames := 3, cells := 4, slots := 64, locals := 41 } : Room) (s.setVm s.vm) m #[(.ref a0), (.ref a1), (.double d2)] below meth c s₁ [] 0 0 := Stand.of_body Bd
  have e0 : s₁.heap = h0 := by rw [← hh, Bd.state]; rfl
  have N0 := Fr.nil n0
  have ZZ := Z0
  show GoW p e below s ({ frames := 3, cells := 4, slots := 64, locals := 41 } : Room).cells ({ frames := 3, cells := 4, slots := 64, locals := 41 } : Room).slots (fun v h L => Q_rm11 Z a0 a1 d2 h0 n0 v h L) s₁ (entryFrame m #[(.ref a0), (.ref a1), (.double d2)] 4)
  refine GoW.cast (ef_rm11 m a0 a1 d2) ?_
  refine GoW.gen ?_
  intro K1 K2 QQ hK1 hK2 hQQ
  have HS : s.Since s.vm s.heap.size := (State.WarmedH.refl s).since _
  have HK : s.heap.size ≤ h0.size := by rw [hh]; exact Nat.le_refl _
  replace hZ : Z.Warmed39 (s.setVm s.vm).vm := hZ
  replace hown : (s.setVm s.vm).vm.findClass "com/example/outpost/outpost/Site" = some m.cls := hown
  have KP : Keep h0 h0 [a0] := Keep.refl _ _
  refine GoW.on (fun _ k => XS.aloadN X0.here hx rfl (hb hby d11_0) rfl rfl k) ?_
  show GoW _ _ _ _ _ _ _ _ (mkF m 1 #[.val (.ref a0), .val (.ref a1), .val (.double d2), .second] [(.ref a0)])
  refine GoW.on (fun _ k => XS.aloadN X0.here hx rfl (hb hby d11_1) rfl rfl k) ?_
  show GoW _ _ _ _ _ _ _ _ (mkF m 2 #[.val (.ref a0), .val (.ref a1), .val (.double d2), .second] [(.ref a1), (.ref a0)])
  refine GoW.on (fun _ k => XS.dloadN X0.here hx rfl (hb hby d11_2) rfl k) ?_
  show GoW _ _ _ _ _ _ _ _ (mkF m 3 #[.val (.ref a0), .val (.ref a1), .val (.double d2), .second] [(.double d2), (.ref a1), (.ref a0)])
  refine GoW.on (X0.ldc2DoubleC hx hown (mvT hZ (hw _ (List.mem_of_getElem? (i := 65) rfl))) (g := (mkF m 3 #[.val (.ref a0), .val (.ref a1), .val (.double d2), .second] [(.double d2), (.ref a1), (.ref a0)])) rfl (hb hby d11_3)) ?_
  show GoW _ _ _ _ _ _ _ _ (mkF m 6 #[.val (.ref a0), .val (.ref a1), .val (.double d2), .second] [(.double (9218868437227405312 : UInt64)), (.double d2), (.ref a1), (.ref a0)])
  obtain ⟨_, _, ⟨T1, L1, k1, n1⟩, -, X1, HS1_, HG1_, ⟨Lc1, hQ1, l1, y1, z1⟩, st1⟩ := X0.specialBackS hx (y := (⟨"com/example/outpost/outpost/Site", "<init>", "(Ljava/lang/String;DD)V"⟩ : MethodName)) rfl hown (mvT hZ (hw _ (List.mem_of_getElem? (i := 69) rfl))) (mvT hZ (hw _ (List.mem_of_getElem? (i := 33) rfl))) (mvT hZ (hw _ (List.mem_of_getElem? (i := 34) rfl))) (by decide) (backOfS (W := 0) (rm6 l Z aw hw [] a0 a1 d2 (9218868437227405312 : UInt64)  h0 n0 ZZ E_a0 F_id_a0 F_openingCost_a0 F_capacity_a0 g_a0 p1_ p2_ own_posinf) hZ (hw _ (List.mem_of_getElem? (i := 34) rfl)) (hw _ (List.mem_of_getElem? (i := 31) rfl)) (by decide) (by decide)) (g := (mkF m 6 #[.val (.ref a0), .val (.ref a1), .val (.double d2), .second] [(.double (9218868437227405312 : UInt64)), (.double d2), (.ref a1), (.ref a0)])) rfl (by rw [hml]; rfl) (Steps.refl _) (a := a0) (argsL := [(.ref a1), (.double d2), (.double (9218868437227405312 : UInt64))]) (rest := []) (lenOf pd_6 rfl) rfl (by show 2 * 0 + _ ≤ _; exact Nat.le_of_eq rfl) (hb hby d11_6) (fun _ _ => ⟨rfl, e0, (by decide : 0 + 4 ≤ _), (by decide : 0 + 64 ≤ _)⟩)
  dsimp only [Pt.U, Pt.locs, Pt.cells, Pt.slots] at X1 l1 y1 z1 st1 hQ1 HS1_ HG1_
  subst l1 y1 z1
  have HS1 := Jvm.RoadKit.foldS HS (by rw [e0]; exact HK) HS1_ HG1_
  have hZ1 : Z.Warmed39 (s.setVm T1.vm).vm := State.Warmed39.trans (t := State.setVm s _) hZ HS1_.1
  have hown1 : (s.setVm T1.vm).vm.findClass "com/example/outpost/outpost/Site" = some m.cls := by rw [show (s.setVm T1.vm).vm = T1.vm from rfl, HS1_.1.alike.findClass]; exact hown
  replace X1 : Stand p l e _ (s.setVm T1.vm) m _ below meth c T1 _ _ _ := X1
  replace HS := HS1
  replace hZ := hZ1
  replace hown := hown1
  obtain ⟨h1, e1⟩ : ∃ q, T1.heap = q := ⟨_, rfl⟩
  rw [e1] at hQ1
  obtain ⟨rfl, N1q, K1q, E_a0', F_capacity_a0'⟩ := hQ1
  have N1 := Fr.app N0 N1q
  replace E_a0 := E_a0.keep K1q
  replace ZZ := Nat.le_trans ZZ K1q.1
  replace KP := KP.trans K1q (allS (Or.inl (List.mem_of_getElem? (i := 0) rfl)) all0)
  replace E_a0 := E_a0'
  have F_capacity_a0 := F_capacity_a0'
  refine GoW.on (fun _ k => st1.trans k) ?_
  show GoW _ _ _ _ _ _ _ _ (mkF m 9 #[.val (.ref a0), .val (.ref a1), .val (.double d2), .second] [])
  rw [e1] at HS
  replace HK : h1.size ≤ h1.size := Nat.le_refl _
  refine GoW.ret0 X1 hx HS (by rw [e1]; exact HK) Bd.returns (hb hby d11_9) ?_ (by rw [hK1]; decide) (by rw [hK2]; decide)
  rw [e1, ← hQQ]
  exact ⟨rfl, N1, KP, E_a0, F_capacity_a0⟩
theorem d10_0 : decode prog_20_method_3_code 0 = .ok (.aload_n 0, 1) := by decide +kernel
theorem d10_1 : decode prog_20_method_3_code 1 = .ok (.getfield 41, 3) := by decide +kernel
theorem d10_4 : decode prog_20_method_3_code 4 = .ok (.ldc2_w 46, 3) := by decide +kernel
theorem d10_7 : decode prog_20_method_3_code 7 = .ok (.dcmp .g, 1) := by decide +kernel
theorem d10_8 : decode prog_20_method_3_code 8 = .ok (.ifCond .ge 7, 3) := by decide +kernel
theorem d10_11 : decode prog_20_method_3_code 11 = .ok (.iconst 1, 1) := by decide +kernel
theorem d10_12 : decode prog_20_method_3_code 12 = .ok (.goto 4, 3) := by decide +kernel
theorem d10_15 : decode prog_20_method_3_code 15 = .ok (.iconst 0, 1) := by decide +kernel
theorem d10_16 : decode prog_20_method_3_code 16 = .ok (.ireturn, 1) := by decide +kernel
theorem ef_rm10 (m : MethodId) (a0 : Addr) : entryFrame m #[(.ref a0)] 1 = mkF m 0 #[.val (.ref a0)] [] := by first | (simp [entryFrame, mkF, argsToLocals, Value.category]; done) | rfl
def Q_rm10 (Z : State) (a0 : Addr) (cp : UInt64) (h0 : Heap) (n0 : Nat) (v : Option Value) (h : Heap) (L : List Loc) : Prop := v = some (.int (if (cmpValue (FP.dcmp cp (9218868437227405312 : UInt64)) .g) < (0 : Int32) then (1 : Int32) else (0 : Int32))) ∧ Fr n0 L ∧ h = h0
set_option maxRecDepth 65536 in
set_option maxHeartbeats 40000000 in
theorem rm10 (l : Launch) (Z : State) (aw : Array Value) (hw : ∀ d ∈ tables_1, d.before aw Z = true) (ws : List Jvm.Cond) (a0 : Addr) (cp : UInt64) (h0 : Heap) (n0 : Nat) (Z0 : n0 ≤ h0.size) (F_capacity_a0 : Fld Z h0 a0 "com/example/outpost/outpost/Site" "capacity" "D" (.double cp)) :
    MetFree l (⟨"com/example/outpost/outpost/Site", "hasCapacity", "()Z"⟩ : MethodName) (head1 (Jvm.Cond.code (⟨"com/example/outpost/outpost/Site", "hasCapacity", "()Z"⟩ : MethodName) prog_20_method_3_code 1 (some .boolean) :: ws) ({ frames := 0, cells := 0, slots := 0, locals := 0 } : Room)) (fun a U => a = #[(.ref a0)] ∧ Z.Warmed39 U.vm ∧ U.heap = h0) (fun _ _ _ _ _ => True) (fun _ U o U' => ∃ v L, o = .returned v ∧ Q_rm10 Z a0 cp h0 n0 v U'.heap L ∧ FrameEnd U o U' L ({ frames := 0, cells := 0, slots := 0, locals := 0 } : Room).cells ({ frames := 0, cells := 0, slots := 0, locals := 0 } : Room).slots) := by
  refine MetFree.of_bodySF (plainFor_of_name pn_5) hisR ?_
  intro p e s m args below meth c s₁ Bd hml0 hP hK
  obtain ⟨rfl, hZ, hh⟩ := hP
  have hx := Bd.exec
  have hby := Bd.bytes
  have hml : c.maxLocals = 1 := hml0
  have hown : s.vm.findClass "com/example/outpost/outpost/Site" = some m.cls := findClass_of_methodNamed Bd.named
  have hnm := (name_of_methodNamed Bd.named Bd.method).1
  have hlk : meth.locks = false := BodyLoose.notSynchronized Bd
  have X0 : Stand p l e ({ frames := 0, cells := 0, slots := 0, locals := 0 } : Room) s m #[(.ref a0)] below meth c s₁ [] 0 0 := Stand.of_body Bd
  have e0 : s₁.heap = h0 := by rw [← hh, Bd.state]; rfl
  have N0 := Fr.nil n0
  have ZZ := Z0
  show Go p e below s ({ frames := 0, cells := 0, slots := 0, locals := 0 } : Room).cells ({ frames := 0, cells := 0, slots := 0, locals := 0 } : Room).slots (fun v h L => Q_rm10 Z a0 cp h0 n0 v h L) s₁ (entryFrame m #[(.ref a0)] 1)
  refine Go.cast (ef_rm10 m a0) ?_
  refine Go.gen ?_
  intro K1 K2 QQ hK1 hK2 hQQ
  refine Go.on (fun _ k => XS.aloadN X0.here hx rfl (hb hby d10_0) rfl rfl k) ?_
  show Go _ _ _ _ _ _ _ _ (mkF m 1 #[.val (.ref a0)] [(.ref a0)])
  obtain ⟨T1, X1, e1, st1⟩ := getF X0 hx hZ hown (host := "") (Or.inl (hw _ (List.mem_of_getElem? (i := 58) rfl))) Via.refl e0 F_capacity_a0 (g := (mkF m 1 #[.val (.ref a0)] [(.ref a0)])) rfl rfl (hb hby d10_1)
  refine Go.on st1 ?_
  show Go _ _ _ _ _ _ _ _ (mkF m 4 #[.val (.ref a0)] [(.double cp)])
  refine Go.on (X1.ldc2DoubleC hx hown (mvT hZ (hw _ (List.mem_of_getElem? (i := 65) rfl))) (g := (mkF m 4 #[.val (.ref a0)] [(.double cp)])) rfl (hb hby d10_4)) ?_
  show Go _ _ _ _ _ _ _ _ (mkF m 7 #[.val (.ref a0)] [(.double (9218868437227405312 : UInt64)), (.double cp)])
  refine Go.on (fun _ k => XS.dcmpS X1.here hx rfl (hb hby d10_7) rfl rfl k) ?_
  show Go _ _ _ _ _ _ _ _ (mkF m 8 #[.val (.ref a0)] [(.int (cmpValue (FP.dcmp cp (9218868437227405312 : UInt64)) .g))])
  suffices hJ3 : ∀ (v2 : Int32), v2 = (if (cmpValue (FP.dcmp cp (9218868437227405312 : UInt64)) .g) < (0 : Int32) then (1 : Int32) else (0 : Int32)) → Go p e below s K1 K2 QQ T1 (mkF m 16 #[.val (.ref a0)] [(.int v2)]) by
    by_cases hc4 : (cmpValue (FP.dcmp cp (9218868437227405312 : UInt64)) .g) < (0 : Int32)
    · -- pc 8 yes
      refine Go.on (fun _ k => XS.ifNo X1.here hx rfl (hb hby d10_8) rfl ((if0 _ _).trans (tlt hc4).2.1) k) ?_
      show Go _ _ _ _ _ _ _ _ (mkF m 11 #[.val (.ref a0)] [])
      refine Go.on (fun _ k => XS.iconst X1.here hx rfl (hb hby d10_11) k) ?_
      show Go _ _ _ _ _ _ _ _ (mkF m 12 #[.val (.ref a0)] [(.int (1 : Int32))])
      refine Go.on (fun _ k => XS.goto X1.here hx rfl (pc0 := 12) (pc' := 16) rfl (hb hby d10_12) (by decide) (by decide) k) ?_
      show Go _ _ _ _ _ _ _ _ (mkF m 16 #[.val (.ref a0)] [(.int (1 : Int32))])
      exact hJ3 _ (by rw [if_pos hc4])
    · -- pc 8 no
      refine Go.on (fun _ k => XS.ifYes X1.here hx rfl (pc0 := 8) (pc' := 15) rfl (hb hby d10_8) rfl ((if0 _ _).trans (flt hc4).2.1) (by decide) (by decide) k) ?_
      show Go _ _ _ _ _ _ _ _ (mkF m 15 #[.val (.ref a0)] [])
      refine Go.on (fun _ k => XS.iconst X1.here hx rfl (hb hby d10_15) k) ?_
      show Go _ _ _ _ _ _ _ _ (mkF m 16 #[.val (.ref a0)] [(.int (0 : Int32))])
      exact hJ3 _ (by rw [if_neg hc4])
  intro v2 hv2
  refine Go.retN X1 hx (t := .boolean) Bd.returns (by simp) (hb hby d10_16) ?_ (by rw [hK1]; decide) (by rw [hK2]; decide)
  rw [e1, ← hQQ]
  refine ⟨?_, N0, rfl⟩
  rw [hv2]; split <;> rfl
theorem pd_7 : parseMethodDescriptor "(C)Ljava/lang/String;" = some ⟨[.char], some (.object "java/lang/String")⟩ := by decide +kernel
theorem pd_8 : parseMethodDescriptor "(Ljava/lang/String;D)V" = some ⟨[(.object "java/lang/String"), .double], none⟩ := by decide +kernel
theorem pd_9 : parseMethodDescriptor "()Z" = some ⟨[], some .boolean⟩ := by decide +kernel
theorem pn_6 : plainName "com/example/outpost/outpost/SiteHasCapacityPinLaw" = true := by first | (simp [plainName, overriddenIn]; done) | decide +kernel
theorem ef_rm0 (m : MethodId) (j0 : Int64) (i1 : Int32) (i2 : Int32) (i3 : Int32) : entryFrame m #[(.long j0), (.int i1), (.int i2), (.int i3)] maxLocals = mkF m 0 #[.val (.long j0), .second, .val (.int i1), .val (.int i2), .val (.int i3), .unset, .unset, .unset, .unset, .unset, .unset, .unset, .unset, .unset, .unset] [] := by first | (simp [entryFrame, mkF, argsToLocals, Value.category, maxLocals]; done) | rfl
def Q_rm0 (Z : State) (j0 : Int64) (i1 : Int32) (i2 : Int32) (i3 : Int32) (cs : Int32) (h0 : Heap) (n0 : Nat) (v : Option Value) (h : Heap) (L : List Loc) : Prop := v = some (.int 1) ∧ Fr n0 L
set_option maxRecDepth 65536 in
set_option maxHeartbeats 40000000 in
theorem rm0 (l : Launch) (Z : State) (aw : Array Value) (hw : ∀ d ∈ tables_1, d.before aw Z = true) (ws : List Jvm.Cond) (j0 : Int64) (i1 : Int32) (i2 : Int32) (i3 : Int32) (cs : Int32) (h0 : Heap) (n0 : Nat) (Z0 : n0 ≤ h0.size) (S_COMPACT_STRINGS : Sta Z h0 "java/lang/String" "COMPACT_STRINGS" "Z" (.int cs)) (hcs : ¬ (cs = (0 : Int32))) :
    MetFree l x (head1 (Jvm.Cond.code x code maxLocals ret :: ws) room_1) (fun a U => a = #[(.long j0), (.int i1), (.int i2), (.int i3)] ∧ Z.Warmed39 U.vm ∧ U.heap = h0) (fun _ _ _ _ _ => True) (fun _ U o U' => ∃ v L, o = .returned v ∧ Q_rm0 Z j0 i1 i2 i3 cs h0 n0 v U'.heap L ∧ ReturnedEndW U o U' L 7 72) := by
  refine MetFree.of_bodySF (plainFor_of_name pn_6) hisR ?_
  intro p e s m args below meth c s₁ Bd hml0 hP hK
  obtain ⟨rfl, hZ, hh⟩ := hP
  have hx := Bd.exec
  have hby := Bd.bytes
  have hml : c.maxLocals = 15 := hml0
  have hown : s.vm.findClass "com/example/outpost/outpost/SiteHasCapacityPinLaw" = some m.cls := findClass_of_methodNamed Bd.named
  have hnm := (name_of_methodNamed Bd.named Bd.method).1
  have hlk : meth.locks = false := BodyLoose.notSynchronized Bd
  have X0 : Stand p l e room_1 (s.setVm s.vm) m #[(.long j0), (.int i1), (.int i2), (.int i3)] below meth c s₁ [] 0 0 := Stand.of_body Bd
  have e0 : s₁.heap = h0 := by rw [← hh, Bd.state]; rfl
  have N0 := Fr.nil n0
  have ZZ := Z0
  show GoW p e below s 7 72 (fun v h L => Q_rm0 Z j0 i1 i2 i3 cs h0 n0 v h L) s₁ (entryFrame m #[(.long j0), (.int i1), (.int i2), (.int i3)] maxLocals)
  refine GoW.cast (ef_rm0 m j0 i1 i2 i3) ?_
  refine GoW.gen ?_
  intro K1 K2 QQ hK1 hK2 hQQ
  have HS : s.Since s.vm s.heap.size := (State.WarmedH.refl s).since _
  have HK : s.heap.size ≤ h0.size := by rw [hh]; exact Nat.le_refl _
  replace hZ : Z.Warmed39 (s.setVm s.vm).vm := hZ
  replace hown : (s.setVm s.vm).vm.findClass "com/example/outpost/outpost/SiteHasCapacityPinLaw" = some m.cls := hown
  refine GoW.on (fun _ k => XS.lloadN X0.here hx rfl (hb hby at_0) rfl k) ?_
  show GoW _ _ _ _ _ _ _ _ (mkF m 1 #[.val (.long j0), .second, .val (.int i1), .val (.int i2), .val (.int i3), .unset, .unset, .unset, .unset, .unset, .unset, .unset, .unset, .unset, .unset] [(.long j0)])
  refine GoW.on (fun _ k => X0.ldc2J hx hown (mvT hZ (hw _ (List.mem_of_getElem? (i := 0) rfl))) rfl (hb hby at_1) k) ?_
  show GoW _ _ _ _ _ _ _ _ (mkF m 4 #[.val (.long j0), .second, .val (.int i1), .val (.int i2), .val (.int i3), .unset, .unset, .unset, .unset, .unset, .unset, .unset, .unset, .unset, .unset] [(.long (9223372036854775807 : Int64)), (.long j0)])
  refine GoW.on (fun _ k => XS.land X0.here hx rfl (hb hby at_4) rfl k) ?_
  show GoW _ _ _ _ _ _ _ _ (mkF m 5 #[.val (.long j0), .second, .val (.int i1), .val (.int i2), .val (.int i3), .unset, .unset, .unset, .unset, .unset, .unset, .unset, .unset, .unset, .unset] [(.long (j0 &&& (9223372036854775807 : Int64)))])
  refine GoW.on (fun _ k => XS.lstore X0.here hx rfl (hb hby at_5) rfl (l' := #[.val (.long j0), .second, .val (.int i1), .val (.int i2), .val (.int i3), .val (.long (j0 &&& (9223372036854775807 : Int64))), .second, .unset, .unset, .unset, .unset, .unset, .unset, .unset, .unset]) rfl k) ?_
  show GoW _ _ _ _ _ _ _ _ (mkF m 7 #[.val (.long j0), .second, .val (.int i1), .val (.int i2), .val (.int i3), .val (.long (j0 &&& (9223372036854775807 : Int64))), .second, .unset, .unset, .unset, .unset, .unset, .unset, .unset, .unset] [])
  generalize hm0 : (j0 &&& (9223372036854775807 : Int64)) = m0
  show GoW _ _ _ _ _ _ _ _ (mkF m 7 #[.val (.long j0), .second, .val (.int i1), .val (.int i2), .val (.int i3), .val (.long m0), .second, .unset, .unset, .unset, .unset, .unset, .unset, .unset, .unset] [])
  refine GoW.on (fun _ k => XS.lload X0.here hx rfl (hb hby at_7) rfl k) ?_
  show GoW _ _ _ _ _ _ _ _ (mkF m 9 #[.val (.long j0), .second, .val (.int i1), .val (.int i2), .val (.int i3), .val (.long m0), .second, .unset, .unset, .unset, .unset, .unset, .unset, .unset, .unset] [(.long m0)])
  refine GoW.on (fun _ k => XS.lconst X0.here hx rfl (hb hby at_9) k) ?_
  show GoW _ _ _ _ _ _ _ _ (mkF m 10 #[.val (.long j0), .second, .val (.int i1), .val (.int i2), .val (.int i3), .val (.long m0), .second, .unset, .unset, .unset, .unset, .unset, .unset, .unset, .unset] [(.long (0 : Int64)), (.long m0)])
  refine GoW.on (fun _ k => XS.lcmp X0.here hx rfl (hb hby at_10) rfl k) ?_
  show GoW _ _ _ _ _ _ _ _ (mkF m 11 #[.val (.long j0), .second, .val (.int i1), .val (.int i2), .val (.int i3), .val (.long m0), .second, .unset, .unset, .unset, .unset, .unset, .unset, .unset, .unset] [(.int (lcmpW m0 (0 : Int64)))])
  suffices hJ1 : ∀ (mm : Int64), mm = (if m0 = (0 : Int64) then (1 : Int64) else m0) → GoW p e below s K1 K2 QQ s₁ (mkF m 17 #[.val (.long j0), .second, .val (.int i1), .val (.int i2), .val (.int i3), .val (.long mm), .second, .unset, .unset, .unset, .unset, .unset, .unset, .unset, .unset] []) by
    by_cases hc2 : m0 = (0 : Int64)
    · -- pc 11 yes
      refine GoW.on (fun _ k => XS.ifNo X0.here hx rfl (hb hby at_11) rfl ((if0 _ _).trans (teq (own_lc_eq.mpr hc2)).2) k) ?_
      show GoW _ _ _ _ _ _ _ _ (mkF m 14 #[.val (.long j0), .second, .val (.int i1), .val (.int i2), .val (.int i3), .val (.long m0), .second, .unset, .unset, .unset, .unset, .unset, .unset, .unset, .unset] [])
      refine GoW.on (fun _ k => XS.lconst X0.here hx rfl (hb hby at_14) k) ?_
      show GoW _ _ _ _ _ _ _ _ (mkF m 15 #[.val (.long j0), .second, .val (.int i1), .val (.int i2), .val (.int i3), .val (.long m0), .second, .unset, .unset, .unset, .unset, .unset, .unset, .unset, .unset] [(.long (1 : Int64))])
      refine GoW.on (fun _ k => XS.lstore X0.here hx rfl (hb hby at_15) rfl (l' := #[.val (.long j0), .second, .val (.int i1), .val (.int i2), .val (.int i3), .val (.long (1 : Int64)), .second, .unset, .unset, .unset, .unset, .unset, .unset, .unset, .unset]) rfl k) ?_
      show GoW _ _ _ _ _ _ _ _ (mkF m 17 #[.val (.long j0), .second, .val (.int i1), .val (.int i2), .val (.int i3), .val (.long (1 : Int64)), .second, .unset, .unset, .unset, .unset, .unset, .unset, .unset, .unset] [])
      exact hJ1 _ (by rw [if_pos hc2])
    · -- pc 11 no
      refine GoW.on (fun _ k => XS.ifYes X0.here hx rfl (pc0 := 11) (pc' := 17) rfl (hb hby at_11) rfl ((if0 _ _).trans (feq (fun q => hc2 (own_lc_eq.mp q))).2) (by decide) (by decide) k) ?_
      show GoW _ _ _ _ _ _ _ _ (mkF m 17 #[.val (.long j0), .second, .val (.int i1), .val (.int i2), .val (.int i3), .val (.long m0), .second, .unset, .unset, .unset, .unset, .unset, .unset, .unset, .unset] [])
      exact hJ1 _ (by rw [if_neg hc2])
  intro mm hmm
  have Hm := own_mm hm0 hmm
  refine GoW.on (fun _ k => XS.lload X0.here hx rfl (hb hby at_17) rfl k) ?_
  show GoW _ _ _ _ _ _ _ _ (mkF m 19 #[.val (.long j0), .second, .val (.int i1), .val (.int i2), .val (.int i3), .val (.long mm), .second, .unset, .unset, .unset, .unset, .unset, .unset, .unset, .unset] [(.long mm)])
  refine GoW.on (fun _ k => XS.l2dS X0.here hx rfl (hb hby at_19) rfl rfl k) ?_
  show GoW _ _ _ _ _ _ _ _ (mkF m 20 #[.val (.long j0), .second, .val (.int i1), .val (.int i2), .val (.int i3), .val (.long mm), .second, .unset, .unset, .unset, .unset, .unset, .unset, .unset, .unset] [(.double (FP.l2d mm))])
  refine GoW.on (fun _ k => XS.dstore X0.here hx rfl (hb hby at_20) rfl (l' := #[.val (.long j0), .second, .val (.int i1), .val (.int i2), .val (.int i3), .val (.long mm), .second, .val (.double (FP.l2d mm)), .second, .unset, .unset, .unset, .unset, .unset, .unset]) rfl k) ?_
  show GoW _ _ _ _ _ _ _ _ (mkF m 22 #[.val (.long j0), .second, .val (.int i1), .val (.int i2), .val (.int i3), .val (.long mm), .second, .val (.double (FP.l2d mm)), .second, .unset, .unset, .unset, .unset, .unset, .unset] [])
  generalize hc0 : (FP.l2d mm) = c0
  show GoW _ _ _ _ _ _ _ _ (mkF m 22 #[.val (.long j0), .second, .val (.int i1), .val (.int i2), .val (.int i3), .val (.long mm), .second, .val (.double c0), .second, .unset, .unset, .unset, .unset, .unset, .unset] [])
  refine GoW.on (fun _ k => XS.iloadN X0.here hx rfl (hb hby at_22) rfl k) ?_
  show GoW _ _ _ _ _ _ _ _ (mkF m 23 #[.val (.long j0), .second, .val (.int i1), .val (.int i2), .val (.int i3), .val (.long mm), .second, .val (.double c0), .second, .unset, .unset, .unset, .unset, .unset, .unset] [(.int i1)])
  refine GoW.on (fun _ k => XS.iconst X0.here hx rfl (hb hby at_23) k) ?_
  show GoW _ _ _ _ _ _ _ _ (mkF m 24 #[.val (.long j0), .second, .val (.int i1), .val (.int i2), .val (.int i3), .val (.long mm), .second, .val (.double c0), .second, .unset, .unset, .unset, .unset, .unset, .unset] [(.int (3 : Int32)), (.int i1)])
  refine GoW.on (fun _ k => XS.iand X0.here hx rfl (hb hby at_24) rfl k) ?_
  show GoW _ _ _ _ _ _ _ _ (mkF m 25 #[.val (.long j0), .second, .val (.int i1), .val (.int i2), .val (.int i3), .val (.long mm), .second, .val (.double c0), .second, .unset, .unset, .unset, .unset, .unset, .unset] [(.int (i1 &&& (3 : Int32)))])
  refine GoW.on (fun _ k => XS.istore X0.here hx rfl (hb hby at_25) rfl (l' := #[.val (.long j0), .second, .val (.int i1), .val (.int i2), .val (.int i3), .val (.long mm), .second, .val (.double c0), .second, .val (.int (i1 &&& (3 : Int32))), .unset, .unset, .unset, .unset, .unset]) rfl k) ?_
  show GoW _ _ _ _ _ _ _ _ (mkF m 27 #[.val (.long j0), .second, .val (.int i1), .val (.int i2), .val (.int i3), .val (.long mm), .second, .val (.double c0), .second, .val (.int (i1 &&& (3 : Int32))), .unset, .unset, .unset, .unset, .unset] [])
  generalize hkk : (i1 &&& (3 : Int32)) = kk
  show GoW _ _ _ _ _ _ _ _ (mkF m 27 #[.val (.long j0), .second, .val (.int i1), .val (.int i2), .val (.int i3), .val (.long mm), .second, .val (.double c0), .second, .val (.int kk), .unset, .unset, .unset, .unset, .unset] [])
  refine GoW.on (fun _ k => XS.iload X0.here hx rfl (hb hby at_27) rfl k) ?_
  show GoW _ _ _ _ _ _ _ _ (mkF m 29 #[.val (.long j0), .second, .val (.int i1), .val (.int i2), .val (.int i3), .val (.long mm), .second, .val (.double c0), .second, .val (.int kk), .unset, .unset, .unset, .unset, .unset] [(.int kk)])
  refine GoW.on (fun _ k => XS.iconst X0.here hx rfl (hb hby at_29) k) ?_
  show GoW _ _ _ _ _ _ _ _ (mkF m 30 #[.val (.long j0), .second, .val (.int i1), .val (.int i2), .val (.int i3), .val (.long mm), .second, .val (.double c0), .second, .val (.int kk), .unset, .unset, .unset, .unset, .unset] [(.int (1 : Int32)), (.int kk)])
  suffices hJ3 : ∀ (cp : UInt64), cp = (if kk = (1 : Int32) then (FP.ddiv c0 (4697254411347427328 : UInt64)) else (if kk = (2 : Int32) then (FP.dmul c0 (8660422083433463808 : UInt64)) else c0)) → GoW p e below s K1 K2 QQ s₁ (mkF m 58 #[.val (.long j0), .second, .val (.int i1), .val (.int i2), .val (.int i3), .val (.long mm), .second, .val (.double cp), .second, .val (.int kk), .unset, .unset, .unset, .unset, .unset] []) by
    by_cases hc4 : kk = (1 : Int32)
    · -- pc 30 yes
      refine GoW.on (fun _ k => XS.icmpNo X0.here hx rfl (hb hby at_30) rfl (teq hc4).2 k) ?_
      show GoW _ _ _ _ _ _ _ _ (mkF m 33 #[.val (.long j0), .second, .val (.int i1), .val (.int i2), .val (.int i3), .val (.long mm), .second, .val (.double c0), .second, .val (.int kk), .unset, .unset, .unset, .unset, .unset] [])
      refine GoW.on (fun _ k => XS.dload X0.here hx rfl (hb hby at_33) rfl k) ?_
      show GoW _ _ _ _ _ _ _ _ (mkF m 35 #[.val (.long j0), .second, .val (.int i1), .val (.int i2), .val (.int i3), .val (.long mm), .second, .val (.double c0), .second, .val (.int kk), .unset, .unset, .unset, .unset, .unset] [(.double c0)])
      refine GoW.on (X0.ldc2DoubleC hx hown (mvT hZ (hw _ (List.mem_of_getElem? (i := 70) rfl))) (g := (mkF m 35 #[.val (.long j0), .second, .val (.int i1), .val (.int i2), .val (.int i3), .val (.long mm), .second, .val (.double c0), .second, .val (.int kk), .unset, .unset, .unset, .unset, .unset] [(.double c0)])) rfl (hb hby at_35)) ?_
      show GoW _ _ _ _ _ _ _ _ (mkF m 38 #[.val (.long j0), .second, .val (.int i1), .val (.int i2), .val (.int i3), .val (.long mm), .second, .val (.double c0), .second, .val (.int kk), .unset, .unset, .unset, .unset, .unset] [(.double (4697254411347427328 : UInt64)), (.double c0)])
      refine GoW.on (fun _ k => XS.ddivS X0.here hx rfl (hb hby at_38) rfl ((own_pnn (own_q20 Hm hc0))) rfl k) ?_
      show GoW _ _ _ _ _ _ _ _ (mkF m 39 #[.val (.long j0), .second, .val (.int i1), .val (.int i2), .val (.int i3), .val (.long mm), .second, .val (.double c0), .second, .val (.int kk), .unset, .unset, .unset, .unset, .unset] [(.double (FP.ddiv c0 (4697254411347427328 : UInt64)))])
      refine GoW.on (fun _ k => XS.dstore X0.here hx rfl (hb hby at_39) rfl (l' := #[.val (.long j0), .second, .val (.int i1), .val (.int i2), .val (.int i3), .val (.long mm), .second, .val (.double (FP.ddiv c0 (4697254411347427328 : UInt64))), .second, .val (.int kk), .unset, .unset, .unset, .unset, .unset]) rfl k) ?_
      show GoW _ _ _ _ _ _ _ _ (mkF m 41 #[.val (.long j0), .second, .val (.int i1), .val (.int i2), .val (.int i3), .val (.long mm), .second, .val (.double (FP.ddiv c0 (4697254411347427328 : UInt64))), .second, .val (.int kk), .unset, .unset, .unset, .unset, .unset] [])
      refine GoW.on (fun _ k => XS.goto X0.here hx rfl (pc0 := 41) (pc' := 58) rfl (hb hby at_41) (by decide) (by decide) k) ?_
      show GoW _ _ _ _ _ _ _ _ (mkF m 58 #[.val (.long j0), .second, .val (.int i1), .val (.int i2), .val (.int i3), .val (.long mm), .second, .val (.double (FP.ddiv c0 (4697254411347427328 : UInt64))), .second, .val (.int kk), .unset, .unset, .unset, .unset, .unset] [])
      exact hJ3 _ (by rw [if_pos hc4])
    · -- pc 30 no
      refine GoW.on (fun _ k => XS.icmpYes X0.here hx rfl (pc0 := 30) (pc' := 44) rfl (hb hby at_30) rfl (feq hc4).2 (by decide) (by decide) k) ?_
      show GoW _ _ _ _ _ _ _ _ (mkF m 44 #[.val (.long j0), .second, .val (.int i1), .val (.int i2), .val (.int i3), .val (.long mm), .second, .val (.double c0), .second, .val (.int kk), .unset, .unset, .unset, .unset, .unset] [])
      refine GoW.on (fun _ k => XS.iload X0.here hx rfl (hb hby at_44) rfl k) ?_
      show GoW _ _ _ _ _ _ _ _ (mkF m 46 #[.val (.long j0), .second, .val (.int i1), .val (.int i2), .val (.int i3), .val (.long mm), .second, .val (.double c0), .second, .val (.int kk), .unset, .unset, .unset, .unset, .unset] [(.int kk)])
      refine GoW.on (fun _ k => XS.iconst X0.here hx rfl (hb hby at_46) k) ?_
      show GoW _ _ _ _ _ _ _ _ (mkF m 47 #[.val (.long j0), .second, .val (.int i1), .val (.int i2), .val (.int i3), .val (.long mm), .second, .val (.double c0), .second, .val (.int kk), .unset, .unset, .unset, .unset, .unset] [(.int (2 : Int32)), (.int kk)])
      by_cases hc5 : kk = (2 : Int32)
      · -- pc 47 yes
        refine GoW.on (fun _ k => XS.icmpNo X0.here hx rfl (hb hby at_47) rfl (teq hc5).2 k) ?_
        show GoW _ _ _ _ _ _ _ _ (mkF m 50 #[.val (.long j0), .second, .val (.int i1), .val (.int i2), .val (.int i3), .val (.long mm), .second, .val (.double c0), .second, .val (.int kk), .unset, .unset, .unset, .unset, .unset] [])
        refine GoW.on (fun _ k => XS.dload X0.here hx rfl (hb hby at_50) rfl k) ?_
        show GoW _ _ _ _ _ _ _ _ (mkF m 52 #[.val (.long j0), .second, .val (.int i1), .val (.int i2), .val (.int i3), .val (.long mm), .second, .val (.double c0), .second, .val (.int kk), .unset, .unset, .unset, .unset, .unset] [(.double c0)])
        refine GoW.on (X0.ldc2DoubleC hx hown (mvT hZ (hw _ (List.mem_of_getElem? (i := 1) rfl))) (g := (mkF m 52 #[.val (.long j0), .second, .val (.int i1), .val (.int i2), .val (.int i3), .val (.long mm), .second, .val (.double c0), .second, .val (.int kk), .unset, .unset, .unset, .unset, .unset] [(.double c0)])) rfl (hb hby at_52)) ?_
        show GoW _ _ _ _ _ _ _ _ (mkF m 55 #[.val (.long j0), .second, .val (.int i1), .val (.int i2), .val (.int i3), .val (.long mm), .second, .val (.double c0), .second, .val (.int kk), .unset, .unset, .unset, .unset, .unset] [(.double (8660422083433463808 : UInt64)), (.double c0)])
        refine GoW.on (fun _ k => XS.dmulS X0.here hx rfl (hb hby at_55) rfl ((own_pnn (own_m900 Hm hc0))) rfl k) ?_
        show GoW _ _ _ _ _ _ _ _ (mkF m 56 #[.val (.long j0), .second, .val (.int i1), .val (.int i2), .val (.int i3), .val (.long mm), .second, .val (.double c0), .second, .val (.int kk), .unset, .unset, .unset, .unset, .unset] [(.double (FP.dmul c0 (8660422083433463808 : UInt64)))])
        refine GoW.on (fun _ k => XS.dstore X0.here hx rfl (hb hby at_56) rfl (l' := #[.val (.long j0), .second, .val (.int i1), .val (.int i2), .val (.int i3), .val (.long mm), .second, .val (.double (FP.dmul c0 (8660422083433463808 : UInt64))), .second, .val (.int kk), .unset, .unset, .unset, .unset, .unset]) rfl k) ?_
        show GoW _ _ _ _ _ _ _ _ (mkF m 58 #[.val (.long j0), .second, .val (.int i1), .val (.int i2), .val (.int i3), .val (.long mm), .second, .val (.double (FP.dmul c0 (8660422083433463808 : UInt64))), .second, .val (.int kk), .unset, .unset, .unset, .unset, .unset] [])
        exact hJ3 _ (by rw [if_neg hc4, if_pos hc5])
      · -- pc 47 no
        refine GoW.on (fun _ k => XS.icmpYes X0.here hx rfl (pc0 := 47) (pc' := 58) rfl (hb hby at_47) rfl (feq hc5).2 (by decide) (by decide) k) ?_
        show GoW _ _ _ _ _ _ _ _ (mkF m 58 #[.val (.long j0), .second, .val (.int i1), .val (.int i2), .val (.int i3), .val (.long mm), .second, .val (.double c0), .second, .val (.int kk), .unset, .unset, .unset, .unset, .unset] [])
        exact hJ3 _ (by rw [if_neg hc4, if_neg hc5])
  intro cp hcp
  refine GoW.on (fun _ k => XS.iloadN X0.here hx rfl (hb hby at_58) rfl k) ?_
  show GoW _ _ _ _ _ _ _ _ (mkF m 59 #[.val (.long j0), .second, .val (.int i1), .val (.int i2), .val (.int i3), .val (.long mm), .second, .val (.double cp), .second, .val (.int kk), .unset, .unset, .unset, .unset, .unset] [(.int i2)])
  refine GoW.on (fun _ k => X0.ldcI hx hown (mvT hZ (hw _ (List.mem_of_getElem? (i := 2) rfl))) rfl (hb hby at_59) k) ?_
  show GoW _ _ _ _ _ _ _ _ (mkF m 61 #[.val (.long j0), .second, .val (.int i1), .val (.int i2), .val (.int i3), .val (.long mm), .second, .val (.double cp), .second, .val (.int kk), .unset, .unset, .unset, .unset, .unset] [(.int (2147483647 : Int32)), (.int i2)])
  refine GoW.on (fun _ k => XS.iand X0.here hx rfl (hb hby at_61) rfl k) ?_
  show GoW _ _ _ _ _ _ _ _ (mkF m 62 #[.val (.long j0), .second, .val (.int i1), .val (.int i2), .val (.int i3), .val (.long mm), .second, .val (.double cp), .second, .val (.int kk), .unset, .unset, .unset, .unset, .unset] [(.int (i2 &&& (2147483647 : Int32)))])
  refine GoW.on (fun _ k => XS.i2dS X0.here hx rfl (hb hby at_62) rfl rfl k) ?_
  show GoW _ _ _ _ _ _ _ _ (mkF m 63 #[.val (.long j0), .second, .val (.int i1), .val (.int i2), .val (.int i3), .val (.long mm), .second, .val (.double cp), .second, .val (.int kk), .unset, .unset, .unset, .unset, .unset] [(.double (FP.i2d (i2 &&& (2147483647 : Int32))))])
  refine GoW.on (fun _ k => XS.dstore X0.here hx rfl (hb hby at_63) rfl (l' := #[.val (.long j0), .second, .val (.int i1), .val (.int i2), .val (.int i3), .val (.long mm), .second, .val (.double cp), .second, .val (.int kk), .val (.double (FP.i2d (i2 &&& (2147483647 : Int32)))), .second, .unset, .unset, .unset]) rfl k) ?_
  show GoW _ _ _ _ _ _ _ _ (mkF m 65 #[.val (.long j0), .second, .val (.int i1), .val (.int i2), .val (.int i3), .val (.long mm), .second, .val (.double cp), .second, .val (.int kk), .val (.double (FP.i2d (i2 &&& (2147483647 : Int32)))), .second, .unset, .unset, .unset] [])
  generalize hco : (FP.i2d (i2 &&& (2147483647 : Int32))) = co
  show GoW _ _ _ _ _ _ _ _ (mkF m 65 #[.val (.long j0), .second, .val (.int i1), .val (.int i2), .val (.int i3), .val (.long mm), .second, .val (.double cp), .second, .val (.int kk), .val (.double co), .second, .unset, .unset, .unset] [])
  refine GoW.on (fun _ k => XS.iload X0.here hx rfl (hb hby at_65) rfl k) ?_
  show GoW _ _ _ _ _ _ _ _ (mkF m 67 #[.val (.long j0), .second, .val (.int i1), .val (.int i2), .val (.int i3), .val (.long mm), .second, .val (.double cp), .second, .val (.int kk), .val (.double co), .second, .unset, .unset, .unset] [(.int i3)])
  refine GoW.on (fun _ k => XS.sipush X0.here hx rfl (hb hby at_67) k) ?_
  show GoW _ _ _ _ _ _ _ _ (mkF m 70 #[.val (.long j0), .second, .val (.int i1), .val (.int i2), .val (.int i3), .val (.long mm), .second, .val (.double cp), .second, .val (.int kk), .val (.double co), .second, .unset, .unset, .unset] [(.int (255 : Int32)), (.int i3)])
  refine GoW.on (fun _ k => XS.iand X0.here hx rfl (hb hby at_70) rfl k) ?_
  show GoW _ _ _ _ _ _ _ _ (mkF m 71 #[.val (.long j0), .second, .val (.int i1), .val (.int i2), .val (.int i3), .val (.long mm), .second, .val (.double cp), .second, .val (.int kk), .val (.double co), .second, .unset, .unset, .unset] [(.int (i3 &&& (255 : Int32)))])
  refine GoW.on (fun _ k => XS.i2c X0.here hx rfl (hb hby at_71) rfl k) ?_
  show GoW _ _ _ _ _ _ _ _ (mkF m 72 #[.val (.long j0), .second, .val (.int i1), .val (.int i2), .val (.int i3), .val (.long mm), .second, .val (.double cp), .second, .val (.int kk), .val (.double co), .second, .unset, .unset, .unset] [(.int ((i3 &&& (255 : Int32)).toUInt32.toUInt16.toUInt32.toInt32))])
  have Pc := own_cp Hm hc0 hcp
  have Gc := own_cost i2
  rw [hco] at Gc
  obtain ⟨_, _, ⟨T6, L6, k6, n6⟩, -, X6, ⟨Lc6, hQ6, l6, y6, z6⟩, st6⟩ := Jvm.LawKit.callS X0 hx (y := (⟨"java/lang/String", "valueOf", "(C)Ljava/lang/String;"⟩ : MethodName)) hown (mvT hZ (hw _ (List.mem_of_getElem? (i := 3) rfl))) (mvT hZ (hw _ (List.mem_of_getElem? (i := 4) rfl))) (mvT hZ (hw _ (List.mem_of_getElem? (i := 5) rfl))) (mvT hZ (hw _ (List.mem_of_getElem? (i := 6) rfl))) (by decide) (backOf (W := 0) (rm1 l Z aw hw [] ((i3 &&& (255 : Int32)).toUInt32.toUInt16.toUInt32.toInt32) cs h0 n0 ZZ S_COMPACT_STRINGS hcs (own_ch _)) hZ (hw _ (List.mem_of_getElem? (i := 6) rfl)) (hw _ (List.mem_of_getElem? (i := 5) rfl)) (by decide) (by decide)) (g := (mkF m 72 #[.val (.long j0), .second, .val (.int i1), .val (.int i2), .val (.int i3), .val (.long mm), .second, .val (.double cp), .second, .val (.int kk), .val (.double co), .second, .unset, .unset, .unset] [(.int ((i3 &&& (255 : Int32)).toUInt32.toUInt16.toUInt32.toInt32))])) rfl (by rw [hml]; rfl) (argsL := [(.int ((i3 &&& (255 : Int32)).toUInt32.toUInt16.toUInt32.toInt32))]) (rest := []) (lenOf pd_7 rfl) rfl (by show 2 * 0 + _ ≤ _; exact Nat.le_of_eq rfl) (hb hby at_72) (fun _ _ => ⟨rfl, e0, (by decide : 0 + 2 ≤ _), (by decide : 0 + 5 ≤ _)⟩)
  dsimp only [Pt.U, Pt.locs, Pt.cells, Pt.slots] at X6 l6 y6 z6 st6 hQ6
  subst l6 y6 z6
  obtain ⟨h6, e6⟩ : ∃ q, T6.heap = q := ⟨_, rfl⟩
  rw [e6] at hQ6
  obtain ⟨idn, rfl, N6q, K6q, szq6, E_idn, F_coder_idn⟩ := hQ6
  have N6 := Fr.app N0 N6q
  have g_idn : n0 ≤ idn := Nat.le_trans ZZ szq6
  replace S_COMPACT_STRINGS := own_sta_keep S_COMPACT_STRINGS K6q own_ob0
  replace ZZ := Nat.le_trans ZZ K6q.1
  replace HK := Nat.le_trans HK K6q.1
  refine GoW.on st6 ?_
  show GoW _ _ _ _ _ _ _ _ (mkF m 75 #[.val (.long j0), .second, .val (.int i1), .val (.int i2), .val (.int i3), .val (.long mm), .second, .val (.double cp), .second, .val (.int kk), .val (.double co), .second, .unset, .unset, .unset] [(.ref idn)])
  refine GoW.on (fun _ k => XS.astore X6.here hx rfl (hb hby at_75) rfl rfl (l' := #[.val (.long j0), .second, .val (.int i1), .val (.int i2), .val (.int i3), .val (.long mm), .second, .val (.double cp), .second, .val (.int kk), .val (.double co), .second, .val (.ref idn), .unset, .unset]) rfl k) ?_
  show GoW _ _ _ _ _ _ _ _ (mkF m 77 #[.val (.long j0), .second, .val (.int i1), .val (.int i2), .val (.int i3), .val (.long mm), .second, .val (.double cp), .second, .val (.int kk), .val (.double co), .second, .val (.ref idn), .unset, .unset] [])
  refine GoW.on (fun _ k => XS.iload X6.here hx rfl (hb hby at_77) rfl k) ?_
  show GoW _ _ _ _ _ _ _ _ (mkF m 79 #[.val (.long j0), .second, .val (.int i1), .val (.int i2), .val (.int i3), .val (.long mm), .second, .val (.double cp), .second, .val (.int kk), .val (.double co), .second, .val (.ref idn), .unset, .unset] [(.int kk)])
  refine GoW.on (fun _ k => XS.iconst X6.here hx rfl (hb hby at_79) k) ?_
  show GoW _ _ _ _ _ _ _ _ (mkF m 80 #[.val (.long j0), .second, .val (.int i1), .val (.int i2), .val (.int i3), .val (.long mm), .second, .val (.double cp), .second, .val (.int kk), .val (.double co), .second, .val (.ref idn), .unset, .unset] [(.int (3 : Int32)), (.int kk)])
  by_cases hc7 : kk = (3 : Int32)
  · -- pc 80 yes
    refine GoW.on (fun _ k => XS.icmpNo X6.here hx rfl (hb hby at_80) rfl (teq hc7).2 k) ?_
    show GoW _ _ _ _ _ _ _ _ (mkF m 83 #[.val (.long j0), .second, .val (.int i1), .val (.int i2), .val (.int i3), .val (.long mm), .second, .val (.double cp), .second, .val (.int kk), .val (.double co), .second, .val (.ref idn), .unset, .unset] [])
    obtain ⟨T8, h8, X8, e8, E8, A8, D8, -, st8⟩ := newO X6 hx hZ hown (hw _ (List.mem_of_getElem? (i := 29) rfl)) (hw _ (List.mem_of_getElem? (i := 30) rfl)) (hw _ (List.mem_of_getElem? (i := 31) rfl)) e6 (g := (mkF m 83 #[.val (.long j0), .second, .val (.int i1), .val (.int i2), .val (.int i3), .val (.long mm), .second, .val (.double cp), .second, .val (.int kk), .val (.double co), .second, .val (.ref idn), .unset, .unset] [])) rfl (hb hby at_83) (by decide) (by decide)
    obtain ⟨sa, g8⟩ : ∃ z, z = h6.size := ⟨_, rfl⟩
    have ne_idn_sa : idn ≠ sa := Nat.ne_of_lt (Nat.lt_of_lt_of_le E_idn.lt (Nat.le_of_eq g8.symm))
    have g_sa : n0 ≤ sa := Nat.le_trans ZZ (Nat.le_of_eq g8.symm)
    rw [← g8] at A8 D8 st8
    replace S_COMPACT_STRINGS := S_COMPACT_STRINGS.ext E8
    replace E_idn := E_idn.ext E8
    replace F_coder_idn := F_coder_idn.ext E8
    replace ZZ := Nat.le_trans ZZ E8.1
    replace HK := Nat.le_trans HK E8.1
    have E_sa := A8
    have F_id_sa : Fld Z h8 sa "com/example/outpost/outpost/Site" "id" "Ljava/lang/String;" .null := D8 (Or.inr (hw _ (List.mem_of_getElem? (i := 55) rfl))) (ty := (.object "java/lang/String")) (by decide)
    have F_openingCost_sa : Fld Z h8 sa "com/example/outpost/outpost/Site" "openingCost" "D" (.double (0 : UInt64)) := D8 (Or.inr (hw _ (List.mem_of_getElem? (i := 57) rfl))) (ty := .double) (by decide)
    have F_capacity_sa : Fld Z h8 sa "com/example/outpost/outpost/Site" "capacity" "D" (.double (0 : UInt64)) := D8 (Or.inr (hw _ (List.mem_of_getElem? (i := 59) rfl))) (ty := .double) (by decide)
    refine GoW.on st8 ?_
    show GoW _ _ _ _ _ _ _ _ (mkF m 86 #[.val (.long j0), .second, .val (.int i1), .val (.int i2), .val (.int i3), .val (.long mm), .second, .val (.double cp), .second, .val (.int kk), .val (.double co), .second, .val (.ref idn), .unset, .unset] [(.ref sa)])
    refine GoW.on (fun _ k => XS.dup X8.here hx rfl (hb hby at_86) rfl rfl k) ?_
    show GoW _ _ _ _ _ _ _ _ (mkF m 87 #[.val (.long j0), .second, .val (.int i1), .val (.int i2), .val (.int i3), .val (.long mm), .second, .val (.double cp), .second, .val (.int kk), .val (.double co), .second, .val (.ref idn), .unset, .unset] [(.ref sa), (.ref sa)])
    refine GoW.on (fun _ k => XS.aload X8.here hx rfl (hb hby at_87) rfl rfl k) ?_
    show GoW _ _ _ _ _ _ _ _ (mkF m 89 #[.val (.long j0), .second, .val (.int i1), .val (.int i2), .val (.int i3), .val (.long mm), .second, .val (.double cp), .second, .val (.int kk), .val (.double co), .second, .val (.ref idn), .unset, .unset] [(.ref idn), (.ref sa), (.ref sa)])
    refine GoW.on (fun _ k => XS.dload X8.here hx rfl (hb hby at_89) rfl k) ?_
    show GoW _ _ _ _ _ _ _ _ (mkF m 91 #[.val (.long j0), .second, .val (.int i1), .val (.int i2), .val (.int i3), .val (.long mm), .second, .val (.double cp), .second, .val (.int kk), .val (.double co), .second, .val (.ref idn), .unset, .unset] [(.double co), (.ref idn), (.ref sa), (.ref sa)])
    obtain ⟨_, _, ⟨T9, L9, k9, n9⟩, -, X9, HS9_, HG9_, ⟨Lc9, hQ9, l9, y9, z9⟩, st9⟩ := X8.specialBackS hx (y := (⟨"com/example/outpost/outpost/Site", "<init>", "(Ljava/lang/String;D)V"⟩ : MethodName)) rfl hown (mvT hZ (hw _ (List.mem_of_getElem? (i := 66) rfl))) (mvT hZ (hw _ (List.mem_of_getElem? (i := 67) rfl))) (mvT hZ (hw _ (List.mem_of_getElem? (i := 68) rfl))) (by decide) (backOfS (W := 1) (rm11 l Z aw hw [] sa idn co  h8 n0 ZZ E_sa F_id_sa F_openingCost_sa F_capacity_sa g_sa (own_g_lo Gc) (own_g_inf Gc.1)) hZ (hw _ (List.mem_of_getElem? (i := 68) rfl)) (hw _ (List.mem_of_getElem? (i := 31) rfl)) (by decide) (by decide)) (g := (mkF m 91 #[.val (.long j0), .second, .val (.int i1), .val (.int i2), .val (.int i3), .val (.long mm), .second, .val (.double cp), .second, .val (.int kk), .val (.double co), .second, .val (.ref idn), .unset, .unset] [(.double co), (.ref idn), (.ref sa), (.ref sa)])) rfl (by rw [hml]; rfl) (Steps.refl _) (a := sa) (argsL := [(.ref idn), (.double co)]) (rest := [(.ref sa)]) (lenOf pd_8 rfl) rfl (by show 2 * 0 + _ ≤ _; exact Nat.le_of_eq rfl) (hb hby at_91) (fun _ _ => ⟨rfl, e8, (by decide : 3 + 4 ≤ _), (by decide : 8 + 64 ≤ _)⟩)
    dsimp only [Pt.U, Pt.locs, Pt.cells, Pt.slots] at X9 l9 y9 z9 st9 hQ9 HS9_ HG9_
    subst l9 y9 z9
    have HS9 := Jvm.RoadKit.foldS HS (by rw [e8]; exact HK) HS9_ HG9_
    have hZ9 : Z.Warmed39 (s.setVm T9.vm).vm := State.Warmed39.trans (t := State.setVm s _) hZ HS9_.1
    have hown9 : (s.setVm T9.vm).vm.findClass "com/example/outpost/outpost/SiteHasCapacityPinLaw" = some m.cls := by rw [show (s.setVm T9.vm).vm = T9.vm from rfl, HS9_.1.alike.findClass]; exact hown
    replace X9 : Stand p l e _ (s.setVm T9.vm) m _ below meth c T9 _ _ _ := X9
    replace HS := HS9
    replace hZ := hZ9
    replace hown := hown9
    obtain ⟨h9, e9⟩ : ∃ q, T9.heap = q := ⟨_, rfl⟩
    rw [e9] at hQ9
    obtain ⟨rfl, N9q, K9q, E_sa', F_capacity_sa'⟩ := hQ9
    have N9 := Fr.app N6 N9q
    replace S_COMPACT_STRINGS := own_sta_keep S_COMPACT_STRINGS K9q (own_obS (own_cell0 E_sa) own_ob0)
    replace E_idn := E_idn.keep K9q
    replace F_coder_idn := F_coder_idn.keep K9q (ninS ne_idn_sa nin0)
    replace E_sa := E_sa.keep K9q
    replace ZZ := Nat.le_trans ZZ K9q.1
    replace E_sa := E_sa'
    have F_capacity_sa := F_capacity_sa'
    refine GoW.on (fun _ k => st9.trans k) ?_
    show GoW _ _ _ _ _ _ _ _ (mkF m 94 #[.val (.long j0), .second, .val (.int i1), .val (.int i2), .val (.int i3), .val (.long mm), .second, .val (.double cp), .second, .val (.int kk), .val (.double co), .second, .val (.ref idn), .unset, .unset] [(.ref sa)])
    rw [e9] at HS
    replace HK : h9.size ≤ h9.size := Nat.le_refl _
    refine GoW.on (fun _ k => XS.astore X9.here hx rfl (hb hby at_94) rfl rfl (l' := #[.val (.long j0), .second, .val (.int i1), .val (.int i2), .val (.int i3), .val (.long mm), .second, .val (.double cp), .second, .val (.int kk), .val (.double co), .second, .val (.ref idn), .val (.ref sa), .unset]) rfl k) ?_
    show GoW _ _ _ _ _ _ _ _ (mkF m 96 #[.val (.long j0), .second, .val (.int i1), .val (.int i2), .val (.int i3), .val (.long mm), .second, .val (.double cp), .second, .val (.int kk), .val (.double co), .second, .val (.ref idn), .val (.ref sa), .unset] [])
    refine GoW.on (fun _ k => XS.iconst X9.here hx rfl (hb hby at_96) k) ?_
    show GoW _ _ _ _ _ _ _ _ (mkF m 97 #[.val (.long j0), .second, .val (.int i1), .val (.int i2), .val (.int i3), .val (.long mm), .second, .val (.double cp), .second, .val (.int kk), .val (.double co), .second, .val (.ref idn), .val (.ref sa), .unset] [(.int (0 : Int32))])
    refine GoW.on (fun _ k => XS.istore X9.here hx rfl (hb hby at_97) rfl (l' := #[.val (.long j0), .second, .val (.int i1), .val (.int i2), .val (.int i3), .val (.long mm), .second, .val (.double cp), .second, .val (.int kk), .val (.double co), .second, .val (.ref idn), .val (.ref sa), .val (.int (0 : Int32))]) rfl k) ?_
    show GoW _ _ _ _ _ _ _ _ (mkF m 99 #[.val (.long j0), .second, .val (.int i1), .val (.int i2), .val (.int i3), .val (.long mm), .second, .val (.double cp), .second, .val (.int kk), .val (.double co), .second, .val (.ref idn), .val (.ref sa), .val (.int (0 : Int32))] [])
    refine GoW.on (fun _ k => XS.goto X9.here hx rfl (pc0 := 99) (pc' := 120) rfl (hb hby at_99) (by decide) (by decide) k) ?_
    show GoW _ _ _ _ _ _ _ _ (mkF m 120 #[.val (.long j0), .second, .val (.int i1), .val (.int i2), .val (.int i3), .val (.long mm), .second, .val (.double cp), .second, .val (.int kk), .val (.double co), .second, .val (.ref idn), .val (.ref sa), .val (.int (0 : Int32))] [])
    refine GoW.on (fun _ k => XS.aload X9.here hx rfl (hb hby at_120) rfl rfl k) ?_
    show GoW _ _ _ _ _ _ _ _ (mkF m 122 #[.val (.long j0), .second, .val (.int i1), .val (.int i2), .val (.int i3), .val (.long mm), .second, .val (.double cp), .second, .val (.int kk), .val (.double co), .second, .val (.ref idn), .val (.ref sa), .val (.int (0 : Int32))] [(.ref sa)])
    obtain ⟨cq10, kq10, q10a, q10b, q10c⟩ := isOf hZ e9 E_sa
    obtain ⟨_, _, ⟨T10, L10, k10, n10⟩, -, X10, ⟨Lc10, hQ10, l10, y10, z10⟩, st10⟩ := X9.virtualBack hx (y := (⟨"com/example/outpost/outpost/Site", "hasCapacity", "()Z"⟩ : MethodName)) (z := (⟨"com/example/outpost/outpost/Site", "hasCapacity", "()Z"⟩ : MethodName)) hown (mvT hZ (hw _ (List.mem_of_getElem? (i := 60) rfl))) (mvT hZ (hw _ (List.mem_of_getElem? (i := 61) rfl))) (notFace_of_selects (args := #[]) (mvT hZ (hw _ (List.mem_of_getElem? (i := 63) rfl)))) (mvT hZ (hw _ (List.mem_of_getElem? (i := 63) rfl))) (mvT hZ (hw _ (List.mem_of_getElem? (i := 62) rfl))) (by decide) (backOf (W := 0) (rm10 l Z aw hw [] sa (9218868437227405312 : UInt64) h9 n0 ZZ F_capacity_sa) hZ (hw _ (List.mem_of_getElem? (i := 64) rfl)) (hw _ (List.mem_of_getElem? (i := 31) rfl)) (by decide) (by decide)) q10a q10c (g := (mkF m 122 #[.val (.long j0), .second, .val (.int i1), .val (.int i2), .val (.int i3), .val (.long mm), .second, .val (.double cp), .second, .val (.int kk), .val (.double co), .second, .val (.ref idn), .val (.ref sa), .val (.int (0 : Int32))] [(.ref sa)])) rfl (by rw [hml]; rfl) (Steps.refl _) (argsL := []) (rest := []) (lenOf pd_9 rfl) rfl (by show 2 * 0 + _ ≤ _; exact Nat.le_of_eq rfl) (hb hby at_122) (fun _ _ => ⟨rfl, e9, (by decide : 7 + 0 ≤ _), (by decide : 72 + 0 ≤ _)⟩)
    dsimp only [Pt.U, Pt.locs, Pt.cells, Pt.slots] at X10 l10 y10 z10 st10 hQ10
    subst l10 y10 z10
    obtain ⟨rfl, N10q, e10⟩ := hQ10
    have N10 := Fr.app N9 N10q
    refine GoW.on (fun _ k => st10.trans k) ?_
    show GoW _ _ _ _ _ _ _ _ (mkF m 125 #[.val (.long j0), .second, .val (.int i1), .val (.int i2), .val (.int i3), .val (.long mm), .second, .val (.double cp), .second, .val (.int kk), .val (.double co), .second, .val (.ref idn), .val (.ref sa), .val (.int (0 : Int32))] [(.int (if (cmpValue (FP.dcmp (9218868437227405312 : UInt64) (9218868437227405312 : UInt64)) .g) < (0 : Int32) then (1 : Int32) else (0 : Int32)))])
    generalize hhs : (if (cmpValue (FP.dcmp (9218868437227405312 : UInt64) (9218868437227405312 : UInt64)) .g) < (0 : Int32) then (1 : Int32) else (0 : Int32)) = hs
    show GoW _ _ _ _ _ _ _ _ (mkF m 125 #[.val (.long j0), .second, .val (.int i1), .val (.int i2), .val (.int i3), .val (.long mm), .second, .val (.double cp), .second, .val (.int kk), .val (.double co), .second, .val (.ref idn), .val (.ref sa), .val (.int (0 : Int32))] [(.int hs)])
    refine GoW.on (fun _ k => XS.iload X10.here hx rfl (hb hby at_125) rfl k) ?_
    show GoW _ _ _ _ _ _ _ _ (mkF m 127 #[.val (.long j0), .second, .val (.int i1), .val (.int i2), .val (.int i3), .val (.long mm), .second, .val (.double cp), .second, .val (.int kk), .val (.double co), .second, .val (.ref idn), .val (.ref sa), .val (.int (0 : Int32))] [(.int (0 : Int32)), (.int hs)])
    have hc11 : hs = (0 : Int32) := hhs.symm.trans (if_neg own_infinf)
    refine GoW.on (fun _ k => XS.icmpNo X10.here hx rfl (hb hby at_127) rfl (teq hc11).2 k) ?_
    show GoW _ _ _ _ _ _ _ _ (mkF m 130 #[.val (.long j0), .second, .val (.int i1), .val (.int i2), .val (.int i3), .val (.long mm), .second, .val (.double cp), .second, .val (.int kk), .val (.double co), .second, .val (.ref idn), .val (.ref sa), .val (.int (0 : Int32))] [])
    refine GoW.on (fun _ k => XS.iconst X10.here hx rfl (hb hby at_130) k) ?_
    show GoW _ _ _ _ _ _ _ _ (mkF m 131 #[.val (.long j0), .second, .val (.int i1), .val (.int i2), .val (.int i3), .val (.long mm), .second, .val (.double cp), .second, .val (.int kk), .val (.double co), .second, .val (.ref idn), .val (.ref sa), .val (.int (0 : Int32))] [(.int (1 : Int32))])
    refine GoW.on (fun _ k => XS.goto X10.here hx rfl (pc0 := 131) (pc' := 135) rfl (hb hby at_131) (by decide) (by decide) k) ?_
    show GoW _ _ _ _ _ _ _ _ (mkF m 135 #[.val (.long j0), .second, .val (.int i1), .val (.int i2), .val (.int i3), .val (.long mm), .second, .val (.double cp), .second, .val (.int kk), .val (.double co), .second, .val (.ref idn), .val (.ref sa), .val (.int (0 : Int32))] [(.int (1 : Int32))])
    refine GoW.retN X10 hx HS (by rw [e10]; exact HK) (t := .boolean) Bd.returns (by simp) (hb hby at_135) ?_ (by rw [hK1]; decide) (by rw [hK2]; decide)
    rw [e10, ← hQQ]
    exact ⟨rfl, N10⟩
  · -- pc 80 no
    refine GoW.on (fun _ k => XS.icmpYes X6.here hx rfl (pc0 := 80) (pc' := 102) rfl (hb hby at_80) rfl (feq hc7).2 (by decide) (by decide) k) ?_
    show GoW _ _ _ _ _ _ _ _ (mkF m 102 #[.val (.long j0), .second, .val (.int i1), .val (.int i2), .val (.int i3), .val (.long mm), .second, .val (.double cp), .second, .val (.int kk), .val (.double co), .second, .val (.ref idn), .unset, .unset] [])
    obtain ⟨T12, h12, X12, e12, E12, A12, D12, -, st12⟩ := newO X6 hx hZ hown (hw _ (List.mem_of_getElem? (i := 29) rfl)) (hw _ (List.mem_of_getElem? (i := 30) rfl)) (hw _ (List.mem_of_getElem? (i := 31) rfl)) e6 (g := (mkF m 102 #[.val (.long j0), .second, .val (.int i1), .val (.int i2), .val (.int i3), .val (.long mm), .second, .val (.double cp), .second, .val (.int kk), .val (.double co), .second, .val (.ref idn), .unset, .unset] [])) rfl (hb hby at_102) (by decide) (by decide)
    obtain ⟨sz, g12⟩ : ∃ z, z = h6.size := ⟨_, rfl⟩
    have ne_idn_sz : idn ≠ sz := Nat.ne_of_lt (Nat.lt_of_lt_of_le E_idn.lt (Nat.le_of_eq g12.symm))
    have g_sz : n0 ≤ sz := Nat.le_trans ZZ (Nat.le_of_eq g12.symm)
    rw [← g12] at A12 D12 st12
    replace S_COMPACT_STRINGS := S_COMPACT_STRINGS.ext E12
    replace E_idn := E_idn.ext E12
    replace F_coder_idn := F_coder_idn.ext E12
    replace ZZ := Nat.le_trans ZZ E12.1
    replace HK := Nat.le_trans HK E12.1
    have E_sz := A12
    have F_id_sz : Fld Z h12 sz "com/example/outpost/outpost/Site" "id" "Ljava/lang/String;" .null := D12 (Or.inr (hw _ (List.mem_of_getElem? (i := 55) rfl))) (ty := (.object "java/lang/String")) (by decide)
    have F_openingCost_sz : Fld Z h12 sz "com/example/outpost/outpost/Site" "openingCost" "D" (.double (0 : UInt64)) := D12 (Or.inr (hw _ (List.mem_of_getElem? (i := 57) rfl))) (ty := .double) (by decide)
    have F_capacity_sz : Fld Z h12 sz "com/example/outpost/outpost/Site" "capacity" "D" (.double (0 : UInt64)) := D12 (Or.inr (hw _ (List.mem_of_getElem? (i := 59) rfl))) (ty := .double) (by decide)
    refine GoW.on st12 ?_
    show GoW _ _ _ _ _ _ _ _ (mkF m 105 #[.val (.long j0), .second, .val (.int i1), .val (.int i2), .val (.int i3), .val (.long mm), .second, .val (.double cp), .second, .val (.int kk), .val (.double co), .second, .val (.ref idn), .unset, .unset] [(.ref sz)])
    refine GoW.on (fun _ k => XS.dup X12.here hx rfl (hb hby at_105) rfl rfl k) ?_
    show GoW _ _ _ _ _ _ _ _ (mkF m 106 #[.val (.long j0), .second, .val (.int i1), .val (.int i2), .val (.int i3), .val (.long mm), .second, .val (.double cp), .second, .val (.int kk), .val (.double co), .second, .val (.ref idn), .unset, .unset] [(.ref sz), (.ref sz)])
    refine GoW.on (fun _ k => XS.aload X12.here hx rfl (hb hby at_106) rfl rfl k) ?_
    show GoW _ _ _ _ _ _ _ _ (mkF m 108 #[.val (.long j0), .second, .val (.int i1), .val (.int i2), .val (.int i3), .val (.long mm), .second, .val (.double cp), .second, .val (.int kk), .val (.double co), .second, .val (.ref idn), .unset, .unset] [(.ref idn), (.ref sz), (.ref sz)])
    refine GoW.on (fun _ k => XS.dload X12.here hx rfl (hb hby at_108) rfl k) ?_
    show GoW _ _ _ _ _ _ _ _ (mkF m 110 #[.val (.long j0), .second, .val (.int i1), .val (.int i2), .val (.int i3), .val (.long mm), .second, .val (.double cp), .second, .val (.int kk), .val (.double co), .second, .val (.ref idn), .unset, .unset] [(.double co), (.ref idn), (.ref sz), (.ref sz)])
    refine GoW.on (fun _ k => XS.dload X12.here hx rfl (hb hby at_110) rfl k) ?_
    show GoW _ _ _ _ _ _ _ _ (mkF m 112 #[.val (.long j0), .second, .val (.int i1), .val (.int i2), .val (.int i3), .val (.long mm), .second, .val (.double cp), .second, .val (.int kk), .val (.double co), .second, .val (.ref idn), .unset, .unset] [(.double cp), (.double co), (.ref idn), (.ref sz), (.ref sz)])
    obtain ⟨_, _, ⟨T13, L13, k13, n13⟩, -, X13, HS13_, HG13_, ⟨Lc13, hQ13, l13, y13, z13⟩, st13⟩ := X12.specialBackS hx (y := (⟨"com/example/outpost/outpost/Site", "<init>", "(Ljava/lang/String;DD)V"⟩ : MethodName)) rfl hown (mvT hZ (hw _ (List.mem_of_getElem? (i := 32) rfl))) (mvT hZ (hw _ (List.mem_of_getElem? (i := 33) rfl))) (mvT hZ (hw _ (List.mem_of_getElem? (i := 34) rfl))) (by decide) (backOfS (W := 1) (rm6 l Z aw hw [] sz idn co cp  h12 n0 ZZ E_sz F_id_sz F_openingCost_sz F_capacity_sz g_sz (own_g_lo Gc) (own_g_inf Gc.1) (own_pos Pc)) hZ (hw _ (List.mem_of_getElem? (i := 34) rfl)) (hw _ (List.mem_of_getElem? (i := 31) rfl)) (by decide) (by decide)) (g := (mkF m 112 #[.val (.long j0), .second, .val (.int i1), .val (.int i2), .val (.int i3), .val (.long mm), .second, .val (.double cp), .second, .val (.int kk), .val (.double co), .second, .val (.ref idn), .unset, .unset] [(.double cp), (.double co), (.ref idn), (.ref sz), (.ref sz)])) rfl (by rw [hml]; rfl) (Steps.refl _) (a := sz) (argsL := [(.ref idn), (.double co), (.double cp)]) (rest := [(.ref sz)]) (lenOf pd_6 rfl) rfl (by show 2 * 0 + _ ≤ _; exact Nat.le_of_eq rfl) (hb hby at_112) (fun _ _ => ⟨rfl, e12, (by decide : 3 + 4 ≤ _), (by decide : 8 + 64 ≤ _)⟩)
    dsimp only [Pt.U, Pt.locs, Pt.cells, Pt.slots] at X13 l13 y13 z13 st13 hQ13 HS13_ HG13_
    subst l13 y13 z13
    have HS13 := Jvm.RoadKit.foldS HS (by rw [e12]; exact HK) HS13_ HG13_
    have hZ13 : Z.Warmed39 (s.setVm T13.vm).vm := State.Warmed39.trans (t := State.setVm s _) hZ HS13_.1
    have hown13 : (s.setVm T13.vm).vm.findClass "com/example/outpost/outpost/SiteHasCapacityPinLaw" = some m.cls := by rw [show (s.setVm T13.vm).vm = T13.vm from rfl, HS13_.1.alike.findClass]; exact hown
    replace X13 : Stand p l e _ (s.setVm T13.vm) m _ below meth c T13 _ _ _ := X13
    replace HS := HS13
    replace hZ := hZ13
    replace hown := hown13
    obtain ⟨h13, e13⟩ : ∃ q, T13.heap = q := ⟨_, rfl⟩
    rw [e13] at hQ13
    obtain ⟨rfl, N13q, K13q, E_sz', F_capacity_sz'⟩ := hQ13
    have N13 := Fr.app N6 N13q
    replace S_COMPACT_STRINGS := own_sta_keep S_COMPACT_STRINGS K13q (own_obS (own_cell0 E_sz) own_ob0)
    replace E_idn := E_idn.keep K13q
    replace F_coder_idn := F_coder_idn.keep K13q (ninS ne_idn_sz nin0)
    replace E_sz := E_sz.keep K13q
    replace ZZ := Nat.le_trans ZZ K13q.1
    replace E_sz := E_sz'
    have F_capacity_sz := F_capacity_sz'
    refine GoW.on (fun _ k => st13.trans k) ?_
    show GoW _ _ _ _ _ _ _ _ (mkF m 115 #[.val (.long j0), .second, .val (.int i1), .val (.int i2), .val (.int i3), .val (.long mm), .second, .val (.double cp), .second, .val (.int kk), .val (.double co), .second, .val (.ref idn), .unset, .unset] [(.ref sz)])
    rw [e13] at HS
    replace HK : h13.size ≤ h13.size := Nat.le_refl _
    refine GoW.on (fun _ k => XS.astore X13.here hx rfl (hb hby at_115) rfl rfl (l' := #[.val (.long j0), .second, .val (.int i1), .val (.int i2), .val (.int i3), .val (.long mm), .second, .val (.double cp), .second, .val (.int kk), .val (.double co), .second, .val (.ref idn), .val (.ref sz), .unset]) rfl k) ?_
    show GoW _ _ _ _ _ _ _ _ (mkF m 117 #[.val (.long j0), .second, .val (.int i1), .val (.int i2), .val (.int i3), .val (.long mm), .second, .val (.double cp), .second, .val (.int kk), .val (.double co), .second, .val (.ref idn), .val (.ref sz), .unset] [])
    refine GoW.on (fun _ k => XS.iconst X13.here hx rfl (hb hby at_117) k) ?_
    show GoW _ _ _ _ _ _ _ _ (mkF m 118 #[.val (.long j0), .second, .val (.int i1), .val (.int i2), .val (.int i3), .val (.long mm), .second, .val (.double cp), .second, .val (.int kk), .val (.double co), .second, .val (.ref idn), .val (.ref sz), .unset] [(.int (1 : Int32))])
    refine GoW.on (fun _ k => XS.istore X13.here hx rfl (hb hby at_118) rfl (l' := #[.val (.long j0), .second, .val (.int i1), .val (.int i2), .val (.int i3), .val (.long mm), .second, .val (.double cp), .second, .val (.int kk), .val (.double co), .second, .val (.ref idn), .val (.ref sz), .val (.int (1 : Int32))]) rfl k) ?_
    show GoW _ _ _ _ _ _ _ _ (mkF m 120 #[.val (.long j0), .second, .val (.int i1), .val (.int i2), .val (.int i3), .val (.long mm), .second, .val (.double cp), .second, .val (.int kk), .val (.double co), .second, .val (.ref idn), .val (.ref sz), .val (.int (1 : Int32))] [])
    refine GoW.on (fun _ k => XS.aload X13.here hx rfl (hb hby at_120) rfl rfl k) ?_
    show GoW _ _ _ _ _ _ _ _ (mkF m 122 #[.val (.long j0), .second, .val (.int i1), .val (.int i2), .val (.int i3), .val (.long mm), .second, .val (.double cp), .second, .val (.int kk), .val (.double co), .second, .val (.ref idn), .val (.ref sz), .val (.int (1 : Int32))] [(.ref sz)])
    obtain ⟨cq14, kq14, q14a, q14b, q14c⟩ := isOf hZ e13 E_sz
    obtain ⟨_, _, ⟨T14, L14, k14, n14⟩, -, X14, ⟨Lc14, hQ14, l14, y14, z14⟩, st14⟩ := X13.virtualBack hx (y := (⟨"com/example/outpost/outpost/Site", "hasCapacity", "()Z"⟩ : MethodName)) (z := (⟨"com/example/outpost/outpost/Site", "hasCapacity", "()Z"⟩ : MethodName)) hown (mvT hZ (hw _ (List.mem_of_getElem? (i := 60) rfl))) (mvT hZ (hw _ (List.mem_of_getElem? (i := 61) rfl))) (notFace_of_selects (args := #[]) (mvT hZ (hw _ (List.mem_of_getElem? (i := 63) rfl)))) (mvT hZ (hw _ (List.mem_of_getElem? (i := 63) rfl))) (mvT hZ (hw _ (List.mem_of_getElem? (i := 62) rfl))) (by decide) (backOf (W := 0) (rm10 l Z aw hw [] sz cp h13 n0 ZZ F_capacity_sz) hZ (hw _ (List.mem_of_getElem? (i := 64) rfl)) (hw _ (List.mem_of_getElem? (i := 31) rfl)) (by decide) (by decide)) q14a q14c (g := (mkF m 122 #[.val (.long j0), .second, .val (.int i1), .val (.int i2), .val (.int i3), .val (.long mm), .second, .val (.double cp), .second, .val (.int kk), .val (.double co), .second, .val (.ref idn), .val (.ref sz), .val (.int (1 : Int32))] [(.ref sz)])) rfl (by rw [hml]; rfl) (Steps.refl _) (argsL := []) (rest := []) (lenOf pd_9 rfl) rfl (by show 2 * 0 + _ ≤ _; exact Nat.le_of_eq rfl) (hb hby at_122) (fun _ _ => ⟨rfl, e13, (by decide : 7 + 0 ≤ _), (by decide : 72 + 0 ≤ _)⟩)
    dsimp only [Pt.U, Pt.locs, Pt.cells, Pt.slots] at X14 l14 y14 z14 st14 hQ14
    subst l14 y14 z14
    obtain ⟨rfl, N14q, e14⟩ := hQ14
    have N14 := Fr.app N13 N14q
    refine GoW.on (fun _ k => st14.trans k) ?_
    show GoW _ _ _ _ _ _ _ _ (mkF m 125 #[.val (.long j0), .second, .val (.int i1), .val (.int i2), .val (.int i3), .val (.long mm), .second, .val (.double cp), .second, .val (.int kk), .val (.double co), .second, .val (.ref idn), .val (.ref sz), .val (.int (1 : Int32))] [(.int (if (cmpValue (FP.dcmp cp (9218868437227405312 : UInt64)) .g) < (0 : Int32) then (1 : Int32) else (0 : Int32)))])
    generalize hhs : (if (cmpValue (FP.dcmp cp (9218868437227405312 : UInt64)) .g) < (0 : Int32) then (1 : Int32) else (0 : Int32)) = hs
    show GoW _ _ _ _ _ _ _ _ (mkF m 125 #[.val (.long j0), .second, .val (.int i1), .val (.int i2), .val (.int i3), .val (.long mm), .second, .val (.double cp), .second, .val (.int kk), .val (.double co), .second, .val (.ref idn), .val (.ref sz), .val (.int (1 : Int32))] [(.int hs)])
    refine GoW.on (fun _ k => XS.iload X14.here hx rfl (hb hby at_125) rfl k) ?_
    show GoW _ _ _ _ _ _ _ _ (mkF m 127 #[.val (.long j0), .second, .val (.int i1), .val (.int i2), .val (.int i3), .val (.long mm), .second, .val (.double cp), .second, .val (.int kk), .val (.double co), .second, .val (.ref idn), .val (.ref sz), .val (.int (1 : Int32))] [(.int (1 : Int32)), (.int hs)])
    have hc15 : hs = (1 : Int32) := hhs.symm.trans (if_pos (own_g_inf Pc.1))
    refine GoW.on (fun _ k => XS.icmpNo X14.here hx rfl (hb hby at_127) rfl (teq hc15).2 k) ?_
    show GoW _ _ _ _ _ _ _ _ (mkF m 130 #[.val (.long j0), .second, .val (.int i1), .val (.int i2), .val (.int i3), .val (.long mm), .second, .val (.double cp), .second, .val (.int kk), .val (.double co), .second, .val (.ref idn), .val (.ref sz), .val (.int (1 : Int32))] [])
    refine GoW.on (fun _ k => XS.iconst X14.here hx rfl (hb hby at_130) k) ?_
    show GoW _ _ _ _ _ _ _ _ (mkF m 131 #[.val (.long j0), .second, .val (.int i1), .val (.int i2), .val (.int i3), .val (.long mm), .second, .val (.double cp), .second, .val (.int kk), .val (.double co), .second, .val (.ref idn), .val (.ref sz), .val (.int (1 : Int32))] [(.int (1 : Int32))])
    refine GoW.on (fun _ k => XS.goto X14.here hx rfl (pc0 := 131) (pc' := 135) rfl (hb hby at_131) (by decide) (by decide) k) ?_
    show GoW _ _ _ _ _ _ _ _ (mkF m 135 #[.val (.long j0), .second, .val (.int i1), .val (.int i2), .val (.int i3), .val (.long mm), .second, .val (.double cp), .second, .val (.int kk), .val (.double co), .second, .val (.ref idn), .val (.ref sz), .val (.int (1 : Int32))] [(.int (1 : Int32))])
    refine GoW.retN X14 hx HS (by rw [e14]; exact HK) (t := .boolean) Bd.returns (by simp) (hb hby at_135) ?_ (by rw [hK1]; decide) (by rw [hK2]; decide)
    rw [e14, ← hQQ]
    exact ⟨rfl, N14⟩
set_option maxRecDepth 65536 in
set_option maxHeartbeats 40000000 in
theorem comes_1 {Post : Tables → Env → Array Value → State → Outcome → State → Prop} (hpost : ∀ tb e args s v u, (limb_1_1.after args s (.returned v) u = true ∧ limb_1_2.after args s (.returned v) u = true ∧ True) → ReturnedEndW s (.returned v) u (Jvm.fieldLocs frame_1_writes args s ++ Jvm.arrayLocs frame_1_arrays args s ++ Jvm.staticLocs frame_1_statics s) 24 2176 → Post tb e args s (.returned v) u) :
    ArmFor flags0 classFile x code maxLocals ret World_1 tables_1 room_1 Calls_1 rest_1 Pre_1 Post := by
  intro l hfl _ _ p e ha hc hk s m args below hf hA hF happ hP
  obtain ⟨hcalls, hrest, hpre⟩ := hP
  obtain ⟨-, -, -, hnamed, -, -, -, hat⟩ := (Spec.applies_iff hf).mp happ
  obtain ⟨hg, hn⟩ := and_e (Cond.before_iff.mp (show (Jvm.Cond.and given_1 narrow_1).before args s = true from hpre))
  obtain ⟨g0, r0⟩ := and_e hg
  obtain ⟨g1, r1⟩ := and_e r0
  obtain ⟨g2, r2⟩ := and_e r1
  obtain ⟨g3, g4⟩ := and_e r2
  obtain ⟨w0, w1, w2, w3, rfl⟩ : ∃ w0 w1 w2 w3 : Value, args = #[w0, w1, w2, w3] := by
    have hs : args.size = 4 := by simpa [Cond.value, given_1] using g0
    obtain ⟨L⟩ := args
    match L, hs with
    | [w0, w1, w2, w3], _ => exact ⟨w0, w1, w2, w3, rfl⟩
  have hw := fun d (hd : d ∈ tables_1) => atoms_spec (ws := Jvm.Cond.code x code maxLocals ret :: tables_1) hat d (List.mem_cons_of_mem _ hd)
  have hfit : Fit s := fun {y c} hc i hi => by
    obtain ⟨ha, rfl⟩ := Array.getElem?_eq_some_iff.mp hc
    have q := List.all_eq_true.mp ((Array.all_eq_true_iff_forall_mem.mp hF) _ (Array.getElem_mem ha)) i (List.mem_range.mpr hi)
    simpa [Array.getElem?_eq_getElem hi] using q
  obtain ⟨hsets, hown0⟩ := atoms_of _ (rest_1_c_eq ▸ (show rest_1_c.before _ s = true from hrest))
  obtain ⟨i0, ei0⟩ := isL_v g1
  obtain rfl : w0 = (.long i0) := Option.some.inj ei0
  obtain ⟨i1, ei1⟩ := is_v g2
  obtain rfl : w1 = (.int i1) := Option.some.inj ei1
  obtain ⟨i2, ei2⟩ := is_v g3
  obtain rfl : w2 = (.int i2) := Option.some.inj ei2
  obtain ⟨i3, ei3⟩ := is_v g4
  obtain rfl : w3 = (.int i3) := Option.some.inj ei3
  have s0 := hsets _ (List.mem_of_getElem? (i := 0) rfl)
  have s1 := Cond.before_iff.mp (hsets _ (List.mem_of_getElem? (i := 1) rfl))
  have s2 := Cond.before_iff.mp (hsets _ (List.mem_of_getElem? (i := 2) rfl))
  obtain ⟨cs, hcs⟩ := is_v s1
  have Sc := Sta.start hcs (Or.inl s0)
  have Nc := own_csne hcs s2
  obtain ⟨n, o, h1, h2, h3, _, L, rfl, ⟨rfl, N⟩, hq⟩ := rm0 l s _ hw tables_1 i0 i1 i2 i3 cs s.heap s.heap.size (Nat.le_refl _) Sc Nc p e ha hc hk s m _ below hf ((Spec.applies_iff_loose hf).mp happ).1 ⟨rfl, State.Warmed39.refl s, rfl⟩ trivial
  refine ⟨n, _, h1, h2, h3, hpost _ _ _ _ _ _ ⟨Cond.after_iff.mpr rfl, Cond.after_iff.mpr (eq_i res_at (Term.int_eval (1)) rfl), trivial⟩ ⟨hq.1, hq.2.1, hq.2.2.1, (hq.2.2.2.sift fun y hy => Or.inr (N y hy)).mono (by decide) (by decide)⟩⟩
theorem main_1_1 : Claimed_1_1 := comes_1 fun _ _ _ _ _ _ h hF => ⟨h.1, hF⟩
theorem main_1_2 : Claimed_1_2 := comes_1 fun _ _ _ _ _ _ h hF => ⟨h.2.1, hF⟩
end Jvm.Pilot.@@N@@
namespace Jvm.Pilot.@@N@@
open Jvm Jvm.ClassFile Sem Op Lib Jvm.Free Jvm.Stand Jvm.Pilot.@@N@@.Jvm.D
/-! MADE BY PROGRAM (witnessworld.py) out of the Statement's table words and the real class files: 20 classes; the members and pool entries that the words name. The judged class is class 1, her method 1. -/
namespace start1
open Jvm.ClassFile
def u (s : String) : CpInfo := .utf8 (stringToUtf16 s)
/-- a pool by its gaps: so many unusable entries, then the entry; so many at the end -/
def gap : Nat → List CpInfo → List CpInfo
  | 0, r => r
  | n + 1, r => .unusable :: gap n r
def poolList (es : List (Nat × CpInfo)) (last : Nat) : List CpInfo := es.foldr (fun e r => gap e.1 (e.2 :: r)) (gap last [])
def pool (es : List (Nat × CpInfo)) (last : Nat) : Array CpInfo := ⟨poolList es last⟩
def fileOf (pool : Array CpInfo) (this : Nat) (attrs : Array Attribute := #[]) (ms : Array MethodInfo := #[]) (fl : Nat := 33) (sup : Nat := 0) (ifs : Array Nat := #[]) (fds : Array FieldInfo := #[]) : ClassFile where
  minorVersion := 0
  majorVersion := 65
  constantPool := pool
  accessFlags := fl
  thisClass := this
  superClass := sup
  interfaces := ifs
  fields := fds
  methods := ms
  attributes := attrs
def plain (name : String) (sup : Option ClassId) : Class where
  name := name
  kind := .ordinary
  loader := none
  accessFlags := 33
  super := sup
  interfaces := #[]
  cf := none
  fields := #[]
  methods := #[]
  instanceTypes := #[]
  staticTypes := #[]
  resolved := #[]
  callSites := []
  init := .initialized
  statics := none
  mirror := none

def pool0 : Array CpInfo := pool [(5, u "<init>"), (0, u "()V"), (1, .class_ 10), (1, u "java/lang/Object")] 113

def k0c0 : Code := { maxStack := 0, maxLocals := 1, code := object_method_1_code, exceptionTable := #[], attributes := #[] }
def k0m0 : Method := { name := "<init>", desc := "()V", sig := { parameters := [], returnType := none }, accessFlags := 1, code := some k0c0 }
/-- java/lang/Object -/
def k0 : Class := { plain "java/lang/Object" none with
  accessFlags := 33
  interfaces := #[]
  cf := some (fileOf pool0 8 #[] #[{ accessFlags := 1, nameIndex := 5, descriptorIndex := 6, attributes := #[] }] 33 0 #[] #[])
  fields := #[]
  methods := #[k0m0]
  instanceTypes := #[]
  staticTypes := #[]
  resolved := Array.replicate 124 none
  statics := none }

def pool1 : Array CpInfo := pool [(2, .class_ 4), (1, u "java/lang/Object"), (0, u "<init>"), (0, u "()V"), (2, .long 9223372036854775807), (1, .double 4697254411347427328), (1, .double 8660422083433463808), (1, .integer 2147483647), (0, .methodref 17 18), (0, .class_ 19), (0, .nameAndType 20 21), (0, u "java/lang/String"), (0, u "valueOf"), (0, u "(C)Ljava/lang/String;"), (0, .class_ 23), (0, u "com/example/outpost/outpost/Site"), (0, .methodref 22 25), (0, .nameAndType 5 26), (0, u "(Ljava/lang/String;D)V"), (0, .methodref 22 28), (0, .nameAndType 5 29), (0, u "(Ljava/lang/String;DD)V"), (0, .methodref 22 31), (0, .nameAndType 32 33), (0, u "hasCapacity"), (0, u "()Z"), (0, .class_ 35), (0, u "com/example/outpost/outpost/SiteHasCapacityPinLaw"), (2, u "law"), (0, u "(JIII)Z")] 3

def k1m0 : Method := { name := "<init>", desc := "()V", sig := { parameters := [], returnType := none }, accessFlags := 2, code := none }
def k1c1 : Code := { maxStack := 7, maxLocals := 15, code := code, exceptionTable := #[], attributes := #[] }
def k1m1 : Method := { name := "law", desc := "(JIII)Z", sig := { parameters := [.long, .int, .int, .int], returnType := some .boolean }, accessFlags := 9, code := some k1c1 }
/-- com/example/outpost/outpost/SiteHasCapacityPinLaw -/
def k1 : Class := { plain "com/example/outpost/outpost/SiteHasCapacityPinLaw" (some 0) with
  accessFlags := 49
  interfaces := #[]
  cf := some (fileOf pool1 34 #[] #[{ accessFlags := 2, nameIndex := 5, descriptorIndex := 6, attributes := #[] }, { accessFlags := 9, nameIndex := 38, descriptorIndex := 39, attributes := #[] }] 49 2 #[] #[])
  fields := #[]
  methods := #[k1m0, k1m1]
  instanceTypes := #[]
  staticTypes := #[]
  resolved := Array.replicate 43 none
  statics := none }

def pool2 : Array CpInfo := pool [(1, .class_ 2), (0, u "java/io/Serializable"), (0, .class_ 4), (0, u "java/lang/Object")] 2

/-- java/io/Serializable -/
def k2 : Class := { plain "java/io/Serializable" (some 0) with
  accessFlags := 1537
  interfaces := #[]
  cf := some (fileOf pool2 1 #[] #[] 1537 3 #[] #[])
  fields := #[]
  methods := #[]
  instanceTypes := #[]
  staticTypes := #[]
  resolved := Array.replicate 7 none
  statics := none }

def pool3 : Array CpInfo := pool [(1, .class_ 2), (0, u "java/lang/Comparable"), (0, .class_ 4), (0, u "java/lang/Object")] 7

/-- java/lang/Comparable -/
def k3 : Class := { plain "java/lang/Comparable" (some 0) with
  accessFlags := 1537
  interfaces := #[]
  cf := some (fileOf pool3 1 #[] #[] 1537 3 #[] #[])
  fields := #[]
  methods := #[]
  instanceTypes := #[]
  staticTypes := #[]
  resolved := Array.replicate 12 none
  statics := none }

def pool4 : Array CpInfo := pool [(2, .class_ 4), (1, u "java/lang/CharSequence"), (42, .class_ 48), (0, u "java/lang/CharSequence$1CodePointIterator"), (10, .class_ 60), (0, u "java/lang/CharSequence$1CharIterator"), (5, .class_ 67), (0, u "java/lang/Object")] 63

/-- java/lang/CharSequence -/
def k4 : Class := { plain "java/lang/CharSequence" (some 0) with
  accessFlags := 1537
  interfaces := #[]
  cf := some (fileOf pool4 2 #[.nestMembers #[47, 59]] #[] 1537 66 #[] #[])
  fields := #[]
  methods := #[]
  instanceTypes := #[]
  staticTypes := #[]
  resolved := Array.replicate 131 none
  statics := none }

def pool5 : Array CpInfo := pool [(1, .class_ 2), (0, u "java/lang/constant/Constable"), (0, .class_ 4), (0, u "java/lang/Object")] 6

/-- java/lang/constant/Constable -/
def k5 : Class := { plain "java/lang/constant/Constable" (some 0) with
  accessFlags := 1537
  interfaces := #[]
  cf := some (fileOf pool5 1 #[] #[] 1537 3 #[] #[])
  fields := #[]
  methods := #[]
  instanceTypes := #[]
  staticTypes := #[]
  resolved := Array.replicate 11 none
  statics := none }

def pool6 : Array CpInfo := pool [(1, .class_ 2), (0, u "java/lang/constant/ConstantDesc"), (0, .class_ 4), (0, u "java/lang/Object")] 32

/-- java/lang/constant/ConstantDesc -/
def k6 : Class := { plain "java/lang/constant/ConstantDesc" (some 0) with
  accessFlags := 1537
  interfaces := #[]
  cf := some (fileOf pool6 1 #[] #[] 1537 3 #[] #[])
  fields := #[]
  methods := #[]
  instanceTypes := #[]
  staticTypes := #[]
  resolved := Array.replicate 37 none
  statics := none }

def pool7 : Array CpInfo := pool [(1, .methodref 2 3), (0, .class_ 4), (0, .nameAndType 5 6), (0, u "java/lang/Object"), (0, u "<init>"), (0, u "()V"), (2, .fieldref 10 11), (0, .class_ 12), (0, .nameAndType 13 14), (0, u "java/lang/String"), (0, u "value"), (0, u "[B"), (0, .fieldref 10 16), (0, .nameAndType 17 18), (0, u "coder"), (0, u "B"), (2, u "hash"), (0, u "I"), (2, u "hashIsZero"), (0, u "Z"), (11, .fieldref 10 39), (0, .nameAndType 40 26), (0, u "COMPACT_STRINGS"), (12, u "toBytes"), (53, .class_ 109), (1, u "java/lang/StringLatin1"), (99, .methodref 10 210), (0, .nameAndType 5 211), (0, u "([BB)V"), (157, u "(C)Z"), (205, .class_ 576), (0, u "java/lang/CharSequence"), (22, u "CASE_INSENSITIVE_ORDER"), (0, u "Ljava/util/Comparator;"), (181, u "valueOf"), (0, u "(C)Ljava/lang/String;"), (231, .methodref 107 1016), (0, .nameAndType 1017 369), (0, u "canEncode"), (0, .methodref 107 1019), (0, .nameAndType 53 1020), (0, u "(C)[B"), (80, u "serialPersistentFields"), (0, u "[Ljava/io/ObjectStreamField;"), (0, .class_ 1104), (0, u "java/lang/String$CaseInsensitiveComparator"), (1, .class_ 1107), (0, u "java/io/Serializable"), (0, .class_ 1109), (0, u "java/lang/Comparable"), (0, .class_ 1111), (0, u "java/lang/constant/Constable"), (0, .class_ 1113), (0, u "java/lang/constant/ConstantDesc"), (2, u "serialVersionUID"), (0, u "J"), (3, u "REPL"), (0, u "C"), (2, u "LATIN1"), (1, u "UTF16")] 323

def k7m0 : Method := { name := "<init>", desc := "()V", sig := { parameters := [], returnType := none }, accessFlags := 1, code := none }
def k7c1 : Code := { maxStack := 4, maxLocals := 1, code := jdk_42_method_139_code, exceptionTable := #[], attributes := #[] }
def k7m1 : Method := { name := "valueOf", desc := "(C)Ljava/lang/String;", sig := { parameters := [.char], returnType := some (.object "java/lang/String") }, accessFlags := 9, code := some k7c1 }
def k7c2 : Code := { maxStack := 2, maxLocals := 3, code := jdk_42_method_151_code, exceptionTable := #[], attributes := #[] }
def k7m2 : Method := { name := "<init>", desc := "([BB)V", sig := { parameters := [(.array .byte), .byte], returnType := none }, accessFlags := 0, code := some k7c2 }
/-- java/lang/String -/
def k7 : Class := { plain "java/lang/String" (some 0) with
  accessFlags := 49
  interfaces := #[2, 3, 4, 5, 6]
  cf := some (fileOf pool7 10 #[.nestMembers #[1103]] #[{ accessFlags := 1, nameIndex := 5, descriptorIndex := 6, attributes := #[] }, { accessFlags := 9, nameIndex := 782, descriptorIndex := 783, attributes := #[] }, { accessFlags := 0, nameIndex := 5, descriptorIndex := 211, attributes := #[] }] 49 2 #[1106, 1108, 575, 1110, 1112] #[{ accessFlags := 18, nameIndex := 13, descriptorIndex := 14, attributes := #[] }, { accessFlags := 18, nameIndex := 17, descriptorIndex := 18, attributes := #[] }, { accessFlags := 2, nameIndex := 21, descriptorIndex := 22, attributes := #[] }, { accessFlags := 2, nameIndex := 25, descriptorIndex := 26, attributes := #[] }, { accessFlags := 26, nameIndex := 1116, descriptorIndex := 1117, attributes := #[] }, { accessFlags := 24, nameIndex := 40, descriptorIndex := 26, attributes := #[] }, { accessFlags := 26, nameIndex := 1101, descriptorIndex := 1102, attributes := #[] }, { accessFlags := 26, nameIndex := 1121, descriptorIndex := 1122, attributes := #[] }, { accessFlags := 25, nameIndex := 599, descriptorIndex := 600, attributes := #[] }, { accessFlags := 24, nameIndex := 1125, descriptorIndex := 18, attributes := #[] }, { accessFlags := 24, nameIndex := 1127, descriptorIndex := 18, attributes := #[] }])
  fields := #[{ name := "value", type := (.array .byte), accessFlags := 18, slot := 0, constantValue := 0 }, { name := "coder", type := .byte, accessFlags := 18, slot := 1, constantValue := 0 }, { name := "hash", type := .int, accessFlags := 2, slot := 2, constantValue := 0 }, { name := "hashIsZero", type := .boolean, accessFlags := 2, slot := 3, constantValue := 0 }, { name := "serialVersionUID", type := .long, accessFlags := 26, slot := 0, constantValue := 0 }, { name := "COMPACT_STRINGS", type := .boolean, accessFlags := 24, slot := 1, constantValue := 0 }, { name := "serialPersistentFields", type := (.array (.object "java/io/ObjectStreamField")), accessFlags := 26, slot := 2, constantValue := 0 }, { name := "REPL", type := .char, accessFlags := 26, slot := 3, constantValue := 0 }, { name := "CASE_INSENSITIVE_ORDER", type := (.object "java/util/Comparator"), accessFlags := 25, slot := 4, constantValue := 0 }, { name := "LATIN1", type := .byte, accessFlags := 24, slot := 5, constantValue := 0 }, { name := "UTF16", type := .byte, accessFlags := 24, slot := 6, constantValue := 0 }]
  methods := #[k7m0, k7m1, k7m2]
  instanceTypes := #[(.array .byte), .byte, .int, .boolean]
  staticTypes := #[.long, .boolean, (.array (.object "java/io/ObjectStreamField")), .char, (.object "java/util/Comparator"), .byte, .byte]
  resolved := Array.replicate 1451 none
  statics := some 0 }

def pool8 : Array CpInfo := pool [(4, .class_ 6), (1, u "java/lang/Object"), (0, u "<init>"), (0, u "()V"), (5, .class_ 16), (1, u "java/lang/StringLatin1"), (73, u "canEncode"), (14, u "(C)Z"), (15, u "$assertionsDisabled"), (0, u "Z"), (98, .class_ 223), (1, u "java/lang/StringLatin1$LinesSpliterator"), (156, u "toBytes"), (1, u "(C)[B"), (7, .class_ 391), (0, u "java/lang/StringLatin1$CharsSpliterator")] 3

def k8m0 : Method := { name := "<init>", desc := "()V", sig := { parameters := [], returnType := none }, accessFlags := 0, code := none }
def k8c1 : Code := { maxStack := 2, maxLocals := 1, code := jdk_43_method_3_code, exceptionTable := #[], attributes := #[] }
def k8m1 : Method := { name := "canEncode", desc := "(C)Z", sig := { parameters := [.char], returnType := some .boolean }, accessFlags := 9, code := some k8c1 }
def k8c2 : Code := { maxStack := 4, maxLocals := 1, code := jdk_43_method_46_code, exceptionTable := #[], attributes := #[] }
def k8m2 : Method := { name := "toBytes", desc := "(C)[B", sig := { parameters := [.char], returnType := some (.array .byte) }, accessFlags := 9, code := some k8c2 }
/-- java/lang/StringLatin1 -/
def k8 : Class := { plain "java/lang/StringLatin1" (some 0) with
  accessFlags := 48
  interfaces := #[]
  cf := some (fileOf pool8 14 #[.nestMembers #[390, 221]] #[{ accessFlags := 0, nameIndex := 7, descriptorIndex := 8, attributes := #[] }, { accessFlags := 9, nameIndex := 90, descriptorIndex := 105, attributes := #[] }, { accessFlags := 9, nameIndex := 380, descriptorIndex := 382, attributes := #[] }] 48 4 #[] #[{ accessFlags := 4120, nameIndex := 121, descriptorIndex := 122, attributes := #[] }])
  fields := #[{ name := "$assertionsDisabled", type := .boolean, accessFlags := 4120, slot := 0, constantValue := 0 }]
  methods := #[k8m0, k8m1, k8m2]
  instanceTypes := #[]
  staticTypes := #[.boolean]
  resolved := Array.replicate 395 none
  statics := none }

def pool9 : Array CpInfo := pool [(1, .methodref 2 3), (0, .class_ 4), (0, .nameAndType 5 6), (0, u "java/lang/Object"), (0, u "<init>"), (0, u "()V"), (0, .class_ 8), (0, u "java/lang/Record")] 13

def k9c0 : Code := { maxStack := 1, maxLocals := 1, code := jdk_30_method_1_code, exceptionTable := #[], attributes := #[] }
def k9m0 : Method := { name := "<init>", desc := "()V", sig := { parameters := [], returnType := none }, accessFlags := 4, code := some k9c0 }
/-- java/lang/Record -/
def k9 : Class := { plain "java/lang/Record" (some 0) with
  accessFlags := 1057
  interfaces := #[]
  cf := some (fileOf pool9 7 #[] #[{ accessFlags := 4, nameIndex := 5, descriptorIndex := 6, attributes := #[] }] 1057 2 #[] #[])
  fields := #[]
  methods := #[k9m0]
  instanceTypes := #[]
  staticTypes := #[]
  resolved := Array.replicate 22 none
  statics := none }

def pool10 : Array CpInfo := pool [(1, .methodref 2 3), (0, .class_ 4), (0, .nameAndType 5 6), (0, u "java/lang/Record"), (0, u "<init>"), (0, u "()V"), (0, .string 8), (0, u "id"), (0, .methodref 10 11), (0, .class_ 12), (0, .nameAndType 13 14), (0, u "java/util/Objects"), (0, u "requireNonNull"), (0, u "(Ljava/lang/Object;Ljava/lang/String;)Ljava/lang/Object;"), (0, .string 16), (0, u "opening cost"), (0, .methodref 18 19), (0, .class_ 20), (0, .nameAndType 21 22), (0, u "com/example/outpost/outpost/Amounts"), (0, u "finiteNonNegative"), (0, u "(DLjava/lang/String;)D"), (9, .fieldref 33 34), (0, .class_ 35), (0, .nameAndType 8 36), (0, u "com/example/outpost/outpost/Site"), (0, u "Ljava/lang/String;"), (0, .fieldref 33 38), (0, .nameAndType 39 40), (0, u "openingCost"), (0, u "D"), (0, .fieldref 33 42), (0, .nameAndType 43 40), (0, u "capacity"), (2, .double 9218868437227405312), (1, .methodref 33 49), (0, .nameAndType 5 50), (0, u "(Ljava/lang/String;DD)V"), (18, u "(Ljava/lang/String;D)V"), (0, u "hasCapacity"), (0, u "()Z")] 34

def k10c0 : Code := { maxStack := 4, maxLocals := 6, code := prog_20_method_1_code, exceptionTable := #[], attributes := #[] }
def k10m0 : Method := { name := "<init>", desc := "(Ljava/lang/String;DD)V", sig := { parameters := [(.object "java/lang/String"), .double, .double], returnType := none }, accessFlags := 1, code := some k10c0 }
def k10c1 : Code := { maxStack := 6, maxLocals := 4, code := prog_20_method_2_code, exceptionTable := #[], attributes := #[] }
def k10m1 : Method := { name := "<init>", desc := "(Ljava/lang/String;D)V", sig := { parameters := [(.object "java/lang/String"), .double], returnType := none }, accessFlags := 1, code := some k10c1 }
def k10c2 : Code := { maxStack := 4, maxLocals := 1, code := prog_20_method_3_code, exceptionTable := #[], attributes := #[] }
def k10m2 : Method := { name := "hasCapacity", desc := "()Z", sig := { parameters := [], returnType := some .boolean }, accessFlags := 1, code := some k10c2 }
/-- com/example/outpost/outpost/Site -/
def k10 : Class := { plain "com/example/outpost/outpost/Site" (some 9) with
  accessFlags := 49
  interfaces := #[]
  cf := some (fileOf pool10 33 #[] #[{ accessFlags := 1, nameIndex := 5, descriptorIndex := 50, attributes := #[] }, { accessFlags := 1, nameIndex := 5, descriptorIndex := 69, attributes := #[] }, { accessFlags := 1, nameIndex := 70, descriptorIndex := 71, attributes := #[] }] 49 2 #[] #[{ accessFlags := 18, nameIndex := 8, descriptorIndex := 36, attributes := #[] }, { accessFlags := 18, nameIndex := 39, descriptorIndex := 40, attributes := #[] }, { accessFlags := 18, nameIndex := 43, descriptorIndex := 40, attributes := #[] }])
  fields := #[{ name := "id", type := (.object "java/lang/String"), accessFlags := 18, slot := 0, constantValue := 0 }, { name := "openingCost", type := .double, accessFlags := 18, slot := 1, constantValue := 0 }, { name := "capacity", type := .double, accessFlags := 18, slot := 2, constantValue := 0 }]
  methods := #[k10m0, k10m1, k10m2]
  instanceTypes := #[(.object "java/lang/String"), .double, .double]
  staticTypes := #[]
  resolved := Array.replicate 106 none
  statics := none }

def pool11 : Array CpInfo := pool [(2, .class_ 4), (1, u "java/lang/Object"), (0, u "<init>"), (0, u "()V"), (35, .class_ 44), (1, u "java/util/Objects"), (0, u "requireNonNull"), (48, u "(Ljava/lang/Object;Ljava/lang/String;)Ljava/lang/Object;")] 89

def k11m0 : Method := { name := "<init>", desc := "()V", sig := { parameters := [], returnType := none }, accessFlags := 2, code := none }
def k11c1 : Code := { maxStack := 3, maxLocals := 2, code := jdk_31_method_11_code, exceptionTable := #[], attributes := #[] }
def k11m1 : Method := { name := "requireNonNull", desc := "(Ljava/lang/Object;Ljava/lang/String;)Ljava/lang/Object;", sig := { parameters := [(.object "java/lang/Object"), (.object "java/lang/String")], returnType := some (.object "java/lang/Object") }, accessFlags := 9, code := some k11c1 }
/-- java/util/Objects -/
def k11 : Class := { plain "java/util/Objects" (some 0) with
  accessFlags := 49
  interfaces := #[]
  cf := some (fileOf pool11 42 #[] #[{ accessFlags := 2, nameIndex := 5, descriptorIndex := 6, attributes := #[] }, { accessFlags := 9, nameIndex := 45, descriptorIndex := 94, attributes := #[] }] 49 2 #[] #[])
  fields := #[]
  methods := #[k11m0, k11m1]
  instanceTypes := #[]
  staticTypes := #[]
  resolved := Array.replicate 184 none
  statics := none }

def pool12 : Array CpInfo := pool [(2, .class_ 4), (1, u "java/lang/Object"), (0, u "<init>"), (0, u "()V"), (2, .double 9218868437227405312), (10, .class_ 21), (0, u "com/example/outpost/outpost/Amounts"), (2, u "finiteNonNegative"), (0, u "(DLjava/lang/String;)D")] 18

def k12m0 : Method := { name := "<init>", desc := "()V", sig := { parameters := [], returnType := none }, accessFlags := 2, code := none }
def k12c1 : Code := { maxStack := 5, maxLocals := 3, code := prog_2_method_2_code, exceptionTable := #[], attributes := #[] }
def k12m1 : Method := { name := "finiteNonNegative", desc := "(DLjava/lang/String;)D", sig := { parameters := [.double, (.object "java/lang/String")], returnType := some .double }, accessFlags := 8, code := some k12c1 }
/-- com/example/outpost/outpost/Amounts -/
def k12 : Class := { plain "com/example/outpost/outpost/Amounts" (some 0) with
  accessFlags := 48
  interfaces := #[]
  cf := some (fileOf pool12 20 #[] #[{ accessFlags := 2, nameIndex := 5, descriptorIndex := 6, attributes := #[] }, { accessFlags := 8, nameIndex := 24, descriptorIndex := 25, attributes := #[] }] 48 2 #[] #[])
  fields := #[]
  methods := #[k12m0, k12m1]
  instanceTypes := #[]
  staticTypes := #[]
  resolved := Array.replicate 44 none
  statics := none }

def pool13 : Array CpInfo := pool [(2, .class_ 4), (1, u "java/lang/Object"), (0, u "<init>"), (0, u "()V"), (17, .class_ 26), (1, u "jdk/internal/util/Preconditions"), (28, .class_ 56), (0, u "jdk/internal/util/Preconditions$4"), (57, .class_ 115), (0, u "jdk/internal/util/Preconditions$1"), (7, u "SIOOBE_FORMATTER"), (0, u "Ljava/util/function/BiFunction;"), (0, .class_ 126), (0, u "jdk/internal/util/Preconditions$2"), (3, u "AIOOBE_FORMATTER"), (0, .class_ 132), (0, u "jdk/internal/util/Preconditions$3"), (3, u "IOOBE_FORMATTER")] 57

def k13m0 : Method := { name := "<init>", desc := "()V", sig := { parameters := [], returnType := none }, accessFlags := 1, code := none }
/-- jdk/internal/util/Preconditions -/
def k13 : Class := { plain "jdk/internal/util/Preconditions" (some 0) with
  accessFlags := 33
  interfaces := #[]
  cf := some (fileOf pool13 24 #[.nestMembers #[55, 131, 125, 114]] #[{ accessFlags := 1, nameIndex := 5, descriptorIndex := 6, attributes := #[] }] 33 2 #[] #[{ accessFlags := 25, nameIndex := 123, descriptorIndex := 124, attributes := #[] }, { accessFlags := 25, nameIndex := 130, descriptorIndex := 124, attributes := #[] }, { accessFlags := 25, nameIndex := 136, descriptorIndex := 124, attributes := #[] }])
  fields := #[{ name := "SIOOBE_FORMATTER", type := (.object "java/util/function/BiFunction"), accessFlags := 25, slot := 0, constantValue := 0 }, { name := "AIOOBE_FORMATTER", type := (.object "java/util/function/BiFunction"), accessFlags := 25, slot := 1, constantValue := 0 }, { name := "IOOBE_FORMATTER", type := (.object "java/util/function/BiFunction"), accessFlags := 25, slot := 2, constantValue := 0 }]
  methods := #[k13m0]
  instanceTypes := #[]
  staticTypes := #[(.object "java/util/function/BiFunction"), (.object "java/util/function/BiFunction"), (.object "java/util/function/BiFunction")]
  resolved := Array.replicate 194 none
  statics := some 1 }

def pool14 : Array CpInfo := pool [(9, u "<init>"), (6, .class_ 18), (1, u "java/lang/Object"), (0, u "()V"), (1, .class_ 23), (1, u "jdk/internal/util/ArraysSupport"), (0, u "LOG2_ARRAY_LONG_INDEX_SCALE"), (0, u "I"), (2, u "U"), (0, u "Ljdk/internal/misc/Unsafe;"), (8, u "BIG_ENDIAN"), (0, u "Z"), (8, u "LOG2_BYTE_BIT_SIZE"), (4, u "LOG2_ARRAY_INT_INDEX_SCALE"), (54, u "JLA"), (0, u "Ljdk/internal/access/JavaLangAccess;"), (11, u "LOG2_ARRAY_BOOLEAN_INDEX_SCALE"), (9, u "LOG2_ARRAY_BYTE_INDEX_SCALE"), (5, u "LOG2_ARRAY_CHAR_INDEX_SCALE"), (5, u "LOG2_ARRAY_SHORT_INDEX_SCALE"), (18, u "LOG2_ARRAY_FLOAT_INDEX_SCALE"), (24, u "LOG2_ARRAY_DOUBLE_INDEX_SCALE"), (89, u "T_BOOLEAN"), (2, u "T_CHAR"), (1, u "T_FLOAT"), (1, u "T_DOUBLE"), (1, u "T_BYTE"), (1, u "T_SHORT"), (1, u "T_INT"), (1, u "T_LONG"), (1, u "SOFT_MAX_ARRAY_LENGTH")] 83

def k14m0 : Method := { name := "<init>", desc := "()V", sig := { parameters := [], returnType := none }, accessFlags := 2, code := none }
/-- jdk/internal/util/ArraysSupport -/
def k14 : Class := { plain "jdk/internal/util/ArraysSupport" (some 0) with
  accessFlags := 33
  interfaces := #[]
  cf := some (fileOf pool14 21 #[] #[{ accessFlags := 2, nameIndex := 9, descriptorIndex := 19, attributes := #[] }] 33 16 #[] #[{ accessFlags := 24, nameIndex := 28, descriptorIndex := 29, attributes := #[] }, { accessFlags := 26, nameIndex := 38, descriptorIndex := 39, attributes := #[] }, { accessFlags := 25, nameIndex := 121, descriptorIndex := 25, attributes := #[] }, { accessFlags := 25, nameIndex := 131, descriptorIndex := 25, attributes := #[] }, { accessFlags := 25, nameIndex := 137, descriptorIndex := 25, attributes := #[] }, { accessFlags := 25, nameIndex := 143, descriptorIndex := 25, attributes := #[] }, { accessFlags := 25, nameIndex := 53, descriptorIndex := 25, attributes := #[] }, { accessFlags := 25, nameIndex := 24, descriptorIndex := 25, attributes := #[] }, { accessFlags := 25, nameIndex := 162, descriptorIndex := 25, attributes := #[] }, { accessFlags := 25, nameIndex := 187, descriptorIndex := 25, attributes := #[] }, { accessFlags := 26, nameIndex := 48, descriptorIndex := 25, attributes := #[] }, { accessFlags := 25, nameIndex := 277, descriptorIndex := 25, attributes := #[] }, { accessFlags := 25, nameIndex := 280, descriptorIndex := 25, attributes := #[] }, { accessFlags := 25, nameIndex := 282, descriptorIndex := 25, attributes := #[] }, { accessFlags := 25, nameIndex := 284, descriptorIndex := 25, attributes := #[] }, { accessFlags := 25, nameIndex := 286, descriptorIndex := 25, attributes := #[] }, { accessFlags := 25, nameIndex := 288, descriptorIndex := 25, attributes := #[] }, { accessFlags := 25, nameIndex := 290, descriptorIndex := 25, attributes := #[] }, { accessFlags := 25, nameIndex := 292, descriptorIndex := 25, attributes := #[] }, { accessFlags := 26, nameIndex := 108, descriptorIndex := 109, attributes := #[] }, { accessFlags := 25, nameIndex := 294, descriptorIndex := 25, attributes := #[] }])
  fields := #[{ name := "U", type := (.object "jdk/internal/misc/Unsafe"), accessFlags := 24, slot := 0, constantValue := 0 }, { name := "BIG_ENDIAN", type := .boolean, accessFlags := 26, slot := 1, constantValue := 0 }, { name := "LOG2_ARRAY_BOOLEAN_INDEX_SCALE", type := .int, accessFlags := 25, slot := 2, constantValue := 0 }, { name := "LOG2_ARRAY_BYTE_INDEX_SCALE", type := .int, accessFlags := 25, slot := 3, constantValue := 0 }, { name := "LOG2_ARRAY_CHAR_INDEX_SCALE", type := .int, accessFlags := 25, slot := 4, constantValue := 0 }, { name := "LOG2_ARRAY_SHORT_INDEX_SCALE", type := .int, accessFlags := 25, slot := 5, constantValue := 0 }, { name := "LOG2_ARRAY_INT_INDEX_SCALE", type := .int, accessFlags := 25, slot := 6, constantValue := 0 }, { name := "LOG2_ARRAY_LONG_INDEX_SCALE", type := .int, accessFlags := 25, slot := 7, constantValue := 0 }, { name := "LOG2_ARRAY_FLOAT_INDEX_SCALE", type := .int, accessFlags := 25, slot := 8, constantValue := 0 }, { name := "LOG2_ARRAY_DOUBLE_INDEX_SCALE", type := .int, accessFlags := 25, slot := 9, constantValue := 0 }, { name := "LOG2_BYTE_BIT_SIZE", type := .int, accessFlags := 26, slot := 10, constantValue := 0 }, { name := "T_BOOLEAN", type := .int, accessFlags := 25, slot := 11, constantValue := 0 }, { name := "T_CHAR", type := .int, accessFlags := 25, slot := 12, constantValue := 0 }, { name := "T_FLOAT", type := .int, accessFlags := 25, slot := 13, constantValue := 0 }, { name := "T_DOUBLE", type := .int, accessFlags := 25, slot := 14, constantValue := 0 }, { name := "T_BYTE", type := .int, accessFlags := 25, slot := 15, constantValue := 0 }, { name := "T_SHORT", type := .int, accessFlags := 25, slot := 16, constantValue := 0 }, { name := "T_INT", type := .int, accessFlags := 25, slot := 17, constantValue := 0 }, { name := "T_LONG", type := .int, accessFlags := 25, slot := 18, constantValue := 0 }, { name := "JLA", type := (.object "jdk/internal/access/JavaLangAccess"), accessFlags := 26, slot := 19, constantValue := 0 }, { name := "SOFT_MAX_ARRAY_LENGTH", type := .int, accessFlags := 25, slot := 20, constantValue := 0 }]
  methods := #[k14m0]
  instanceTypes := #[]
  staticTypes := #[(.object "jdk/internal/misc/Unsafe"), .boolean, .int, .int, .int, .int, .int, .int, .int, .int, .int, .int, .int, .int, .int, .int, .int, .int, .int, (.object "jdk/internal/access/JavaLangAccess"), .int]
  resolved := Array.replicate 378 none
  statics := none }

def pool15 : Array CpInfo := pool [(1, u "java/lang/Cloneable"), (0, .class_ 1), (0, u "java/lang/Object"), (0, .class_ 3)] 3

/-- java/lang/Cloneable -/
def k15 : Class := { plain "java/lang/Cloneable" (some 0) with
  accessFlags := 1537
  interfaces := #[]
  cf := some (fileOf pool15 2 #[] #[] 1537 4 #[] #[])
  fields := #[]
  methods := #[]
  instanceTypes := #[]
  staticTypes := #[]
  resolved := Array.replicate 8 none
  statics := none }

/-- the primitive byte -/
def k16 : Class := { plain "byte" none with kind := .primitive 'B', accessFlags := 0x411 }
/-- [B -/
def k17 : Class := { plain "[B" (some 0) with kind := .array 16 .byte, interfaces := #[15, 2], accessFlags := 1041 }

/-- the primitive int -/
def k18 : Class := { plain "int" none with kind := .primitive 'I', accessFlags := 0x411 }
/-- [I -/
def k19 : Class := { plain "[I" (some 0) with kind := .array 18 .int, interfaces := #[15, 2], accessFlags := 1041 }

def heap : Heap := #[{ cls := 7, slots := #[.long 0, .int 1, .null, .int 0, .null, .int 0, .int 0], vm := .statics 7 },
  { cls := 13, slots := #[.null, .null, .null], vm := .statics 13 }]
def classes : Array Class := #[k0, k1, k2, k3, k4, k5, k6, k7, k8, k9, k10, k11, k12, k13, k14, k15, k16, k17, k18, k19]
def interned : List (Array UInt16 × Addr) := []
def slotsUsed : Nat := 10
def theMethod : MethodId := ⟨1, 1⟩
def args0 : Array Value := #[.long 5, .int 7, .int 3, .int 7]
def aboutOver (below : List Frame) : State where
  vm := { classes := classes, interned := interned.toArray }
  heap := heap
  slotsUsed := slotsUsed
  threads := #[{ frames := .invoking theMethod args0 :: below }]
def below0 : List Frame := [.native { method := ⟨0, 0⟩, args := #[] }]
def about1 : State := aboutOver below0
def p0 : Program := .bare "" "" ""
def e0 : Env := launch0.env 0 0 0
theorem w_frames : about1.frames = Frame.invoking theMethod args0 :: below0 := rfl
set_option maxRecDepth 65536 in
theorem w_args : argsFit about1.vm theMethod args0 = true := by decide +kernel
set_option maxRecDepth 65536 in
theorem w_heap : heapFits about1 = true := by decide +kernel
set_option maxRecDepth 65536 in
theorem w_runnable : about1.curStatus? = some .runnable := by decide +kernel
set_option maxRecDepth 65536 in
theorem w_alone : about1.alone = true := by decide +kernel
set_option maxRecDepth 65536 in
theorem w_named : about1.methodNamed? x = some theMethod := by decide +kernel
set_option maxRecDepth 65536 in
theorem w_hears : about1.hears theMethod below0 = true := by decide +kernel
set_option maxRecDepth 65536 in
theorem w_ripe : about1.ripe theMethod args0 below0 = true := by decide +kernel
theorem w_running : about1.status = .running := rfl
set_option maxRecDepth 65536 in
theorem w_room : about1.hasRoom e0.platform room_1 = true :=
  launch0.hasRoom_least _ room_1 (by decide +kernel) (by decide +kernel) (by decide +kernel) (by decide +kernel) (by decide +kernel) (by decide +kernel)
theorem allAtoms_all (ts : List Jvm.Cond) (a : Array Jvm.Value) (st : Jvm.State) : (allAtoms ts).before a st = ts.all (fun c => c.before a st) := by
  induction ts with
  | nil => rfl
  | cons c t ih =>
    show (Jvm.Cond.and c (allAtoms t)).before a st = _
    rw [Jvm.Cond.before_and, ih, List.all_cons]
def words1 : List Jvm.Cond := Jvm.Cond.code x code maxLocals ret :: tables_1
/-- a 'code' word, met by the world's own term for the bytes: nothing is compared byte by byte -/
theorem code_word {y : MethodName} {bytes : ByteArray} {mx : Nat} {rt : Option FieldType} {a : Array Value} {s : State} {m : MethodId} {meth : Method} {c : Code} (h1 : s.methodNamed? y = some m) (h2 : s.vm.method? m = some meth) (h3 : meth.code = some c) (h4 : c.code = bytes)
    (h5 : (c.maxLocals == mx && c.exceptionTable.isEmpty && decide (c.maxStack ≤ mostOperands) && decide (meth.sig.returnType = rt) && !meth.locks && decide (parseMethodDescriptor y.desc = some meth.sig)) = true) : (Jvm.Cond.code y bytes mx rt).before a s = true := by
  simp only [Bool.and_eq_true, beq_iff_eq, Bool.not_eq_true', decide_eq_true_eq] at h5
  obtain ⟨⟨⟨⟨⟨g1, g2⟩, g3⟩, g4⟩, g5⟩, g6⟩ := h5
  simp [Cond.before, Cond.holds, Cond.value, h1, h2, h3, h4, g1, g2, g3, g4, g5, g6]
def isCode : Jvm.Cond → Bool
  | .code _ _ _ _ => true
  | _ => false
theorem all_split {L : List Jvm.Cond} {P : Jvm.Cond → Bool} (h1 : L.all (fun c => isCode c || P c) = true) (h2 : ∀ c ∈ L.filter isCode, P c = true) : L.all P = true := by
  refine List.all_eq_true.mpr fun c hc => ?_
  have h := List.all_eq_true.mp h1 c hc
  rcases Bool.eq_false_or_eq_true (isCode c) with hi | hi
  · exact h2 c (List.mem_filter.mpr ⟨hc, hi⟩)
  · simpa [hi] using h
set_option maxRecDepth 65536 in
theorem w_c0 : (Jvm.Cond.code x code maxLocals ret).before args0 about1 = true := code_word (m := ⟨1, 1⟩) (meth := k1m1) (c := k1c1) (by decide +kernel) rfl rfl rfl (by decide +kernel)
set_option maxRecDepth 65536 in
theorem w_c1 : (Jvm.Cond.code ({ cls := "java/lang/String", name := "valueOf", desc := "(C)Ljava/lang/String;" } : Jvm.MethodName) jdk_42_method_139_code (1 : Nat) (Option.some (Jvm.ClassFile.FieldType.object "java/lang/String"))).before args0 about1 = true := code_word (m := ⟨7, 1⟩) (meth := k7m1) (c := k7c1) (by decide +kernel) rfl rfl rfl (by decide +kernel)
set_option maxRecDepth 65536 in
theorem w_c2 : (Jvm.Cond.code ({ cls := "java/lang/StringLatin1", name := "canEncode", desc := "(C)Z" } : Jvm.MethodName) jdk_43_method_3_code (1 : Nat) (Option.some Jvm.ClassFile.FieldType.boolean)).before args0 about1 = true := code_word (m := ⟨8, 1⟩) (meth := k8m1) (c := k8c1) (by decide +kernel) rfl rfl rfl (by decide +kernel)
set_option maxRecDepth 65536 in
theorem w_c3 : (Jvm.Cond.code ({ cls := "java/lang/StringLatin1", name := "toBytes", desc := "(C)[B" } : Jvm.MethodName) jdk_43_method_46_code (1 : Nat) (Option.some (Jvm.ClassFile.FieldType.array Jvm.ClassFile.FieldType.byte))).before args0 about1 = true := code_word (m := ⟨8, 2⟩) (meth := k8m2) (c := k8c2) (by decide +kernel) rfl rfl rfl (by decide +kernel)
set_option maxRecDepth 65536 in
theorem w_c4 : (Jvm.Cond.code ({ cls := "java/lang/String", name := "<init>", desc := "([BB)V" } : Jvm.MethodName) jdk_42_method_151_code (3 : Nat) (Option.none : Option Jvm.ClassFile.FieldType)).before args0 about1 = true := code_word (m := ⟨7, 2⟩) (meth := k7m2) (c := k7c2) (by decide +kernel) rfl rfl rfl (by decide +kernel)
set_option maxRecDepth 65536 in
theorem w_c5 : (Jvm.Cond.code ({ cls := "java/lang/Object", name := "<init>", desc := "()V" } : Jvm.MethodName) object_method_1_code (1 : Nat) (Option.none : Option Jvm.ClassFile.FieldType)).before args0 about1 = true := code_word (m := ⟨0, 0⟩) (meth := k0m0) (c := k0c0) (by decide +kernel) rfl rfl rfl (by decide +kernel)
set_option maxRecDepth 65536 in
theorem w_c6 : (Jvm.Cond.code ({ cls := "com/example/outpost/outpost/Site", name := "<init>", desc := "(Ljava/lang/String;DD)V" } : Jvm.MethodName) prog_20_method_1_code (6 : Nat) (Option.none : Option Jvm.ClassFile.FieldType)).before args0 about1 = true := code_word (m := ⟨10, 0⟩) (meth := k10m0) (c := k10c0) (by decide +kernel) rfl rfl rfl (by decide +kernel)
set_option maxRecDepth 65536 in
theorem w_c7 : (Jvm.Cond.code ({ cls := "java/lang/Record", name := "<init>", desc := "()V" } : Jvm.MethodName) jdk_30_method_1_code (1 : Nat) (Option.none : Option Jvm.ClassFile.FieldType)).before args0 about1 = true := code_word (m := ⟨9, 0⟩) (meth := k9m0) (c := k9c0) (by decide +kernel) rfl rfl rfl (by decide +kernel)
set_option maxRecDepth 65536 in
theorem w_c8 : (Jvm.Cond.code ({ cls := "java/util/Objects", name := "requireNonNull", desc := "(Ljava/lang/Object;Ljava/lang/String;)Ljava/lang/Object;" } : Jvm.MethodName) jdk_31_method_11_code (2 : Nat) (Option.some (Jvm.ClassFile.FieldType.object "java/lang/Object"))).before args0 about1 = true := code_word (m := ⟨11, 1⟩) (meth := k11m1) (c := k11c1) (by decide +kernel) rfl rfl rfl (by decide +kernel)
set_option maxRecDepth 65536 in
theorem w_c9 : (Jvm.Cond.code ({ cls := "com/example/outpost/outpost/Amounts", name := "finiteNonNegative", desc := "(DLjava/lang/String;)D" } : Jvm.MethodName) prog_2_method_2_code (3 : Nat) (Option.some Jvm.ClassFile.FieldType.double)).before args0 about1 = true := code_word (m := ⟨12, 1⟩) (meth := k12m1) (c := k12c1) (by decide +kernel) rfl rfl rfl (by decide +kernel)
set_option maxRecDepth 65536 in
theorem w_c10 : (Jvm.Cond.code ({ cls := "com/example/outpost/outpost/Site", name := "hasCapacity", desc := "()Z" } : Jvm.MethodName) prog_20_method_3_code (1 : Nat) (Option.some Jvm.ClassFile.FieldType.boolean)).before args0 about1 = true := code_word (m := ⟨10, 2⟩) (meth := k10m2) (c := k10c2) (by decide +kernel) rfl rfl rfl (by decide +kernel)
set_option maxRecDepth 65536 in
theorem w_c11 : (Jvm.Cond.code ({ cls := "com/example/outpost/outpost/Site", name := "<init>", desc := "(Ljava/lang/String;D)V" } : Jvm.MethodName) prog_20_method_2_code (4 : Nat) (Option.none : Option Jvm.ClassFile.FieldType)).before args0 about1 = true := code_word (m := ⟨10, 1⟩) (meth := k10m1) (c := k10c1) (by decide +kernel) rfl rfl rfl (by decide +kernel)
def codes1 : List Jvm.Cond := [Jvm.Cond.code x code maxLocals ret, Jvm.Cond.code ({ cls := "java/lang/String", name := "valueOf", desc := "(C)Ljava/lang/String;" } : Jvm.MethodName) jdk_42_method_139_code (1 : Nat) (Option.some (Jvm.ClassFile.FieldType.object "java/lang/String")), Jvm.Cond.code ({ cls := "java/lang/StringLatin1", name := "canEncode", desc := "(C)Z" } : Jvm.MethodName) jdk_43_method_3_code (1 : Nat) (Option.some Jvm.ClassFile.FieldType.boolean), Jvm.Cond.code ({ cls := "java/lang/StringLatin1", name := "toBytes", desc := "(C)[B" } : Jvm.MethodName) jdk_43_method_46_code (1 : Nat) (Option.some (Jvm.ClassFile.FieldType.array Jvm.ClassFile.FieldType.byte)), Jvm.Cond.code ({ cls := "java/lang/String", name := "<init>", desc := "([BB)V" } : Jvm.MethodName) jdk_42_method_151_code (3 : Nat) (Option.none : Option Jvm.ClassFile.FieldType), Jvm.Cond.code ({ cls := "java/lang/Object", name := "<init>", desc := "()V" } : Jvm.MethodName) object_method_1_code (1 : Nat) (Option.none : Option Jvm.ClassFile.FieldType), Jvm.Cond.code ({ cls := "com/example/outpost/outpost/Site", name := "<init>", desc := "(Ljava/lang/String;DD)V" } : Jvm.MethodName) prog_20_method_1_code (6 : Nat) (Option.none : Option Jvm.ClassFile.FieldType), Jvm.Cond.code ({ cls := "java/lang/Record", name := "<init>", desc := "()V" } : Jvm.MethodName) jdk_30_method_1_code (1 : Nat) (Option.none : Option Jvm.ClassFile.FieldType), Jvm.Cond.code ({ cls := "java/util/Objects", name := "requireNonNull", desc := "(Ljava/lang/Object;Ljava/lang/String;)Ljava/lang/Object;" } : Jvm.MethodName) jdk_31_method_11_code (2 : Nat) (Option.some (Jvm.ClassFile.FieldType.object "java/lang/Object")), Jvm.Cond.code ({ cls := "com/example/outpost/outpost/Amounts", name := "finiteNonNegative", desc := "(DLjava/lang/String;)D" } : Jvm.MethodName) prog_2_method_2_code (3 : Nat) (Option.some Jvm.ClassFile.FieldType.double), Jvm.Cond.code ({ cls := "com/example/outpost/outpost/Site", name := "hasCapacity", desc := "()Z" } : Jvm.MethodName) prog_20_method_3_code (1 : Nat) (Option.some Jvm.ClassFile.FieldType.boolean), Jvm.Cond.code ({ cls := "com/example/outpost/outpost/Site", name := "<init>", desc := "(Ljava/lang/String;D)V" } : Jvm.MethodName) prog_20_method_2_code (4 : Nat) (Option.none : Option Jvm.ClassFile.FieldType)]
set_option maxRecDepth 65536 in
theorem codes_eq : words1.filter isCode = codes1 := rfl
theorem w_codes : ∀ c ∈ words1.filter isCode, c.before args0 about1 = true := by
  rw [codes_eq]
  intro c hc
  simp only [codes1, List.mem_cons, List.not_mem_nil, or_false] at hc
  rcases hc with rfl | rfl | rfl | rfl | rfl | rfl | rfl | rfl | rfl | rfl | rfl | rfl
  · exact w_c0
  · exact w_c1
  · exact w_c2
  · exact w_c3
  · exact w_c4
  · exact w_c5
  · exact w_c6
  · exact w_c7
  · exact w_c8
  · exact w_c9
  · exact w_c10
  · exact w_c11
set_option maxRecDepth 65536 in
theorem w_t1 : (words1.take 24).all (fun c => isCode c || c.before args0 about1) = true := by decide +kernel
set_option maxRecDepth 65536 in
theorem w_t2 : ((words1.drop 24).take 24).all (fun c => isCode c || c.before args0 about1) = true := by decide +kernel
set_option maxRecDepth 65536 in
theorem w_t3 : ((words1.drop 24).drop 24).all (fun c => isCode c || c.before args0 about1) = true := by decide +kernel
theorem w_tables : (allAtoms (Jvm.Cond.code x code maxLocals ret :: tables_1)).before args0 about1 = true := by
  rw [allAtoms_all]
  show words1.all (fun c => c.before args0 about1) = true
  refine all_split ?_ w_codes
  rw [← List.take_append_drop 24 words1, List.all_append, w_t1, ← List.take_append_drop 24 (words1.drop 24), List.all_append, w_t2, w_t3]
  rfl
set_option maxRecDepth 65536 in
theorem w_rest : rest_1_c.before args0 about1 = true := by decide +kernel
set_option maxRecDepth 65536 in
theorem w_case : (Jvm.Cond.and given_1 narrow_1).before args0 about1 = true := by decide +kernel
theorem w_applies : (headSpec (Jvm.Cond.code x code maxLocals ret :: tables_1) room_1).applies x e0.platform about1 = true :=
  (Spec.applies_iff w_frames).mpr ⟨w_running, w_runnable, w_alone, w_named, w_hears, w_ripe, w_room, w_tables⟩
theorem atStart : AtStart classFile x code maxLocals ret World_1 tables_1 room_1 Calls_1 rest_1 Pre_1 launch0 p0 e0 about1 theMethod args0 below0 :=
  ⟨lists_1, trivial, launch0.admits_env _ _ _, launch0.least_env, fairChoices_fair.cas, fairChoices_fair.clock, w_frames, w_args, w_heap, w_applies, trivial, w_rest, w_case⟩
end start1
theorem witness_1 : WitnessClaimed_1 := ⟨start1.p0, start1.e0, start1.about1, start1.theMethod, start1.args0, start1.below0, start1.atStart⟩
end Jvm.Pilot.@@N@@
