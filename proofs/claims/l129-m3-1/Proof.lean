import JvmDerived
import JvmDerived.Pilot.@@N@@Statement
import JvmDerived.Pilot.@@N@@Code
set_option linter.unusedVariables false
set_option linter.unusedSimpArgs false
@@BLOCK:NumsL.lean.txt@@
namespace Jvm.RoadKit
open Sem ClassFile Op Lib Jvm.Stand Jvm.Free Jvm.LawKit
section OwnSteps
variable {tb : Tables} [Ours tb] {e : Env} {below : List Frame} {T target : State} {m : MethodId} {c : Code} {g : JFrame}
theorem own_dloadN (h : At T m c below) (hx : tb.exec = Jvm.exec) (hg : g.method = m) {k : Fin 4} {v : UInt64} (hd : decode c.code g.pc = .ok (.dload_n k, 1)) (hl : g.locals[k.val]? = some (.val (.double v)))
    (hr : Steps tb e below (T.setTop { g with pc := g.pc + 1, stack := .double v :: g.stack }) target) : Steps tb e below (T.setTop g) target := by
  subst hg
  jvm_step h [h.top, hx, hd, hl]
  exact hr
theorem own_dload (h : At T m c below) (hx : tb.exec = Jvm.exec) (hg : g.method = m) {k : Nat} {v : UInt64} (hd : decode c.code g.pc = .ok (.dload k, 2)) (hl : g.locals[k]? = some (.val (.double v)))
    (hr : Steps tb e below (T.setTop { g with pc := g.pc + 2, stack := .double v :: g.stack }) target) : Steps tb e below (T.setTop g) target := by
  subst hg
  jvm_step h [h.top, hx, hd, hl]
  exact hr
theorem own_dstoreN (h : At T m c below) (hx : tb.exec = Jvm.exec) (hg : g.method = m) {k : Fin 4} {x : UInt64} {rest : List Value} {l' : Array Slot} (hd : decode c.code g.pc = .ok (.dstore_n k, 1)) (hs : g.stack = .double x :: rest) (hl : storeLocals g.locals k.val (.double x) = some l')
    (hr : Steps tb e below (T.setTop { g with pc := g.pc + 1, stack := rest, locals := l' }) target) : Steps tb e below (T.setTop g) target := by
  subst hg
  jvm_step h [h.top, hx, hd, hs, hl]
  exact hr
theorem own_dstore (h : At T m c below) (hx : tb.exec = Jvm.exec) (hg : g.method = m) {k : Nat} {x : UInt64} {rest : List Value} {l' : Array Slot} (hd : decode c.code g.pc = .ok (.dstore k, 2)) (hs : g.stack = .double x :: rest) (hl : storeLocals g.locals k (.double x) = some l')
    (hr : Steps tb e below (T.setTop { g with pc := g.pc + 2, stack := rest, locals := l' }) target) : Steps tb e below (T.setTop g) target := by
  subst hg
  jvm_step h [h.top, hx, hd, hs, hl]
  exact hr
theorem own_i2d (h : At T m c below) (hx : tb.exec = Jvm.exec) (hg : g.method = m) {x : Int32} {rest : List Value} (hd : decode c.code g.pc = .ok (.i2d, 1)) (hs : g.stack = .int x :: rest)
    (hr : Steps tb e below (T.setTop { g with pc := g.pc + 1, stack := .double (FP.i2d x) :: rest }) target) : Steps tb e below (T.setTop g) target := by
  subst hg
  jvm_step h [h.top, hx, hd, hs]
  exact hr
theorem own_l2d (h : At T m c below) (hx : tb.exec = Jvm.exec) (hg : g.method = m) {x : Int64} {rest : List Value} (hd : decode c.code g.pc = .ok (.l2d, 1)) (hs : g.stack = .long x :: rest)
    (hr : Steps tb e below (T.setTop { g with pc := g.pc + 1, stack := .double (FP.l2d x) :: rest }) target) : Steps tb e below (T.setTop g) target := by
  subst hg
  jvm_step h [h.top, hx, hd, hs]
  exact hr
theorem own_d2l (h : At T m c below) (hx : tb.exec = Jvm.exec) (hg : g.method = m) {x : UInt64} {rest : List Value} (hd : decode c.code g.pc = .ok (.d2l, 1)) (hs : g.stack = .double x :: rest)
    (hr : Steps tb e below (T.setTop { g with pc := g.pc + 1, stack := .long (FP.d2l x) :: rest }) target) : Steps tb e below (T.setTop g) target := by
  subst hg
  jvm_step h [h.top, hx, hd, hs]
  exact hr
theorem own_d2i (h : At T m c below) (hx : tb.exec = Jvm.exec) (hg : g.method = m) {x : UInt64} {rest : List Value} (hd : decode c.code g.pc = .ok (.d2i, 1)) (hs : g.stack = .double x :: rest)
    (hr : Steps tb e below (T.setTop { g with pc := g.pc + 1, stack := .int (FP.d2i x) :: rest }) target) : Steps tb e below (T.setTop g) target := by
  subst hg
  jvm_step h [h.top, hx, hd, hs]
  exact hr
theorem own_dneg (h : At T m c below) (hx : tb.exec = Jvm.exec) (hg : g.method = m) {x : UInt64} {rest : List Value} (hd : decode c.code g.pc = .ok (.dneg, 1)) (hs : g.stack = .double x :: rest)
    (hr : Steps tb e below (T.setTop { g with pc := g.pc + 1, stack := .double (FP.dneg x) :: rest }) target) : Steps tb e below (T.setTop g) target := by
  subst hg
  jvm_step h [h.top, hx, hd, hs]
  exact hr
theorem own_dcmp (h : At T m c below) (hx : tb.exec = Jvm.exec) (hg : g.method = m) {op : CmpOp} {x y : UInt64} {rest : List Value} (hd : decode c.code g.pc = .ok (.dcmp op, 1)) (hs : g.stack = .double y :: .double x :: rest)
    (hr : Steps tb e below (T.setTop { g with pc := g.pc + 1, stack := .int (cmpValue (FP.dcmp x y) op) :: rest }) target) : Steps tb e below (T.setTop g) target := by
  subst hg
  jvm_step h [h.top, hx, hd, hs]
  exact hr
theorem own_dconst0 (h : At T m c below) (hx : tb.exec = Jvm.exec) (hg : g.method = m) (hd : decode c.code g.pc = .ok (.dconst 0, 1))
    (hr : Steps tb e below (T.setTop { g with pc := g.pc + 1, stack := .double (0 : UInt64) :: g.stack }) target) : Steps tb e below (T.setTop g) target := by
  subst hg
  jvm_step h [h.top, hx, hd]
  exact hr
theorem own_dconst1 (h : At T m c below) (hx : tb.exec = Jvm.exec) (hg : g.method = m) (hd : decode c.code g.pc = .ok (.dconst 1, 1))
    (hr : Steps tb e below (T.setTop { g with pc := g.pc + 1, stack := .double (4607182418800017408 : UInt64) :: g.stack }) target) : Steps tb e below (T.setTop g) target := by
  subst hg
  jvm_step h [h.top, hx, hd]
  exact hr
/-- no NaN, as the steps' law asks it -/
abbrev OwnNum (x : UInt64) : Prop := x &&& 0x7fffffffffffffff ≤ 0x7ff0000000000000
theorem own_dadd (h : At T m c below) (hx : tb.exec = Jvm.exec) (hg : g.method = m) {x y : UInt64} {rest : List Value} (hd : decode c.code g.pc = .ok (.dadd, 1)) (hs : g.stack = .double y :: .double x :: rest) (hn : OwnNum (FP.dadd x y))
    (hr : Steps tb e below (T.setTop { g with pc := g.pc + 1, stack := .double (FP.dadd x y) :: rest }) target) : Steps tb e below (T.setTop g) target := by
  subst hg
  obtain ⟨gm, gpc, gl, gs, gk, ge, gr⟩ := g
  cases hs
  jvm_step h [h.top, hx, hd, Op.dadd.at_number h.top hn]
  exact hr
theorem own_dsub (h : At T m c below) (hx : tb.exec = Jvm.exec) (hg : g.method = m) {x y : UInt64} {rest : List Value} (hd : decode c.code g.pc = .ok (.dsub, 1)) (hs : g.stack = .double y :: .double x :: rest) (hn : OwnNum (FP.dsub x y))
    (hr : Steps tb e below (T.setTop { g with pc := g.pc + 1, stack := .double (FP.dsub x y) :: rest }) target) : Steps tb e below (T.setTop g) target := by
  subst hg
  obtain ⟨gm, gpc, gl, gs, gk, ge, gr⟩ := g
  cases hs
  jvm_step h [h.top, hx, hd, Op.dsub.at_number h.top hn]
  exact hr
theorem own_dmul (h : At T m c below) (hx : tb.exec = Jvm.exec) (hg : g.method = m) {x y : UInt64} {rest : List Value} (hd : decode c.code g.pc = .ok (.dmul, 1)) (hs : g.stack = .double y :: .double x :: rest) (hn : OwnNum (FP.dmul x y))
    (hr : Steps tb e below (T.setTop { g with pc := g.pc + 1, stack := .double (FP.dmul x y) :: rest }) target) : Steps tb e below (T.setTop g) target := by
  subst hg
  obtain ⟨gm, gpc, gl, gs, gk, ge, gr⟩ := g
  cases hs
  jvm_step h [h.top, hx, hd, Op.dmul.at_number h.top hn]
  exact hr
theorem own_ddiv (h : At T m c below) (hx : tb.exec = Jvm.exec) (hg : g.method = m) {x y : UInt64} {rest : List Value} (hd : decode c.code g.pc = .ok (.ddiv, 1)) (hs : g.stack = .double y :: .double x :: rest) (hn : OwnNum (FP.ddiv x y))
    (hr : Steps tb e below (T.setTop { g with pc := g.pc + 1, stack := .double (FP.ddiv x y) :: rest }) target) : Steps tb e below (T.setTop g) target := by
  subst hg
  obtain ⟨gm, gpc, gl, gs, gk, ge, gr⟩ := g
  cases hs
  jvm_step h [h.top, hx, hd, Op.ddiv.at_number h.top hn]
  exact hr
end OwnSteps
/-- the run from S ends by a return, with what Q says of its value, the heap and the places written -/
def Go (tb : Tables) (e : Env) (below : List Frame) (s : State) (k n : Nat) (Q : Option Value → Heap → List Loc → Prop) (S : State) : Prop :=
  ∃ s₂ o, Steps tb e below S s₂ ∧ s₂.status = .running ∧ Ended s₂ below o ∧ ∃ v L, o = .returned v ∧ Q v s₂.heap L ∧ FrameEnd s o s₂ L k n
theorem Go.adv {tb : Tables} {e : Env} {below : List Frame} {s : State} {k n : Nat} {Q : Option Value → Heap → List Loc → Prop} {S S' : State} (h : ∀ t, Steps tb e below S' t → Steps tb e below S t) (g : Go tb e below s k n Q S') : Go tb e below s k n Q S := by
  obtain ⟨s₂, o, h1, h2⟩ := g
  exact ⟨s₂, o, h _ h1, h2⟩
theorem Go.tr {tb : Tables} {e : Env} {below : List Frame} {s : State} {k n : Nat} {Q : Option Value → Heap → List Loc → Prop} {S S' : State} (h : Steps tb e below S S') (g : Go tb e below s k n Q S') : Go tb e below s k n Q S := by
  obtain ⟨s₂, o, h1, h2⟩ := g
  exact ⟨s₂, o, h.trans h1, h2⟩
theorem Go.start {tb : Tables} {e : Env} {below : List Frame} {s : State} {k n : Nat} {Q : Option Value → Heap → List Loc → Prop} {T : State} {g g' : JFrame} (q : g = g') (h : Go tb e below s k n Q (T.setTop g')) :
    ∃ s₂ o, Steps tb e below (T.setTop g) s₂ ∧ s₂.status = .running ∧ Ended s₂ below o ∧ ∃ v L, o = .returned v ∧ Q v s₂.heap L ∧ FrameEnd s o s₂ L k n := by
  subst q; exact h
theorem own_staKeep0 {Z : State} {h h' : Heap} {C n d : String} {w : Value} (F : Sta Z h C n d w) (K : Keep h h' []) : Sta Z h' C n d w := by
  obtain ⟨cf, i, k, f, st, cell, h1, h2, h3, h4, h5, h6, h7⟩ := F
  exact ⟨cf, i, k, f, st, cell, h1, h2, h3, h4, K.2.1 st cell h5 nin0, h6, h7⟩
theorem own_staKeep {Z : State} {h h' : Heap} {C n d D : String} {w : Value} {a : Addr} (F : Sta Z h C n d w) (K : Keep h h' [a]) (E : Exa Z h a D) : Sta Z h' C n d w := by
  obtain ⟨cf, i, k, f, st, cell, h1, h2, h3, h4, h5, h6, h7⟩ := F
  obtain ⟨c2, k2, e1, -, -, e4, -⟩ := E
  refine ⟨cf, i, k, f, st, cell, h1, h2, h3, h4, K.2.1 st cell h5 fun hm => ?_, h6, h7⟩
  cases List.mem_singleton.mp hm
  cases h5.symm.trans e1
  rw [h6] at e4; cases e4
section OwnRet
variable {p : Program} {l : Launch} {e : Env} {R : Room} {s : State} {m : MethodId} {args : Array Value} {below : List Frame} {meth : Method} {c : Code} {T : State} {locs : List Loc} {cells slots : Nat}
theorem Go.ret (X : Stand p l e R s m args below meth c T locs cells slots) {v : Option Value} (hv : meth.sig.returnType = none → v = none) (hlk : meth.locks = false) {k n : Nat} {Q : Option Value → Heap → List Loc → Prop} {S : State}
    (hs : ∀ fs, (∀ (f : JFrame) (acts : List Action), f.method = m → f.locked = none → f.entered = [] → (doReturn e (T.setTop f) acts v).1 = T.setFrames fs) → Steps p.tables e below S (T.setFrames fs))
    (hQ : Q v T.heap locs) (hk : cells ≤ k) (hn : slots ≤ n) : Go p.tables e below s k n Q S := by
  obtain ⟨fs, hr, hrun, hended, hW, hsame⟩ := X.leave (v := v) hv hlk
  exact ⟨_, _, hs fs hr, hrun, hended, _, _, rfl, hQ, ⟨_, rfl⟩, hW, hsame.mono hk hn⟩
/-- the same, where String constants may have been made: the wide frame -/
def GoW (tb : Tables) (e : Env) (below : List Frame) (s : State) (k n : Nat) (Q : Option Value → Heap → List Loc → Prop) (S : State) : Prop :=
  ∃ s₂ o, Steps tb e below S s₂ ∧ s₂.status = .running ∧ Ended s₂ below o ∧ ∃ v L, o = .returned v ∧ Q v s₂.heap L ∧ ReturnedEndW s o s₂ L k n
theorem GoW.adv {tb : Tables} {e : Env} {below : List Frame} {s : State} {k n : Nat} {Q : Option Value → Heap → List Loc → Prop} {S S' : State} (h : ∀ t, Steps tb e below S' t → Steps tb e below S t) (g : GoW tb e below s k n Q S') : GoW tb e below s k n Q S := by
  obtain ⟨s₂, o, h1, h2⟩ := g
  exact ⟨s₂, o, h _ h1, h2⟩
theorem GoW.tr {tb : Tables} {e : Env} {below : List Frame} {s : State} {k n : Nat} {Q : Option Value → Heap → List Loc → Prop} {S S' : State} (h : Steps tb e below S S') (g : GoW tb e below s k n Q S') : GoW tb e below s k n Q S := by
  obtain ⟨s₂, o, h1, h2⟩ := g
  exact ⟨s₂, o, h.trans h1, h2⟩
theorem GoW.start {tb : Tables} {e : Env} {below : List Frame} {s : State} {k n : Nat} {Q : Option Value → Heap → List Loc → Prop} {T : State} {g g' : JFrame} (q : g = g') (h : GoW tb e below s k n Q (T.setTop g')) :
    ∃ s₂ o, Steps tb e below (T.setTop g) s₂ ∧ s₂.status = .running ∧ Ended s₂ below o ∧ ∃ v L, o = .returned v ∧ Q v s₂.heap L ∧ ReturnedEndW s o s₂ L k n := by
  subst q; exact h
theorem GoW.ret {vm : Vm} (X : Stand p l e R (s.setVm vm) m args below meth c T locs cells slots) {kk : Nat} (hS : s.Since vm kk) (hkk : kk ≤ T.heap.size) {v : Option Value} (hv : meth.sig.returnType = none → v = none) (hlk : meth.locks = false) {k n : Nat} {Q : Option Value → Heap → List Loc → Prop} {S : State}
    (hs : ∀ fs, (∀ (f : JFrame) (acts : List Action), f.method = m → f.locked = none → f.entered = [] → (doReturn e (T.setTop f) acts v).1 = T.setFrames fs) → Steps p.tables e below S (T.setFrames fs))
    (hQ : Q v T.heap locs) (hk : cells ≤ k) (hn : slots ≤ n) : GoW p.tables e below s k n Q S := by
  obtain ⟨fs, hr, hrun, hended, h1, h2, h3, h4⟩ := X.leaveW hS hkk (v := v) hv hlk
  exact ⟨_, _, hs fs hr, hrun, hended, _, _, rfl, hQ, h1, h2, h3, h4.mono hk hn⟩
end OwnRet
end Jvm.RoadKit
namespace Jvm.Own
open Jvm.FP.Core
/-- a datum times 2^k -/
def sh (k : Int) : Datum → Datum
  | .nan => .nan
  | .inf s => .inf s
  | .fin s c q => .fin s c (q + k)
/-- the double a is i / 2^k -/
def Dy (k : Nat) (i : Int) (a : UInt64) : Prop := Whole i (sh k (val64 a))
theorem whole_shape {i : Int} {d : Datum} (h : Whole i d) : ∃ s c q, d = .fin s c q := by
  cases d with
  | nan => exact h.elim
  | inf => exact h.elim
  | fin s c q => exact ⟨s, c, q, rfl⟩
theorem sh_shape {k : Int} {i : Int} {d : Datum} (h : Whole i (sh k d)) : ∃ s c q, d = .fin s c q := by
  cases d with
  | nan => exact h.elim
  | inf => exact h.elim
  | fin s c q => exact ⟨s, c, q, rfl⟩
theorem units_sh (c : Nat) (q e k : Int) : inUnits c (q + k) (e + k) = inUnits c q e := by
  show c * 2 ^ (q + k - (e + k)).toNat = c * 2 ^ (q - e).toNat
  rw [show q + k - (e + k) = q - e by omega]
theorem sum_sh (k : Int) (s : Bool) (c : Nat) (q : Int) (t : Bool) (d : Nat) (r : Int) : exactSum (.fin s c (q + k)) (.fin t d (r + k)) = sh k (exactSum (.fin s c q) (.fin t d r)) := by
  have hm : min (q + k) (r + k) = min q r + k := by omega
  have hu : sumUnits s c (q + k) t d (r + k) (min q r + k) = sumUnits s c q t d r (min q r) := by
    show signed s (inUnits c (q + k) (min q r + k)) + signed t (inUnits d (r + k) (min q r + k)) = signed s (inUnits c q (min q r)) + signed t (inUnits d r (min q r))
    rw [units_sh, units_sh]
  show Datum.fin (sumSign s t (sumUnits s c (q + k) t d (r + k) (min (q + k) (r + k)))) (sumUnits s c (q + k) t d (r + k) (min (q + k) (r + k))).natAbs (min (q + k) (r + k)) = Datum.fin (sumSign s t (sumUnits s c q t d r (min q r))) (sumUnits s c q t d r (min q r)).natAbs (min q r + k)
  rw [hm, hu]
theorem round_sh {k : Nat} (hk : k ≤ 900) {i : Int} (hi : i.natAbs ≤ 2 ^ 53) {d : Datum} (h : Whole i (sh k d)) : Whole i (sh k (round b64 d)) := by
  obtain ⟨s, c, q, rfl⟩ := sh_shape h
  have h' : Whole i (.fin s c (q + k)) := h
  by_cases h0 : i = 0
  · have hc : c = 0 := (whole_zero h').mpr h0
    subst hc
    subst h0
    have e1 : round b64 (.fin s 0 q) = .fin s 0 b64.qmin := (if_pos rfl : roundRatio b64 s 0 1 q = _)
    rw [e1]
    show signed s (0 * 2 ^ (b64.qmin + k).toNat) = 0 * _
    rw [Nat.zero_mul, Int.zero_mul]
    exact signed_zero s
  · obtain ⟨c0, q0, hfit, hv⟩ := natFit good_b64 wide_b64 s (n := i.natAbs) (show _ ≤ 2 ^ 53 from hi)
    have hs := whole_sign h' h0
    have hn := whole_natAbs h'
    have hW : Whole i (.fin s i.natAbs 0) := by rw [hs]; exact whole_ofInt i
    have e1 : round b64 (.fin s i.natAbs 0) = .fin s c0 q0 := roundRatio_exact good_b64 (by decide) hfit hv
    have hW2 := whole_round good_b64 wide_b64 (show _ ≤ 2 ^ 53 from hi) hW
    rw [e1] at hW2
    have hq : -100 ≤ q0 := by
      refine Int.not_lt.mp fun hlt => ?_
      have p1 : (q0 - 0).toNat = 0 := by omega
      have p2 : 2 ^ 101 ≤ 2 ^ (0 - q0).toNat := Nat.pow_le_pow_right (by decide) (by omega)
      have p3 : 1 * 2 ^ (0 - q0).toNat ≤ i.natAbs * 2 ^ (0 - q0).toNat := Nat.mul_le_mul_right _ (by omega)
      have p4 : c0 < 2 ^ 53 := hfit.1
      rw [hv, p1, Nat.pow_zero, Nat.mul_one, Nat.mul_one, Nat.one_mul] at p3
      have p5 : (2 : Nat) ^ 53 ≤ 2 ^ 101 := Nat.pow_le_pow_right (by decide) (by decide)
      exact absurd (Nat.lt_of_le_of_lt (Nat.le_trans p2 p3) p4) (Nat.not_lt.mpr p5)
    have hfit' : Jvm.FP.Core.fits b64 (.fin s c0 (q0 - k)) := by
      obtain ⟨f1, f2, f3, f4⟩ := hfit
      refine ⟨f1, ?_, by omega, Or.inr ?_⟩
      · rw [qmin_b64]; omega
      · rcases f4 with f4 | f4
        · rw [qmin_b64] at f4; omega
        · exact f4
    have e2 : round b64 (.fin s c q) = .fin s c0 (q0 - k) := by
      show roundRatio b64 s c 1 q = _
      rw [roundRatio_congr (A' := i.natAbs) (B' := 1) (e' := -(k : Int)) (by decide) (by decide) (by
        rw [show q - -(k : Int) = q + k by omega, show -(k : Int) - q = -(q + k) by omega, Nat.mul_one, Nat.mul_one]; exact hn)]
      exact roundRatio_exact good_b64 (by decide) hfit' (by
        rw [show -(k : Int) - (q0 - k) = 0 - q0 by omega, show q0 - k - -(k : Int) = q0 - 0 by omega]; exact hv)
    rw [e2]
    show Whole i (.fin s c0 (q0 - k + k))
    rw [Int.sub_add_cancel]
    exact hW2
theorem Dy.of {i : Int} {a : UInt64} (h : DInt i a) : Dy 0 i a := by
  have h1 : Whole i (val64 a) := h
  obtain ⟨s, c, q, e⟩ := whole_shape h1
  show Whole i (sh 0 (val64 a))
  rw [e] at h1 ⊢
  show Whole i (.fin s c (q + 0))
  rw [Int.add_zero]; exact h1
theorem Dy.int {i : Int} {a : UInt64} (h : Dy 0 i a) : DInt i a := by
  have h1 : Whole i (sh 0 (val64 a)) := h
  obtain ⟨s, c, q, e⟩ := sh_shape h1
  show Whole i (val64 a)
  rw [e] at h1 ⊢
  have h2 : Whole i (.fin s c (q + 0)) := h1
  rw [Int.add_zero] at h2; exact h2
theorem Dy.fin {k : Nat} {i : Int} {a : UInt64} (h : Dy k i a) : DFin a := sh_shape h
theorem Dy.add {k : Nat} {i j : Int} {a b : UInt64} (ha : Dy k i a) (hb : Dy k j b) (hk : k ≤ 900) (h : (i + j).natAbs ≤ 2 ^ 53) : Dy k (i + j) (dadd a b) := by
  show Whole _ (sh k (val64 (dadd a b)))
  rw [val64_dadd]
  refine round_sh hk h ?_
  have ha' : Whole i (sh k (val64 a)) := ha
  have hb' : Whole j (sh k (val64 b)) := hb
  obtain ⟨s, c, q, e1⟩ := sh_shape ha'
  obtain ⟨t, d, r, e2⟩ := sh_shape hb'
  rw [e1] at ha' ⊢
  rw [e2] at hb' ⊢
  rw [← sum_sh]
  exact whole_sum ha' hb'
theorem Dy.sub {k : Nat} {i j : Int} {a b : UInt64} (ha : Dy k i a) (hb : Dy k j b) (hk : k ≤ 900) (h : (i - j).natAbs ≤ 2 ^ 53) : Dy k (i - j) (dsub a b) := by
  show Whole _ (sh k (val64 (dsub a b)))
  rw [val64_dsub]
  refine round_sh hk h ?_
  have ha' : Whole i (sh k (val64 a)) := ha
  have hb' : Whole j (sh k (val64 b)) := hb
  obtain ⟨s, c, q, e1⟩ := sh_shape ha'
  obtain ⟨t, d, r, e2⟩ := sh_shape hb'
  rw [e1] at ha' ⊢
  rw [e2] at hb' ⊢
  show Whole (i - j) (sh k (exactSum (.fin s c q) (.fin (!t) d r)))
  rw [← sum_sh]
  exact whole_sum ha' (whole_negate hb')
theorem Dy.mul {k n : Nat} {i j : Int} {a b : UInt64} (ha : Dy k i a) (hb : Dy n j b) (hk : k + n ≤ 900) (h : (i * j).natAbs ≤ 2 ^ 53) : Dy (k + n) (i * j) (dmul a b) := by
  show Whole _ (sh ((k + n : Nat) : Int) (val64 (dmul a b)))
  rw [val64_dmul]
  refine round_sh hk h ?_
  have ha' : Whole i (sh k (val64 a)) := ha
  have hb' : Whole j (sh n (val64 b)) := hb
  obtain ⟨s, c, q, e1⟩ := sh_shape ha'
  obtain ⟨t, d, r, e2⟩ := sh_shape hb'
  rw [e1] at ha' ⊢
  rw [e2] at hb' ⊢
  have hp : Whole (i * j) (.fin (s != t) (c * d) ((q + k) + (r + n))) := whole_product ha' hb'
  show Whole (i * j) (.fin (s != t) (c * d) (q + r + ((k + n : Nat) : Int)))
  rw [show q + r + ((k + n : Nat) : Int) = (q + k) + (r + n) by omega]
  exact hp
theorem Dy.cmp {k : Nat} {i j : Int} {a b : UInt64} (ha : Dy k i a) (hb : Dy k j b) : dcmp a b = some (compare i j) := by
  have ha' : Whole i (sh k (val64 a)) := ha
  have hb' : Whole j (sh k (val64 b)) := hb
  show order (val64 a) (val64 b) = _
  obtain ⟨s, c, q, e1⟩ := sh_shape ha'
  obtain ⟨t, d, r, e2⟩ := sh_shape hb'
  rw [e1] at ha' ⊢
  rw [e2] at hb' ⊢
  rw [← order_whole ha' hb']
  show some (compare (signed s (inUnits c q (min q r))) (signed t (inUnits d r (min q r)))) = some (compare (signed s (inUnits c (q + k) (min (q + k) (r + k)))) (signed t (inUnits d (r + k) (min (q + k) (r + k)))))
  rw [show min (q + (k : Int)) (r + k) = min q r + k by omega, units_sh, units_sh]
theorem whole_up {i : Int} {s : Bool} {c : Nat} {q : Int} (n : Nat) (h : Whole i (.fin s c q)) : Whole (i * ((2 ^ n : Nat) : Int)) (.fin s c (q + n)) := by
  have h1 : signed s (c * 2 ^ q.toNat) = i * ((2 ^ (-q).toNat : Nat) : Int) := h
  show signed s (c * 2 ^ (q + n).toNat) = i * ((2 ^ n : Nat) : Int) * ((2 ^ (-(q + n)).toNat : Nat) : Int)
  have p2 : ((2 ^ (-q).toNat : Nat) : Int) ≠ 0 := by
    have := Nat.two_pow_pos (-q).toNat; omega
  refine Int.eq_of_mul_eq_mul_right p2 ?_
  have hx : (q + n).toNat + (-q).toNat = q.toNat + (n + (-(q + n)).toNat) := by omega
  rw [← signed_mul, Nat.mul_assoc, ← Nat.pow_add, hx, Nat.pow_add, ← Nat.mul_assoc, signed_mul, h1, Nat.pow_add, Int.natCast_mul]
  ac_rfl
theorem Dy.up {k : Nat} {i : Int} {a : UInt64} (n : Nat) (h : Dy k i a) : Dy (k + n) (i * ((2 ^ n : Nat) : Int)) a := by
  have h1 : Whole i (sh k (val64 a)) := h
  obtain ⟨s, c, q, e⟩ := sh_shape h1
  show Whole _ (sh ((k + n : Nat) : Int) (val64 a))
  rw [e] at h1 ⊢
  have h2 : Whole i (.fin s c (q + k)) := h1
  have h3 := whole_up n h2
  show Whole _ (.fin s c (q + ((k + n : Nat) : Int)))
  rw [show q + ((k + n : Nat) : Int) = q + k + n by omega]
  exact h3
/-- divided by 2^n -/
theorem Dy.div2 {k n : Nat} {i : Int} {a b : UInt64} {mm : Nat} {r : Int} (h : Dy k i a) (hb : val64 b = .fin false (2 ^ mm) r) (hr : r + mm = n) (hk : k + n ≤ 900) (hi : i.natAbs ≤ 2 ^ 53) : Dy (k + n) i (ddiv a b) := by
  have h1 : Whole i (sh k (val64 a)) := h
  obtain ⟨s, c, q, e⟩ := sh_shape h1
  show Whole _ (sh ((k + n : Nat) : Int) (val64 (ddiv a b)))
  rw [val64_ddiv, hb]
  rw [e] at h1 ⊢
  have hp : 0 < 2 ^ mm := Nat.two_pow_pos mm
  have e1 : quotient b64 (.fin s c q) (.fin false (2 ^ mm) r) = round b64 (.fin s c (q - n)) := by
    show (if 2 ^ mm = 0 then _ else roundRatio b64 (s != false) c (2 ^ mm) (q - r)) = roundRatio b64 s c 1 (q - n)
    rw [if_neg (by omega), show (s != false) = s by cases s <;> rfl]
    refine roundRatio_congr hp (by decide) ?_
    rw [show (q - r - (q - (n : Int))).toNat = mm by omega, show (q - (n : Int) - (q - r)).toNat = 0 by omega, Nat.pow_zero, Nat.mul_one, Nat.mul_one]
  rw [e1]
  refine round_sh hk hi ?_
  have h2 : Whole i (.fin s c (q + k)) := h1
  show Whole i (.fin s c (q - n + ((k + n : Nat) : Int)))
  rw [show q - (n : Int) + ((k + n : Nat) : Int) = q + k by omega]
  exact h2
/-- the quotient of two whole numbers, as a rounded ratio -/
theorem div_ratio {i j : Int} {a b : UInt64} (ha : DInt i a) (hb : DInt j b) (hi : 0 ≤ i) (hj : 0 < j) : ∃ s, val64 (ddiv a b) = roundRatio b64 s i.natAbs j.natAbs 0 ∧ (0 < i → s = false) := by
  have ha' : Whole i (val64 a) := ha
  have hb' : Whole j (val64 b) := hb
  obtain ⟨s, c, q, e1⟩ := whole_shape ha'
  obtain ⟨t, d, r, e2⟩ := whole_shape hb'
  rw [val64_ddiv]
  rw [e1] at ha' ⊢
  rw [e2] at hb' ⊢
  have hd : d ≠ 0 := fun h => by have := (whole_zero hb').mp h; omega
  have ht : t = false := by rw [whole_sign hb' (by omega)]; exact decide_eq_false (by omega)
  have h1 := whole_natAbs ha'
  have h2 := whole_natAbs hb'
  refine ⟨s, ?_, fun h => by rw [whole_sign ha' (by omega)]; exact decide_eq_false (by omega)⟩
  subst ht
  show (if d = 0 then _ else roundRatio b64 (s != false) c d (q - r)) = _
  rw [if_neg hd, show (s != false) = s by cases s <;> rfl]
  refine roundRatio_congr (by omega) (by omega) ?_
  have hx : (q - r - 0).toNat + (-q).toNat + r.toNat = (0 - (q - r)).toNat + q.toNat + (-r).toNat := by omega
  generalize (q - r - 0).toNat = u at hx ⊢
  generalize (0 - (q - r)).toNat = v at hx ⊢
  generalize q.toNat = a1 at hx h1
  generalize (-q).toNat = a2 at hx h1
  generalize r.toNat = b1 at hx h2
  generalize (-r).toNat = b2 at hx h2
  generalize i.natAbs = I at h1 ⊢
  generalize j.natAbs = J at h2 ⊢
  refine Nat.eq_of_mul_eq_mul_right (Nat.two_pow_pos (a1 + b2)) ?_
  calc c * J * 2 ^ u * 2 ^ (a1 + b2) = (c * 2 ^ a1) * (J * 2 ^ b2) * 2 ^ u := by rw [Nat.pow_add]; ac_rfl
    _ = (I * 2 ^ a2) * (d * 2 ^ b1) * 2 ^ u := by rw [h1, ← h2]
    _ = I * d * 2 ^ (u + a2 + b1) := by simp only [Nat.pow_add]; ac_rfl
    _ = I * d * 2 ^ (v + a1 + b2) := by rw [hx]
    _ = I * d * 2 ^ v * 2 ^ (a1 + b2) := by simp only [Nat.pow_add]; ac_rfl
theorem units0 (A : Nat) : inUnits A 0 b64.qmin = A * one64 := by
  show A * 2 ^ (0 - b64.qmin).toNat = A * 2 ^ 1074
  have h1 : (0 - b64.qmin).toNat = 1074 := by decide
  rw [h1]
theorem ratio_le {s : Bool} {A B : Nat} (hB : 0 < B) {V : UInt64} (hV : DFin V) (h : A * one64 ≤ zmag b64 (val64 V) * B) : zmag b64 (roundRatio b64 s A B 0) ≤ zmag b64 (val64 V) := by
  refine zmag_roundRatio_le good_b64 hB (val64_fits V) hV.ne_nan (Int.le_refl _) (by rw [qmin_b64]; decide) ?_
  rw [units0, Int.sub_self]
  show A * one64 ≤ zmag b64 (val64 V) * 1 * B
  rw [Nat.mul_one]; exact h
theorem ratio_ge {s : Bool} {A B : Nat} (hB : 0 < B) {V : UInt64} (h : zmag b64 (val64 V) * B ≤ A * one64) : zmag b64 (val64 V) ≤ zmag b64 (roundRatio b64 s A B 0) := by
  refine zmag_roundRatio_ge good_b64 hB (val64_fits V) (Int.le_refl _) (by rw [qmin_b64]; decide) ?_
  rw [units0, Int.sub_self]
  show zmag b64 (val64 V) * 1 * B ≤ A * one64
  rw [Nat.mul_one]; exact h
/-- 1, the number next below it, and 2^-53, in units -/
theorem z_one : zmag b64 (val64 4607182418800017408) = 2 ^ 53 * 2 ^ 1021 := by decide +kernel
theorem z_pred : zmag b64 (val64 4607182418800017407) = (2 ^ 53 - 1) * 2 ^ 1021 := by decide +kernel
theorem z_tiny : zmag b64 (val64 4368491638549381120) = 2 ^ 1021 := by decide +kernel
theorem f_one : DFin 4607182418800017408 := (fin_bits _).mpr (by decide +kernel)
theorem f_pred : DFin 4607182418800017407 := (fin_bits _).mpr (by decide +kernel)
theorem one_split : one64 = 2 ^ 53 * 2 ^ 1021 := by
  show 2 ^ 1074 = _
  rw [← Nat.pow_add]
theorem zv_one : zval b64 (val64 4607182418800017408) = ((2 ^ 53 * 2 ^ 1021 : Nat) : Int) := by decide +kernel
theorem ratio_one {s : Bool} {A B : Nat} (hB : 0 < B) (h : A ≤ B) : zmag b64 (roundRatio b64 s A B 0) ≤ 2 ^ 53 * 2 ^ 1021 := by
  rw [← z_one]
  refine ratio_le hB f_one ?_
  rw [z_one, ← one_split, Nat.mul_comm]
  exact Nat.mul_le_mul_left _ h
theorem ratio_eq {s : Bool} {B : Nat} (hB : 0 < B) : zmag b64 (roundRatio b64 s B B 0) = 2 ^ 53 * 2 ^ 1021 := by
  refine Nat.le_antisymm (ratio_one hB (Nat.le_refl _)) ?_
  rw [← z_one]
  refine ratio_ge hB ?_
  rw [z_one, ← one_split, Nat.mul_comm]
  exact Nat.le_refl _
theorem ratio_lt {s : Bool} {A B : Nat} (h : A < B) (hB : B ≤ 2 ^ 53) : zmag b64 (roundRatio b64 s A B 0) < 2 ^ 53 * 2 ^ 1021 := by
  have h1 : zmag b64 (roundRatio b64 s A B 0) ≤ zmag b64 (val64 4607182418800017407) := by
    refine ratio_le (by omega) f_pred ?_
    rw [z_pred, one_split]
    have h2 : A * 2 ^ 53 ≤ (2 ^ 53 - 1) * B := by omega
    calc A * (2 ^ 53 * 2 ^ 1021) = A * 2 ^ 53 * 2 ^ 1021 := by rw [Nat.mul_assoc]
      _ ≤ (2 ^ 53 - 1) * B * 2 ^ 1021 := Nat.mul_le_mul_right _ h2
      _ = (2 ^ 53 - 1) * 2 ^ 1021 * B := Nat.mul_right_comm _ _ _
  rw [z_pred] at h1
  refine Nat.lt_of_le_of_lt h1 ?_
  exact Nat.mul_lt_mul_of_pos_right (by decide) (Nat.two_pow_pos _)
theorem ratio_pos {s : Bool} {A B : Nat} (hA : 0 < A) (hB : 0 < B) (h : B ≤ 2 ^ 53) : 0 < zmag b64 (roundRatio b64 s A B 0) := by
  have h1 : zmag b64 (val64 4368491638549381120) ≤ zmag b64 (roundRatio b64 s A B 0) := by
    refine ratio_ge hB ?_
    rw [z_tiny, one_split]
    have h2 : B ≤ A * 2 ^ 53 := Nat.le_trans h (Nat.le_mul_of_pos_left _ hA)
    calc 2 ^ 1021 * B = B * 2 ^ 1021 := Nat.mul_comm _ _
      _ ≤ A * 2 ^ 53 * 2 ^ 1021 := Nat.mul_le_mul_right _ h2
      _ = A * (2 ^ 53 * 2 ^ 1021) := by rw [Nat.mul_assoc]
  rw [z_tiny] at h1
  exact Nat.lt_of_lt_of_le (Nat.two_pow_pos _) h1
theorem ratio_zero {s : Bool} {B : Nat} : zmag b64 (roundRatio b64 s 0 B 0) = 0 := by
  have e1 : roundRatio b64 s 0 B 0 = .fin s 0 b64.qmin := if_pos rfl
  rw [e1]
  show 0 * _ = 0
  exact Nat.zero_mul _
theorem ratio_ne_nan {s : Bool} {A B : Nat} {e : Int} : roundRatio b64 s A B e ≠ .nan := roundRatio_ne_nan _ _ _ _ _
theorem zv0 : zval b64 (val64 0) = 0 := zval64_zero
theorem nn0 : val64 0 ≠ .nan := by rw [val64_zero]; exact Datum.noConfusion
theorem nn1 : val64 4607182418800017408 ≠ .nan := f_one.ne_nan
/-- a quotient of two whole numbers i ≤ j stands to 1 and to 0 as i stands to j and to 0 -/
theorem div_cmp {i j : Int} {a b : UInt64} (ha : DInt i a) (hb : DInt j b) (hi : 0 ≤ i) (hij : i ≤ j) (hj : 0 < j) (hJ : j ≤ 2 ^ 53) :
    dcmp (ddiv a b) 4607182418800017408 = some (if i = j then .eq else .lt) ∧ dcmp (ddiv a b) 0 = some (if i = 0 then .eq else .gt) ∧ dcmp 0 (ddiv a b) = some (if i = 0 then .eq else .lt) := by
  obtain ⟨s, hv, hs⟩ := div_ratio ha hb hi hj
  have nn : val64 (ddiv a b) ≠ .nan := by rw [hv]; exact ratio_ne_nan
  have hB : 0 < j.natAbs := by omega
  have hz : zval b64 (val64 (ddiv a b)) = ((zmag b64 (roundRatio b64 s i.natAbs j.natAbs 0) : Nat) : Int) := by
    rw [hv]
    show signed (sgn (roundRatio b64 s i.natAbs j.natAbs 0)) _ = _
    rw [sgn_roundRatio]
    by_cases h0 : 0 < i
    · rw [hs h0]; rfl
    · rw [show i.natAbs = 0 by omega, ratio_zero]; exact signed_zero s
  have hlt : ¬ i = j → zmag b64 (roundRatio b64 s i.natAbs j.natAbs 0) < 2 ^ 53 * 2 ^ 1021 := fun h => ratio_lt (by omega) (by omega)
  have heq : i = j → zmag b64 (roundRatio b64 s i.natAbs j.natAbs 0) = 2 ^ 53 * 2 ^ 1021 := fun h => by rw [h]; exact ratio_eq hB
  have hp : ¬ i = 0 → 0 < zmag b64 (roundRatio b64 s i.natAbs j.natAbs 0) := fun h => ratio_pos (by omega) hB (by omega)
  have hzero : i = 0 → zmag b64 (roundRatio b64 s i.natAbs j.natAbs 0) = 0 := fun h => by rw [show i.natAbs = 0 by omega]; exact ratio_zero
  generalize zmag b64 (roundRatio b64 s i.natAbs j.natAbs 0) = w at *
  have z1 := zv_one
  generalize 2 ^ 53 * 2 ^ 1021 = o1 at *
  refine ⟨?_, ?_, ?_⟩
  · by_cases h : i = j
    · rw [if_pos h]; exact dcmp_eq.mpr ⟨nn, nn1, by rw [hz, z1, heq h]⟩
    · rw [if_neg h]; exact dcmp_lt.mpr ⟨nn, nn1, by rw [hz, z1]; have := hlt h; omega⟩
  · by_cases h : i = 0
    · rw [if_pos h]; exact dcmp_eq.mpr ⟨nn, nn0, by rw [hz, zv0, hzero h]; rfl⟩
    · rw [if_neg h]; exact dcmp_gt.mpr ⟨nn, nn0, by rw [hz, zv0]; have := hp h; omega⟩
  · by_cases h : i = 0
    · rw [if_pos h]; exact dcmp_eq.mpr ⟨nn0, nn, by rw [hz, zv0, hzero h]; rfl⟩
    · rw [if_neg h]; exact dcmp_lt.mpr ⟨nn0, nn, by rw [hz, zv0]; have := hp h; omega⟩
/-- two quotients of one ratio compare as equal -/
theorem div_same {i j i' j' : Int} {a b a' b' : UInt64} (ha : DInt i a) (hb : DInt j b) (ha' : DInt i' a') (hb' : DInt j' b') (hi : 0 ≤ i) (hj : 0 < j) (hi' : 0 ≤ i') (hj' : 0 < j') (h : i * j' = i' * j) :
    dcmp (ddiv a b) (ddiv a' b') = some .eq := by
  obtain ⟨s, hv, hs⟩ := div_ratio ha hb hi hj
  obtain ⟨s', hv', hs'⟩ := div_ratio ha' hb' hi' hj'
  have nn : val64 (ddiv a b) ≠ .nan := by rw [hv]; exact ratio_ne_nan
  have nn' : val64 (ddiv a' b') ≠ .nan := by rw [hv']; exact ratio_ne_nan
  refine dcmp_eq.mpr ⟨nn, nn', ?_⟩
  rw [hv, hv']
  by_cases h0 : i = 0
  · have h1 : i' = 0 := by
      rw [h0, Int.zero_mul] at h
      rcases Int.mul_eq_zero.mp h.symm with h | h
      · exact h
      · omega
    rw [h0, h1]
    have e1 : ∀ (t : Bool) (B : Nat), zval b64 (roundRatio b64 t 0 B 0) = 0 := fun t B => by
      show signed _ (zmag b64 (roundRatio b64 t 0 B 0)) = 0
      rw [ratio_zero]; exact signed_zero _
    exact (e1 _ _).trans (e1 _ _).symm
  · have h1 : 0 < i' := by
      rcases Int.lt_or_eq_of_le hi' with h2 | h2
      · exact h2
      · exfalso
        rw [← h2, Int.zero_mul] at h
        rcases Int.mul_eq_zero.mp h with h | h <;> omega
    rw [hs (by omega), hs' h1]
    congr 1
    refine roundRatio_congr (by omega) (by omega) ?_
    have := congrArg Int.natAbs h
    rw [Int.natAbs_mul, Int.natAbs_mul] at this
    rw [this]
/-- a quotient that is whole -/
theorem div_int {i j k : Int} {a b : UInt64} (ha : DInt i a) (hb : DInt j b) (hi : 0 < i) (hj : 0 < j) (h : i = k * j) (hk : k.natAbs ≤ 2 ^ 53) : DInt k (ddiv a b) := by
  obtain ⟨s, hv, hs⟩ := div_ratio ha hb (by omega) hj
  obtain rfl := hs hi
  have hk0 : 0 < k := by
    refine Int.not_le.mp fun hn => ?_
    have := Int.mul_nonneg (show 0 ≤ -k by omega) (Int.le_of_lt hj)
    rw [Int.neg_mul] at this
    omega
  obtain ⟨c, q, hfit, hq⟩ := natFit good_b64 wide_b64 false (n := k.natAbs) (show _ ≤ 2 ^ 53 from hk)
  show Whole k (val64 (ddiv a b))
  rw [hv]
  have hn : i.natAbs = k.natAbs * j.natAbs := by rw [h, Int.natAbs_mul]
  have e1 : roundRatio b64 false i.natAbs j.natAbs 0 = .fin false c q := roundRatio_exact good_b64 (by omega) hfit (by
    rw [hn, Nat.mul_right_comm, hq]; rw [Nat.mul_one]; ac_rfl)
  have e2 : round b64 (.fin false k.natAbs 0) = .fin false c q := roundRatio_exact good_b64 (by decide) hfit hq
  have hW : Whole k (.fin false k.natAbs 0) := by
    have := whole_ofInt k
    have e3 : ofInt k = .fin false k.natAbs 0 := by
      show Datum.fin (decide (k < 0)) k.natAbs 0 = _
      rw [decide_eq_false (by omega)]
    rw [e3] at this; exact this
  have := whole_round good_b64 wide_b64 (show _ ≤ 2 ^ 53 from hk) hW
  rw [e2] at this
  rw [e1]; exact this
/-- no NaN, as the steps ask it -/
theorem num_of {x : UInt64} (h : DFin x) : x &&& 0x7fffffffffffffff ≤ 0x7ff0000000000000 := by
  have h1 := (fin_bits x).mp h
  rw [UInt64.le_iff_toNat_le, mask_toNat]
  show x.toNat % 2 ^ 63 ≤ 9218868437227405312
  omega
theorem num_nan {x : UInt64} (h : dIsNaN x = false) : x &&& 0x7fffffffffffffff ≤ 0x7ff0000000000000 := by
  have h1 := (ne_nan x).mp ((notNaN_iff x).mp h)
  rw [UInt64.le_iff_toNat_le, mask_toNat]
  show x.toNat % 2 ^ 63 ≤ 9218868437227405312
  exact h1
theorem cv_eq {x y : UInt64} {op : ClassFile.CmpOp} (h : dcmp x y = some .eq) : Jvm.Op.cmpValue (Jvm.FP.dcmp x y) op = 0 := by
  show Jvm.Op.cmpValue (dcmp x y) op = 0
  rw [h]; rfl
theorem cv_lt {x y : UInt64} {op : ClassFile.CmpOp} (h : dcmp x y = some .lt) : Jvm.Op.cmpValue (Jvm.FP.dcmp x y) op = -1 := by
  show Jvm.Op.cmpValue (dcmp x y) op = -1
  rw [h]; rfl
theorem cv_gt {x y : UInt64} {op : ClassFile.CmpOp} (h : dcmp x y = some .gt) : Jvm.Op.cmpValue (Jvm.FP.dcmp x y) op = 1 := by
  show Jvm.Op.cmpValue (dcmp x y) op = 1
  rw [h]; rfl
end Jvm.Own
namespace Jvm.Pilot.@@N@@
open Jvm Jvm.ClassFile Sem Op Lib Jvm.Free Jvm.Stand Jvm.LawKit Jvm.RoadKit Bundle Jvm.Pilot.@@N@@.Jvm.D

def own_lcomp (x y : Int64) : Int32 := if x < y then -1 else if x = y then 0 else 1
theorem own_lcomp_a {x y : Int64} (h : x < y) : own_lcomp x y = (-1 : Int32) := if_pos h
theorem own_lcomp_b {x y : Int64} (h : ¬ x < y) (h2 : x = y) : own_lcomp x y = (0 : Int32) := (if_neg h).trans (if_pos h2)
theorem own_lcomp_c {x y : Int64} (h : ¬ x < y) (h2 : ¬ x = y) : own_lcomp x y = (1 : Int32) := (if_neg h).trans (if_neg h2)
theorem own_lc_lt {x y : Int64} (h : x < y) : lcmpW x y < (0 : Int32) := by
  have h1 : ¬ y < x := by rw [Int64.lt_iff_toInt_lt] at h ⊢; omega
  have h2 : ¬ x = y := fun q => by rw [q, Int64.lt_iff_toInt_lt] at h; omega
  show (if x > y then (1 : Int32) else if x = y then 0 else -1) < 0
  rw [if_neg h1, if_neg h2]; decide
theorem own_lc_nlt {x y : Int64} (h : ¬ x < y) : ¬ (lcmpW x y < (0 : Int32)) := by
  show ¬ ((if x > y then (1 : Int32) else if x = y then 0 else -1) < 0)
  by_cases h1 : y < x
  · rw [if_pos h1]; decide
  · have h2 : x = y := Int64.toInt.inj (by rw [Int64.lt_iff_toInt_lt] at h h1; omega)
    rw [if_neg h1, if_pos h2]; decide
theorem own_lc_eq {x y : Int64} (h : x = y) : lcmpW x y = (0 : Int32) := by
  subst h
  show (if x > x then (1 : Int32) else if x = x then 0 else -1) = 0
  rw [if_neg (by rw [gt_iff_lt, Int64.lt_iff_toInt_lt]; omega), if_pos rfl]
theorem own_lc_ne {x y : Int64} (h : ¬ x = y) : ¬ (lcmpW x y = (0 : Int32)) := by
  show ¬ ((if x > y then (1 : Int32) else if x = y then 0 else -1) = 0)
  by_cases h1 : y < x
  · rw [if_pos h1]; decide
  · rw [if_neg h1, if_neg h]; decide
theorem pn5 : plainName "java/time/Duration" = true := by first | (simp [plainName, overriddenIn]; done) | decide +kernel
theorem d5_0 : decode jdk_2316_method_17_code 0 = .ok (.aload_n 0, 1) := by decide +kernel
theorem d5_1 : decode jdk_2316_method_17_code 1 = .ok (.invokespecial 218, 3) := by decide +kernel
theorem d5_4 : decode jdk_2316_method_17_code 4 = .ok (.aload_n 0, 1) := by decide +kernel
theorem d5_5 : decode jdk_2316_method_17_code 5 = .ok (.lload_n 1, 1) := by decide +kernel
theorem d5_6 : decode jdk_2316_method_17_code 6 = .ok (.putfield 221, 3) := by decide +kernel
theorem d5_9 : decode jdk_2316_method_17_code 9 = .ok (.aload_n 0, 1) := by decide +kernel
theorem d5_10 : decode jdk_2316_method_17_code 10 = .ok (.iload_n 3, 1) := by decide +kernel
theorem d5_11 : decode jdk_2316_method_17_code 11 = .ok (.putfield 224, 3) := by decide +kernel
theorem d5_14 : decode jdk_2316_method_17_code 14 = .ok (.return_, 1) := by decide +kernel
theorem ef_rm_dinit (m : MethodId) (x0 : Addr) (x1 : Int64) (x2 : Int32) : entryFrame m #[(.ref x0), (.long x1), (.int x2)] 4 = mkF m 0 #[.val (.ref x0), .val (.long x1), .second, .val (.int x2)] [] := by first | (simp [entryFrame, mkF, argsToLocals, Value.category]; done) | rfl
def Q_rm_dinit (Z : State) (a1 : Addr) (q1 : Int64) (p1 : Int32) (u_seconds : Value) (u_nanos : Value) (h0 : Heap) (n0 : Nat) (v : Option Value) (h : Heap) (L : List Loc) : Prop := v = none ∧ Fr n0 L ∧ Keep h0 h [a1] ∧ Exa Z h a1 "java/time/Duration" ∧ Fld Z h a1 "java/time/Duration" "seconds" "J" (.long q1) ∧ Fld Z h a1 "java/time/Duration" "nanos" "I" (.int p1)
set_option maxRecDepth 65536 in
set_option maxHeartbeats 40000000 in
theorem rm_dinit (l : Launch) (Z : State) (a0 : Array Value) (hw : ∀ d ∈ tables_1, d.before a0 Z = true) (ws : List Jvm.Cond) (a1 : Addr) (q1 : Int64) (p1 : Int32) (u_seconds : Value) (u_nanos : Value) (h0 : Heap) (n0 : Nat) (Z0 : n0 ≤ h0.size) (E_a1 : Exa Z h0 a1 "java/time/Duration") (g_a1 : n0 ≤ a1) (F_seconds_a1 : Fld Z h0 a1 "java/time/Duration" "seconds" "J" u_seconds) (F_nanos_a1 : Fld Z h0 a1 "java/time/Duration" "nanos" "I" u_nanos) :
    MetFree l (⟨"java/time/Duration", "<init>", "(JI)V"⟩ : MethodName) (head1 (Jvm.Cond.code (⟨"java/time/Duration", "<init>", "(JI)V"⟩ : MethodName) jdk_2316_method_17_code 4 none :: ws) ({ frames := 1, cells := 0, slots := 0, locals := 12 } : Room)) (fun a U => a = #[(.ref a1), (.long q1), (.int p1)] ∧ Z.Warmed39 U.vm ∧ U.heap = h0) (fun _ _ _ _ _ => True) (fun _ U o U' => ∃ v L, o = .returned v ∧ Q_rm_dinit Z a1 q1 p1 u_seconds u_nanos h0 n0 v U'.heap L ∧ FrameEnd U o U' L ({ frames := 1, cells := 0, slots := 0, locals := 12 } : Room).cells ({ frames := 1, cells := 0, slots := 0, locals := 12 } : Room).slots) := by
  refine MetFree.of_bodySF (plainFor_of_name pn5) hisR ?_
  intro p e s m args below meth c s₁ Bd hml0 hP hK
  obtain ⟨rfl, hZ, hh⟩ := hP
  have hx := Bd.exec
  have hby := Bd.bytes
  have hml : c.maxLocals = 4 := hml0
  have hown : s.vm.findClass "java/time/Duration" = some m.cls := findClass_of_methodNamed Bd.named
  have hnm := (name_of_methodNamed Bd.named Bd.method).1
  have X0 : Stand p l e ({ frames := 1, cells := 0, slots := 0, locals := 12 } : Room) s m #[(.ref a1), (.long q1), (.int p1)] below meth c s₁ [] 0 0 := Stand.of_body Bd
  have e0 : s₁.heap = h0 := by rw [← hh, Bd.state]; rfl
  have N0 := Fr.nil n0
  refine Go.start (Q := Q_rm_dinit Z a1 q1 p1 u_seconds u_nanos h0 n0) (ef_rm_dinit m a1 q1 p1) ?_
  have sg1 : ∀ t, Steps p.tables e below (s₁.setTop (mkF m 1 #[.val (.ref a1), .val (.long q1), .second, .val (.int p1)] [(.ref a1)])) t → Steps p.tables e below (s₁.setTop (mkF m 0 #[.val (.ref a1), .val (.long q1), .second, .val (.int p1)] [])) t := by
    intro t kt
    show Steps p.tables e below (s₁.setTop (mkF m 0 #[.val (.ref a1), .val (.long q1), .second, .val (.int p1)] [])) _
    refine XS.aloadN X0.here hx rfl (hb hby d5_0) rfl rfl ?_
    exact kt
  refine Go.adv sg1 ?_
  obtain ⟨T2, X2, e2, st2⟩ := initO X0 hx hZ hown (hw _ (List.mem_of_getElem? (i := 29) rfl)) (hw _ (List.mem_of_getElem? (i := 7) rfl)) (hw _ (List.mem_of_getElem? (i := 8) rfl)) e0 (g := (mkF m 1 #[.val (.ref a1), .val (.long q1), .second, .val (.int p1)] [(.ref a1)])) rfl (by rw [hml]; rfl) rfl (hb hby d5_1) (by decide) (W := 0) (by show 2 * 0 + _ ≤ _; exact Nat.le_of_eq rfl) (by decide)
  refine Go.adv st2 ?_
  show Go p.tables e below s _ _ _ (T2.setTop (mkF m 4 #[.val (.ref a1), .val (.long q1), .second, .val (.int p1)] []))
  have sg3 : ∀ t, Steps p.tables e below (T2.setTop (mkF m 6 #[.val (.ref a1), .val (.long q1), .second, .val (.int p1)] [(.long q1), (.ref a1)])) t → Steps p.tables e below (T2.setTop (mkF m 4 #[.val (.ref a1), .val (.long q1), .second, .val (.int p1)] [])) t := by
    intro t kt
    show Steps p.tables e below (T2.setTop (mkF m 4 #[.val (.ref a1), .val (.long q1), .second, .val (.int p1)] [])) _
    refine XS.aloadN X2.here hx rfl (hb hby d5_4) rfl rfl ?_
    show Steps p.tables e below (T2.setTop (mkF m 5 #[.val (.ref a1), .val (.long q1), .second, .val (.int p1)] [(.ref a1)])) _
    refine XS.lloadN X2.here hx rfl (hb hby d5_5) rfl ?_
    exact kt
  refine Go.adv sg3 ?_
  obtain ⟨T4, h4, X4, e4, W4, st4⟩ := putF X2 hx hZ hown (host := "") (Or.inl (hw _ (List.mem_of_getElem? (i := 30) rfl))) Via.refl e2 F_seconds_a1 E_a1 (Or.inr ⟨(hw _ (List.mem_of_getElem? (i := 31) rfl)), rfl, hnm⟩) (hw _ (List.mem_of_getElem? (i := 24) rfl)) (ty := .long) (by decide) rfl rfl (g := (mkF m 6 #[.val (.ref a1), .val (.long q1), .second, .val (.int p1)] [(.long q1), (.ref a1)])) rfl rfl (hb hby d5_6)
  have Fw4 := F_seconds_a1.same W4
  have K4 : Keep h0 h4 [a1] := (Keep.refl h0 [a1]).wr W4 (Or.inl (List.mem_of_getElem? (i := 0) rfl))
  have Z4 : n0 ≤ h4.size := Nat.le_trans Z0 (Keep.of_wr W4).1
  have N4 := Fr.snoc X4 N0 g_a1
  refine Go.adv st4 ?_
  show Go p.tables e below s _ _ _ (T4.setTop (mkF m 9 #[.val (.ref a1), .val (.long q1), .second, .val (.int p1)] []))
  have sg5 : ∀ t, Steps p.tables e below (T4.setTop (mkF m 11 #[.val (.ref a1), .val (.long q1), .second, .val (.int p1)] [(.int p1), (.ref a1)])) t → Steps p.tables e below (T4.setTop (mkF m 9 #[.val (.ref a1), .val (.long q1), .second, .val (.int p1)] [])) t := by
    intro t kt
    show Steps p.tables e below (T4.setTop (mkF m 9 #[.val (.ref a1), .val (.long q1), .second, .val (.int p1)] [])) _
    refine XS.aloadN X4.here hx rfl (hb hby d5_9) rfl rfl ?_
    show Steps p.tables e below (T4.setTop (mkF m 10 #[.val (.ref a1), .val (.long q1), .second, .val (.int p1)] [(.ref a1)])) _
    refine XS.iloadN X4.here hx rfl (hb hby d5_10) rfl ?_
    exact kt
  refine Go.adv sg5 ?_
  have f6 := (F_nanos_a1.other W4 (Or.inr (slot_ne (Or.inr (hw _ (List.mem_of_getElem? (i := 33) rfl))) (Or.inr (hw _ (List.mem_of_getElem? (i := 31) rfl))) (by decide) (t := .int) (t' := .long) (by decide) (by decide))))
  have f7 := (E_a1.wr W4)
  obtain ⟨T8, h8, X8, e8, W8, st8⟩ := putF X4 hx hZ hown (host := "") (Or.inl (hw _ (List.mem_of_getElem? (i := 32) rfl))) Via.refl e4 f6 f7 (Or.inr ⟨(hw _ (List.mem_of_getElem? (i := 33) rfl)), rfl, hnm⟩) (hw _ (List.mem_of_getElem? (i := 24) rfl)) (ty := .int) (by decide) rfl rfl (g := (mkF m 11 #[.val (.ref a1), .val (.long q1), .second, .val (.int p1)] [(.int p1), (.ref a1)])) rfl rfl (hb hby d5_11)
  have Fw8 := f6.same W8
  have K8 : Keep h0 h8 [a1] := K4.wr W8 (Or.inl (List.mem_of_getElem? (i := 0) rfl))
  have Z8 : n0 ≤ h8.size := Nat.le_trans Z4 (Keep.of_wr W8).1
  have N8 := Fr.snoc X8 N4 g_a1
  refine Go.adv st8 ?_
  show Go p.tables e below s _ _ _ (T8.setTop (mkF m 14 #[.val (.ref a1), .val (.long q1), .second, .val (.int p1)] []))
  refine Go.ret (v := none) X8 (fun _ => rfl) Bd.notSynchronized (fun fs hr => X8.returnOut hx Bd.returns (hb hby d5_14) hr) ?_ (by decide) (by decide)
  show Q_rm_dinit Z a1 q1 p1 u_seconds u_nanos h0 n0 none T8.heap _
  rw [e8]
  have f9 := (f7.wr W8)
  have f10 := (Fw4.other W8 (Or.inr (slot_ne (Or.inr (hw _ (List.mem_of_getElem? (i := 31) rfl))) (Or.inr (hw _ (List.mem_of_getElem? (i := 33) rfl))) (by decide) (t := .long) (t' := .int) (by decide) (by decide))))
  exact ⟨rfl, N8, K8, f9, f10, Fw8⟩
theorem pn4 : plainName "java/time/Duration" = true := by first | (simp [plainName, overriddenIn]; done) | decide +kernel
theorem d4_0 : decode jdk_2316_method_16_code 0 = .ok (.lload_n 0, 1) := by decide +kernel
theorem d4_1 : decode jdk_2316_method_16_code 1 = .ok (.iload_n 2, 1) := by decide +kernel
theorem d4_2 : decode jdk_2316_method_16_code 2 = .ok (.i2l, 1) := by decide +kernel
theorem d4_3 : decode jdk_2316_method_16_code 3 = .ok (.lor, 1) := by decide +kernel
theorem d4_4 : decode jdk_2316_method_16_code 4 = .ok (.lconst 0, 1) := by decide +kernel
theorem d4_5 : decode jdk_2316_method_16_code 5 = .ok (.lcmp, 1) := by decide +kernel
theorem d4_6 : decode jdk_2316_method_16_code 6 = .ok (.ifCond .ne 7, 3) := by decide +kernel
theorem d4_13 : decode jdk_2316_method_16_code 13 = .ok (.new 11, 3) := by decide +kernel
theorem d4_16 : decode jdk_2316_method_16_code 16 = .ok (.dup, 1) := by decide +kernel
theorem d4_17 : decode jdk_2316_method_16_code 17 = .ok (.lload_n 0, 1) := by decide +kernel
theorem d4_18 : decode jdk_2316_method_16_code 18 = .ok (.iload_n 2, 1) := by decide +kernel
theorem d4_19 : decode jdk_2316_method_16_code 19 = .ok (.invokespecial 215, 3) := by decide +kernel
theorem pd_oJIcV : parseMethodDescriptor "(JI)V" = some ⟨[.long, .int], none⟩ := by decide +kernel
theorem d4_22 : decode jdk_2316_method_16_code 22 = .ok (.areturn, 1) := by decide +kernel
theorem ef_rm_create (m : MethodId) (x0 : Int64) (x1 : Int32) : entryFrame m #[(.long x0), (.int x1)] 3 = mkF m 0 #[.val (.long x0), .second, .val (.int x1)] [] := by first | (simp [entryFrame, mkF, argsToLocals, Value.category]; done) | rfl
def Q_rm_create (Z : State) (q1 : Int64) (p1 : Int32) (h0 : Heap) (n0 : Nat) (v : Option Value) (h : Heap) (L : List Loc) : Prop := ∃ bo : Addr, v = some (.ref bo) ∧ Fr n0 L ∧ Keep h0 h [] ∧ h0.size ≤ bo ∧ Exa Z h bo "java/time/Duration" ∧ Fld Z h bo "java/time/Duration" "seconds" "J" (.long q1) ∧ Fld Z h bo "java/time/Duration" "nanos" "I" (.int p1)
set_option maxRecDepth 65536 in
set_option maxHeartbeats 40000000 in
theorem rm_create (l : Launch) (Z : State) (a0 : Array Value) (hw : ∀ d ∈ tables_1, d.before a0 Z = true) (ws : List Jvm.Cond) (q1 : Int64) (p1 : Int32) (h0 : Heap) (n0 : Nat) (Z0 : n0 ≤ h0.size) (hz : ¬ ((q1 ||| (p1.toInt64)) = (0 : Int64))) :
    MetFree l (⟨"java/time/Duration", "create", "(JI)Ljava/time/Duration;"⟩ : MethodName) (head1 (Jvm.Cond.code (⟨"java/time/Duration", "create", "(JI)Ljava/time/Duration;"⟩ : MethodName) jdk_2316_method_16_code 3 (some (.object "java/time/Duration")) :: ws) ({ frames := 2, cells := 1, slots := 2, locals := 28 } : Room)) (fun a U => a = #[(.long q1), (.int p1)] ∧ Z.Warmed39 U.vm ∧ U.heap = h0) (fun _ _ _ _ _ => True) (fun _ U o U' => ∃ v L, o = .returned v ∧ Q_rm_create Z q1 p1 h0 n0 v U'.heap L ∧ FrameEnd U o U' L ({ frames := 2, cells := 1, slots := 2, locals := 28 } : Room).cells ({ frames := 2, cells := 1, slots := 2, locals := 28 } : Room).slots) := by
  refine MetFree.of_bodySF (plainFor_of_name pn4) hisR ?_
  intro p e s m args below meth c s₁ Bd hml0 hP hK
  obtain ⟨rfl, hZ, hh⟩ := hP
  have hx := Bd.exec
  have hby := Bd.bytes
  have hml : c.maxLocals = 3 := hml0
  have hown : s.vm.findClass "java/time/Duration" = some m.cls := findClass_of_methodNamed Bd.named
  have hnm := (name_of_methodNamed Bd.named Bd.method).1
  have X0 : Stand p l e ({ frames := 2, cells := 1, slots := 2, locals := 28 } : Room) s m #[(.long q1), (.int p1)] below meth c s₁ [] 0 0 := Stand.of_body Bd
  have e0 : s₁.heap = h0 := by rw [← hh, Bd.state]; rfl
  have N0 := Fr.nil n0
  refine Go.start (Q := Q_rm_create Z q1 p1 h0 n0) (ef_rm_create m q1 p1) ?_
  have sg1 : ∀ t, Steps p.tables e below (s₁.setTop (mkF m 13 #[.val (.long q1), .second, .val (.int p1)] [])) t → Steps p.tables e below (s₁.setTop (mkF m 0 #[.val (.long q1), .second, .val (.int p1)] [])) t := by
    intro t kt
    show Steps p.tables e below (s₁.setTop (mkF m 0 #[.val (.long q1), .second, .val (.int p1)] [])) _
    refine XS.lloadN X0.here hx rfl (hb hby d4_0) rfl ?_
    show Steps p.tables e below (s₁.setTop (mkF m 1 #[.val (.long q1), .second, .val (.int p1)] [(.long q1)])) _
    refine XS.iloadN X0.here hx rfl (hb hby d4_1) rfl ?_
    show Steps p.tables e below (s₁.setTop (mkF m 2 #[.val (.long q1), .second, .val (.int p1)] [(.int p1), (.long q1)])) _
    refine XS.i2l X0.here hx rfl (hb hby d4_2) rfl ?_
    show Steps p.tables e below (s₁.setTop (mkF m 3 #[.val (.long q1), .second, .val (.int p1)] [(.long (p1.toInt64)), (.long q1)])) _
    refine XS.lor X0.here hx rfl (hb hby d4_3) rfl ?_
    show Steps p.tables e below (s₁.setTop (mkF m 4 #[.val (.long q1), .second, .val (.int p1)] [(.long (q1 ||| (p1.toInt64)))])) _
    refine XS.lconst X0.here hx rfl (hb hby d4_4) ?_
    show Steps p.tables e below (s₁.setTop (mkF m 5 #[.val (.long q1), .second, .val (.int p1)] [(.long (0 : Int64)), (.long (q1 ||| (p1.toInt64)))])) _
    refine XS.lcmp X0.here hx rfl (hb hby d4_5) rfl ?_
    show Steps p.tables e below (s₁.setTop (mkF m 6 #[.val (.long q1), .second, .val (.int p1)] [(.int (lcmpW (q1 ||| (p1.toInt64)) (0 : Int64)))])) _
    refine XS.ifYes X0.here hx rfl (pc0 := 6) (pc' := 13) rfl (hb hby d4_6) rfl ((if0 _ _).trans (feq (own_lc_ne hz : ¬ ((lcmpW (q1 ||| (p1.toInt64)) (0 : Int64)) = (0 : Int32)))).2) (by decide) (by decide) ?_
    exact kt
  refine Go.adv sg1 ?_
  obtain ⟨T2, h2, X2, e2, E2, A2, D2, -, st2⟩ := newO X0 hx hZ hown (hw _ (List.mem_of_getElem? (i := 23) rfl)) (hw _ (List.mem_of_getElem? (i := 24) rfl)) (hw _ (List.mem_of_getElem? (i := 18) rfl)) e0 (g := (mkF m 13 #[.val (.long q1), .second, .val (.int p1)] [])) rfl (hb hby d4_13) (by decide) (by decide)
  obtain ⟨b2, gb2⟩ : ∃ z, z = h0.size := ⟨_, rfl⟩
  rw [← gb2] at A2 D2 st2
  have g_b2 : n0 ≤ b2 := Nat.le_trans Z0 (Nat.le_of_eq gb2.symm)
  have sz_b2 : h0.size ≤ b2 := Nat.le_trans (Keep.refl h0 []).1 (Nat.le_of_eq gb2.symm)
  have K2 : Keep h0 h2 [] := (Keep.refl h0 []).ext E2
  have Z2 : n0 ≤ h2.size := Nat.le_trans Z0 E2.1
  have F_seconds_b2 : Fld Z h2 b2 "java/time/Duration" "seconds" "J" (.long (0 : Int64)) := D2 (Or.inr (hw _ (List.mem_of_getElem? (i := 31) rfl))) (ty := .long) (by decide)
  have F_nanos_b2 : Fld Z h2 b2 "java/time/Duration" "nanos" "I" (.int (0 : Int32)) := D2 (Or.inr (hw _ (List.mem_of_getElem? (i := 33) rfl))) (ty := .int) (by decide)
  refine Go.adv st2 ?_
  show Go p.tables e below s _ _ _ (T2.setTop (mkF m 16 #[.val (.long q1), .second, .val (.int p1)] [(.ref b2)]))
  have sg3 : ∀ t, Steps p.tables e below (T2.setTop (mkF m 19 #[.val (.long q1), .second, .val (.int p1)] [(.int p1), (.long q1), (.ref b2), (.ref b2)])) t → Steps p.tables e below (T2.setTop (mkF m 16 #[.val (.long q1), .second, .val (.int p1)] [(.ref b2)])) t := by
    intro t kt
    show Steps p.tables e below (T2.setTop (mkF m 16 #[.val (.long q1), .second, .val (.int p1)] [(.ref b2)])) _
    refine XS.dup X2.here hx rfl (hb hby d4_16) rfl rfl ?_
    show Steps p.tables e below (T2.setTop (mkF m 17 #[.val (.long q1), .second, .val (.int p1)] [(.ref b2), (.ref b2)])) _
    refine XS.lloadN X2.here hx rfl (hb hby d4_17) rfl ?_
    show Steps p.tables e below (T2.setTop (mkF m 18 #[.val (.long q1), .second, .val (.int p1)] [(.long q1), (.ref b2), (.ref b2)])) _
    refine XS.iloadN X2.here hx rfl (hb hby d4_18) rfl ?_
    exact kt
  refine Go.adv sg3 ?_
  obtain ⟨_, _, ⟨T4, L4, k4, n4⟩, -, X4, ⟨Lc4, hQ4, l4, y4, z4⟩, st4⟩ := X2.specialBack hx (y := (⟨"java/time/Duration", "<init>", "(JI)V"⟩ : MethodName)) rfl hown (mvT hZ (hw _ (List.mem_of_getElem? (i := 25) rfl))) (mvT hZ (hw _ (List.mem_of_getElem? (i := 26) rfl))) (mvT hZ (hw _ (List.mem_of_getElem? (i := 28) rfl))) (by decide) (backOf (W := 1) (rm_dinit l Z a0 hw [] b2 q1 p1 (.long (0 : Int64)) (.int (0 : Int32)) h2 n0 Z2 A2 g_b2 F_seconds_b2 F_nanos_b2) hZ (hw _ (List.mem_of_getElem? (i := 28) rfl)) (hw _ (List.mem_of_getElem? (i := 18) rfl)) (by decide) (by decide)) (g := (mkF m 19 #[.val (.long q1), .second, .val (.int p1)] [(.int p1), (.long q1), (.ref b2), (.ref b2)])) rfl (by rw [hml]; rfl) (Steps.refl _) (a := b2) (argsL := [(.long q1), (.int p1)]) (rest := [(.ref b2)]) (lenOf pd_oJIcV rfl) rfl (by show 2 * 0 + _ ≤ _; exact Nat.le_of_eq rfl) (hb hby d4_19) (fun _ _ => ⟨rfl, e2, (by decide : 1 + 0 ≤ _), (by decide : 2 + 0 ≤ _)⟩)
  dsimp only [Pt.U, Pt.locs, Pt.cells, Pt.slots] at X4 l4 y4 z4 st4 hQ4
  subst l4 y4 z4
  obtain ⟨rfl, N4q, Kc4, p4_0, p4_1, p4_2⟩ := hQ4
  have N4 := Fr.app N0 N4q
  have K4 : Keep h0 T4.heap [] := K2.trans Kc4 (allS (Or.inr sz_b2) all0)
  have Z4 : n0 ≤ T4.heap.size := Nat.le_trans Z2 Kc4.1
  refine Go.tr st4 ?_
  show Go p.tables e below s _ _ _ (T4.setTop (mkF m 22 #[.val (.long q1), .second, .val (.int p1)] [(.ref b2)]))
  refine Go.ret (v := (some (.ref b2))) X4 (fun h => by rw [Bd.returns] at h; cases h) Bd.notSynchronized (fun fs hr => retOut X4 hx Bd.returns rfl (Or.inr (Or.inr (Or.inr (Or.inr ⟨rfl, rfl, rfl⟩)))) (hb hby d4_22) hr) ?_ (by decide) (by decide)
  show Q_rm_create Z q1 p1 h0 n0 (some (.ref b2)) T4.heap _
  exact ⟨b2, rfl, N4, K4, sz_b2, p4_0, p4_1, p4_2⟩
theorem pn3 : plainName "java/time/Duration" = true := by first | (simp [plainName, overriddenIn]; done) | decide +kernel
theorem d3_0 : decode jdk_2316_method_4_code 0 = .ok (.lload_n 0, 1) := by decide +kernel
theorem d3_1 : decode jdk_2316_method_4_code 1 = .ok (.iconst 0, 1) := by decide +kernel
theorem d3_2 : decode jdk_2316_method_4_code 2 = .ok (.invokestatic 10, 3) := by decide +kernel
theorem pd_oJIcLjavastimesDuratione : parseMethodDescriptor "(JI)Ljava/time/Duration;" = some ⟨[.long, .int], some (.object "java/time/Duration")⟩ := by decide +kernel
theorem d3_5 : decode jdk_2316_method_4_code 5 = .ok (.areturn, 1) := by decide +kernel
theorem ef_rm_ofSec (m : MethodId)  : entryFrame m #[(.long (1 : Int64))] 2 = mkF m 0 #[.val (.long (1 : Int64)), .second] [] := by first | (simp [entryFrame, mkF, argsToLocals, Value.category]; done) | rfl
def Q_rm_ofSec (Z : State)  (h0 : Heap) (n0 : Nat) (v : Option Value) (h : Heap) (L : List Loc) : Prop := ∃ bo : Addr, v = some (.ref bo) ∧ Fr n0 L ∧ Keep h0 h [] ∧ h0.size ≤ bo ∧ Exa Z h bo "java/time/Duration" ∧ Fld Z h bo "java/time/Duration" "seconds" "J" (.long (1 : Int64)) ∧ Fld Z h bo "java/time/Duration" "nanos" "I" (.int (0 : Int32))
set_option maxRecDepth 65536 in
set_option maxHeartbeats 40000000 in
theorem rm_ofSec (l : Launch) (Z : State) (a0 : Array Value) (hw : ∀ d ∈ tables_1, d.before a0 Z = true) (ws : List Jvm.Cond)  (h0 : Heap) (n0 : Nat) (Z0 : n0 ≤ h0.size)  :
    MetFree l (⟨"java/time/Duration", "ofSeconds", "(J)Ljava/time/Duration;"⟩ : MethodName) (head1 (Jvm.Cond.code (⟨"java/time/Duration", "ofSeconds", "(J)Ljava/time/Duration;"⟩ : MethodName) jdk_2316_method_4_code 2 (some (.object "java/time/Duration")) :: ws) ({ frames := 3, cells := 1, slots := 2, locals := 42 } : Room)) (fun a U => a = #[(.long (1 : Int64))] ∧ Z.Warmed39 U.vm ∧ U.heap = h0) (fun _ _ _ _ _ => True) (fun _ U o U' => ∃ v L, o = .returned v ∧ Q_rm_ofSec Z  h0 n0 v U'.heap L ∧ FrameEnd U o U' L ({ frames := 3, cells := 1, slots := 2, locals := 42 } : Room).cells ({ frames := 3, cells := 1, slots := 2, locals := 42 } : Room).slots) := by
  refine MetFree.of_bodySF (plainFor_of_name pn3) hisR ?_
  intro p e s m args below meth c s₁ Bd hml0 hP hK
  obtain ⟨rfl, hZ, hh⟩ := hP
  have hx := Bd.exec
  have hby := Bd.bytes
  have hml : c.maxLocals = 2 := hml0
  have hown : s.vm.findClass "java/time/Duration" = some m.cls := findClass_of_methodNamed Bd.named
  have hnm := (name_of_methodNamed Bd.named Bd.method).1
  have X0 : Stand p l e ({ frames := 3, cells := 1, slots := 2, locals := 42 } : Room) s m #[(.long (1 : Int64))] below meth c s₁ [] 0 0 := Stand.of_body Bd
  have e0 : s₁.heap = h0 := by rw [← hh, Bd.state]; rfl
  have N0 := Fr.nil n0
  refine Go.start (Q := Q_rm_ofSec Z  h0 n0) (ef_rm_ofSec m ) ?_
  have sg1 : ∀ t, Steps p.tables e below (s₁.setTop (mkF m 2 #[.val (.long (1 : Int64)), .second] [(.int (0 : Int32)), (.long (1 : Int64))])) t → Steps p.tables e below (s₁.setTop (mkF m 0 #[.val (.long (1 : Int64)), .second] [])) t := by
    intro t kt
    show Steps p.tables e below (s₁.setTop (mkF m 0 #[.val (.long (1 : Int64)), .second] [])) _
    refine XS.lloadN X0.here hx rfl (hb hby d3_0) rfl ?_
    show Steps p.tables e below (s₁.setTop (mkF m 1 #[.val (.long (1 : Int64)), .second] [(.long (1 : Int64))])) _
    refine XS.iconst X0.here hx rfl (hb hby d3_1) ?_
    exact kt
  refine Go.adv sg1 ?_
  obtain ⟨_, _, ⟨T2, L2, k2, n2⟩, -, X2, ⟨Lc2, hQ2, l2, y2, z2⟩, st2⟩ := Jvm.LawKit.callS X0 hx (y := (⟨"java/time/Duration", "create", "(JI)Ljava/time/Duration;"⟩ : MethodName)) hown (mvT hZ (hw _ (List.mem_of_getElem? (i := 20) rfl))) (mvT hZ (hw _ (List.mem_of_getElem? (i := 21) rfl))) (mvT hZ (hw _ (List.mem_of_getElem? (i := 18) rfl))) (mvT hZ (hw _ (List.mem_of_getElem? (i := 22) rfl))) (by decide) (backOf (W := 0) (rm_create l Z a0 hw [] (1 : Int64) (0 : Int32)  h0 n0 Z0 (by decide)) hZ (hw _ (List.mem_of_getElem? (i := 22) rfl)) (hw _ (List.mem_of_getElem? (i := 18) rfl)) (by decide) (by decide)) (g := (mkF m 2 #[.val (.long (1 : Int64)), .second] [(.int (0 : Int32)), (.long (1 : Int64))])) rfl (by rw [hml]; rfl) (argsL := [(.long (1 : Int64)), (.int (0 : Int32))]) (rest := []) (lenOf pd_oJIcLjavastimesDuratione rfl) rfl (by show 2 * 0 + _ ≤ _; exact Nat.le_of_eq rfl) (hb hby d3_2) (fun _ _ => ⟨rfl, e0, (by decide : 0 + 1 ≤ _), (by decide : 0 + 2 ≤ _)⟩)
  dsimp only [Pt.U, Pt.locs, Pt.cells, Pt.slots] at X2 l2 y2 z2 st2 hQ2
  subst l2 y2 z2
  obtain ⟨b2, rfl, N2q, Kc2, p2_0, p2_1, p2_2, p2_3⟩ := hQ2
  have N2 := Fr.app N0 N2q
  have K2 : Keep h0 T2.heap [] := (Keep.refl h0 []).trans Kc2 all0
  have Z2 : n0 ≤ T2.heap.size := Nat.le_trans Z0 Kc2.1
  have g_b2 : n0 ≤ b2 := Nat.le_trans Z0 p2_0
  have sz_b2 : h0.size ≤ b2 := Nat.le_trans (Keep.refl h0 []).1 p2_0
  refine Go.adv st2 ?_
  show Go p.tables e below s _ _ _ (T2.setTop (mkF m 5 #[.val (.long (1 : Int64)), .second] [(.ref b2)]))
  refine Go.ret (v := (some (.ref b2))) X2 (fun h => by rw [Bd.returns] at h; cases h) Bd.notSynchronized (fun fs hr => retOut X2 hx Bd.returns rfl (Or.inr (Or.inr (Or.inr (Or.inr ⟨rfl, rfl, rfl⟩)))) (hb hby d3_5) hr) ?_ (by decide) (by decide)
  show Q_rm_ofSec Z  h0 n0 (some (.ref b2)) T2.heap _
  exact ⟨b2, rfl, N2, K2, sz_b2, p2_1, p2_2, p2_3⟩
theorem d9_0 : decode jdk_29_method_61_code 0 = .ok (.lload_n 0, 1) := by decide +kernel
theorem d9_1 : decode jdk_29_method_61_code 1 = .ok (.lconst 0, 1) := by decide +kernel
theorem d9_2 : decode jdk_29_method_61_code 2 = .ok (.lcmp, 1) := by decide +kernel
theorem d9_3 : decode jdk_29_method_61_code 3 = .ok (.ifCond .ge 8, 3) := by decide +kernel
theorem d9_11 : decode jdk_29_method_61_code 11 = .ok (.lload_n 0, 1) := by decide +kernel
theorem d9_12 : decode jdk_29_method_61_code 12 = .ok (.lreturn, 1) := by decide +kernel
theorem ef_rm_abs (m : MethodId) (x0 : Int64) : entryFrame m #[(.long x0)] 2 = mkF m 0 #[.val (.long x0), .second] [] := by first | (simp [entryFrame, mkF, argsToLocals, Value.category]; done) | rfl
def Q_rm_abs (Z : State) (q1 : Int64) (h0 : Heap) (n0 : Nat) (v : Option Value) (h : Heap) (L : List Loc) : Prop := v = some (.long q1) ∧ Fr n0 L ∧ h = h0
set_option maxRecDepth 65536 in
set_option maxHeartbeats 40000000 in
theorem rm_abs (l : Launch) (Z : State) (a0 : Array Value) (hw : ∀ d ∈ tables_1, d.before a0 Z = true) (ws : List Jvm.Cond) (q1 : Int64) (h0 : Heap) (n0 : Nat) (Z0 : n0 ≤ h0.size) (hp : ¬ (q1 < (0 : Int64))) :
    MetFree l (⟨"java/lang/Math", "abs", "(J)J"⟩ : MethodName) (head1 (Jvm.Cond.code (⟨"java/lang/Math", "abs", "(J)J"⟩ : MethodName) jdk_29_method_61_code 2 (some .long) :: ws) ({ frames := 0, cells := 0, slots := 0, locals := 0 } : Room)) (fun a U => a = #[(.long q1)] ∧ Z.Warmed39 U.vm ∧ U.heap = h0) (fun _ _ _ _ _ => True) (fun _ U o U' => ∃ v L, o = .returned v ∧ Q_rm_abs Z q1 h0 n0 v U'.heap L ∧ FrameEnd U o U' L ({ frames := 0, cells := 0, slots := 0, locals := 0 } : Room).cells ({ frames := 0, cells := 0, slots := 0, locals := 0 } : Room).slots) := by
  refine MetFree.of_bodySF (Jvm.Free.JP.mathPlain rfl (by decide +kernel)) hisR ?_
  intro p e s m args below meth c s₁ Bd hml0 hP hK
  obtain ⟨rfl, hZ, hh⟩ := hP
  have hx := Bd.exec
  have hby := Bd.bytes
  have hml : c.maxLocals = 2 := hml0
  have hown : s.vm.findClass "java/lang/Math" = some m.cls := findClass_of_methodNamed Bd.named
  have hnm := (name_of_methodNamed Bd.named Bd.method).1
  have X0 : Stand p l e ({ frames := 0, cells := 0, slots := 0, locals := 0 } : Room) s m #[(.long q1)] below meth c s₁ [] 0 0 := Stand.of_body Bd
  have e0 : s₁.heap = h0 := by rw [← hh, Bd.state]; rfl
  have N0 := Fr.nil n0
  refine Go.start (Q := Q_rm_abs Z q1 h0 n0) (ef_rm_abs m q1) ?_
  have sg1 : ∀ t, Steps p.tables e below (s₁.setTop (mkF m 12 #[.val (.long q1), .second] [(.long q1)])) t → Steps p.tables e below (s₁.setTop (mkF m 0 #[.val (.long q1), .second] [])) t := by
    intro t kt
    show Steps p.tables e below (s₁.setTop (mkF m 0 #[.val (.long q1), .second] [])) _
    refine XS.lloadN X0.here hx rfl (hb hby d9_0) rfl ?_
    show Steps p.tables e below (s₁.setTop (mkF m 1 #[.val (.long q1), .second] [(.long q1)])) _
    refine XS.lconst X0.here hx rfl (hb hby d9_1) ?_
    show Steps p.tables e below (s₁.setTop (mkF m 2 #[.val (.long q1), .second] [(.long (0 : Int64)), (.long q1)])) _
    refine XS.lcmp X0.here hx rfl (hb hby d9_2) rfl ?_
    show Steps p.tables e below (s₁.setTop (mkF m 3 #[.val (.long q1), .second] [(.int (lcmpW q1 (0 : Int64)))])) _
    refine XS.ifYes X0.here hx rfl (pc0 := 3) (pc' := 11) rfl (hb hby d9_3) rfl ((if0 _ _).trans (flt (own_lc_nlt hp : ¬ ((lcmpW q1 (0 : Int64)) < (0 : Int32)))).2.1) (by decide) (by decide) ?_
    show Steps p.tables e below (s₁.setTop (mkF m 11 #[.val (.long q1), .second] [])) _
    refine XS.lloadN X0.here hx rfl (hb hby d9_11) rfl ?_
    exact kt
  refine Go.adv sg1 ?_
  refine Go.ret (v := (some (.long q1))) X0 (fun h => by rw [Bd.returns] at h; cases h) Bd.notSynchronized (fun fs hr => retOut X0 hx Bd.returns rfl (Or.inr (Or.inl ⟨rfl, rfl, _, rfl⟩)) (hb hby d9_12) hr) ?_ (by decide) (by decide)
  show Q_rm_abs Z q1 h0 n0 (some (.long q1)) s₁.heap _
  rw [e0]
  exact ⟨rfl, N0, rfl⟩
theorem d8_0 : decode jdk_29_method_30_code 0 = .ok (.lload_n 0, 1) := by decide +kernel
theorem d8_1 : decode jdk_29_method_30_code 1 = .ok (.lload_n 2, 1) := by decide +kernel
theorem d8_2 : decode jdk_29_method_30_code 2 = .ok (.lmul, 1) := by decide +kernel
theorem d8_3 : decode jdk_29_method_30_code 3 = .ok (.lstore 4, 2) := by decide +kernel
theorem d8_5 : decode jdk_29_method_30_code 5 = .ok (.lload_n 0, 1) := by decide +kernel
theorem d8_6 : decode jdk_29_method_30_code 6 = .ok (.invokestatic 122, 3) := by decide +kernel
theorem pd_oJcJ : parseMethodDescriptor "(J)J" = some ⟨[.long], some .long⟩ := by decide +kernel
theorem d8_9 : decode jdk_29_method_30_code 9 = .ok (.lstore 6, 2) := by decide +kernel
theorem d8_11 : decode jdk_29_method_30_code 11 = .ok (.lload_n 2, 1) := by decide +kernel
theorem d8_12 : decode jdk_29_method_30_code 12 = .ok (.invokestatic 122, 3) := by decide +kernel
theorem d8_15 : decode jdk_29_method_30_code 15 = .ok (.lstore 8, 2) := by decide +kernel
theorem d8_17 : decode jdk_29_method_30_code 17 = .ok (.lload 6, 2) := by decide +kernel
theorem d8_19 : decode jdk_29_method_30_code 19 = .ok (.lload 8, 2) := by decide +kernel
theorem d8_21 : decode jdk_29_method_30_code 21 = .ok (.lor, 1) := by decide +kernel
theorem d8_22 : decode jdk_29_method_30_code 22 = .ok (.bipush 31, 2) := by decide +kernel
theorem d8_24 : decode jdk_29_method_30_code 24 = .ok (.lushr, 1) := by decide +kernel
theorem d8_25 : decode jdk_29_method_30_code 25 = .ok (.lconst 0, 1) := by decide +kernel
theorem d8_26 : decode jdk_29_method_30_code 26 = .ok (.lcmp, 1) := by decide +kernel
theorem d8_27 : decode jdk_29_method_30_code 27 = .ok (.ifCond .eq 44, 3) := by decide +kernel
theorem d8_71 : decode jdk_29_method_30_code 71 = .ok (.lload 4, 2) := by decide +kernel
theorem d8_73 : decode jdk_29_method_30_code 73 = .ok (.lreturn, 1) := by decide +kernel
theorem ef_rm_mulJ (m : MethodId)  : entryFrame m #[(.long (1 : Int64)), (.long ((3600 : Int32).toInt64))] 10 = mkF m 0 #[.val (.long (1 : Int64)), .second, .val (.long ((3600 : Int32).toInt64)), .second, .unset, .unset, .unset, .unset, .unset, .unset] [] := by first | (simp [entryFrame, mkF, argsToLocals, Value.category]; done) | rfl
def Q_rm_mulJ (Z : State)  (h0 : Heap) (n0 : Nat) (v : Option Value) (h : Heap) (L : List Loc) : Prop := v = some (.long ((1 : Int64) * ((3600 : Int32).toInt64))) ∧ Fr n0 L ∧ h = h0
set_option maxRecDepth 65536 in
set_option maxHeartbeats 40000000 in
theorem rm_mulJ (l : Launch) (Z : State) (a0 : Array Value) (hw : ∀ d ∈ tables_1, d.before a0 Z = true) (ws : List Jvm.Cond)  (h0 : Heap) (n0 : Nat) (Z0 : n0 ≤ h0.size)  :
    MetFree l (⟨"java/lang/Math", "multiplyExact", "(JJ)J"⟩ : MethodName) (head1 (Jvm.Cond.code (⟨"java/lang/Math", "multiplyExact", "(JJ)J"⟩ : MethodName) jdk_29_method_30_code 10 (some .long) :: ws) ({ frames := 1, cells := 0, slots := 0, locals := 13 } : Room)) (fun a U => a = #[(.long (1 : Int64)), (.long ((3600 : Int32).toInt64))] ∧ Z.Warmed39 U.vm ∧ U.heap = h0) (fun _ _ _ _ _ => True) (fun _ U o U' => ∃ v L, o = .returned v ∧ Q_rm_mulJ Z  h0 n0 v U'.heap L ∧ FrameEnd U o U' L ({ frames := 1, cells := 0, slots := 0, locals := 13 } : Room).cells ({ frames := 1, cells := 0, slots := 0, locals := 13 } : Room).slots) := by
  refine MetFree.of_bodySF (Jvm.Free.JP.mathPlain rfl (by decide +kernel)) hisR ?_
  intro p e s m args below meth c s₁ Bd hml0 hP hK
  obtain ⟨rfl, hZ, hh⟩ := hP
  have hx := Bd.exec
  have hby := Bd.bytes
  have hml : c.maxLocals = 10 := hml0
  have hown : s.vm.findClass "java/lang/Math" = some m.cls := findClass_of_methodNamed Bd.named
  have hnm := (name_of_methodNamed Bd.named Bd.method).1
  have X0 : Stand p l e ({ frames := 1, cells := 0, slots := 0, locals := 13 } : Room) s m #[(.long (1 : Int64)), (.long ((3600 : Int32).toInt64))] below meth c s₁ [] 0 0 := Stand.of_body Bd
  have e0 : s₁.heap = h0 := by rw [← hh, Bd.state]; rfl
  have N0 := Fr.nil n0
  refine Go.start (Q := Q_rm_mulJ Z  h0 n0) (ef_rm_mulJ m ) ?_
  have sg1 : ∀ t, Steps p.tables e below (s₁.setTop (mkF m 6 #[.val (.long (1 : Int64)), .second, .val (.long ((3600 : Int32).toInt64)), .second, .val (.long ((1 : Int64) * ((3600 : Int32).toInt64))), .second, .unset, .unset, .unset, .unset] [(.long (1 : Int64))])) t → Steps p.tables e below (s₁.setTop (mkF m 0 #[.val (.long (1 : Int64)), .second, .val (.long ((3600 : Int32).toInt64)), .second, .unset, .unset, .unset, .unset, .unset, .unset] [])) t := by
    intro t kt
    show Steps p.tables e below (s₁.setTop (mkF m 0 #[.val (.long (1 : Int64)), .second, .val (.long ((3600 : Int32).toInt64)), .second, .unset, .unset, .unset, .unset, .unset, .unset] [])) _
    refine XS.lloadN X0.here hx rfl (hb hby d8_0) rfl ?_
    show Steps p.tables e below (s₁.setTop (mkF m 1 #[.val (.long (1 : Int64)), .second, .val (.long ((3600 : Int32).toInt64)), .second, .unset, .unset, .unset, .unset, .unset, .unset] [(.long (1 : Int64))])) _
    refine XS.lloadN X0.here hx rfl (hb hby d8_1) rfl ?_
    show Steps p.tables e below (s₁.setTop (mkF m 2 #[.val (.long (1 : Int64)), .second, .val (.long ((3600 : Int32).toInt64)), .second, .unset, .unset, .unset, .unset, .unset, .unset] [(.long ((3600 : Int32).toInt64)), (.long (1 : Int64))])) _
    refine XS.lmul X0.here hx rfl (hb hby d8_2) rfl ?_
    show Steps p.tables e below (s₁.setTop (mkF m 3 #[.val (.long (1 : Int64)), .second, .val (.long ((3600 : Int32).toInt64)), .second, .unset, .unset, .unset, .unset, .unset, .unset] [(.long ((1 : Int64) * ((3600 : Int32).toInt64)))])) _
    refine XS.lstore X0.here hx rfl (hb hby d8_3) rfl (l' := #[.val (.long (1 : Int64)), .second, .val (.long ((3600 : Int32).toInt64)), .second, .val (.long ((1 : Int64) * ((3600 : Int32).toInt64))), .second, .unset, .unset, .unset, .unset]) rfl ?_
    show Steps p.tables e below (s₁.setTop (mkF m 5 #[.val (.long (1 : Int64)), .second, .val (.long ((3600 : Int32).toInt64)), .second, .val (.long ((1 : Int64) * ((3600 : Int32).toInt64))), .second, .unset, .unset, .unset, .unset] [])) _
    refine XS.lloadN X0.here hx rfl (hb hby d8_5) rfl ?_
    exact kt
  refine Go.adv sg1 ?_
  obtain ⟨_, _, ⟨T2, L2, k2, n2⟩, -, X2, ⟨Lc2, hQ2, l2, y2, z2⟩, st2⟩ := Jvm.LawKit.callS X0 hx (y := (⟨"java/lang/Math", "abs", "(J)J"⟩ : MethodName)) hown (mvT hZ (hw _ (List.mem_of_getElem? (i := 45) rfl))) (mvT hZ (hw _ (List.mem_of_getElem? (i := 46) rfl))) (mvT hZ (hw _ (List.mem_of_getElem? (i := 40) rfl))) (mvT hZ (hw _ (List.mem_of_getElem? (i := 47) rfl))) (by decide) (backOf (W := 0) (rm_abs l Z a0 hw [] (1 : Int64)  h0 n0 Z0 (by decide)) hZ (hw _ (List.mem_of_getElem? (i := 47) rfl)) (hw _ (List.mem_of_getElem? (i := 40) rfl)) (by decide) (by decide)) (g := (mkF m 6 #[.val (.long (1 : Int64)), .second, .val (.long ((3600 : Int32).toInt64)), .second, .val (.long ((1 : Int64) * ((3600 : Int32).toInt64))), .second, .unset, .unset, .unset, .unset] [(.long (1 : Int64))])) rfl (by rw [hml]; rfl) (argsL := [(.long (1 : Int64))]) (rest := []) (lenOf pd_oJcJ rfl) rfl (by show 2 * 0 + _ ≤ _; exact Nat.le_of_eq rfl) (hb hby d8_6) (fun _ _ => ⟨rfl, e0, (by decide : 0 + 0 ≤ _), (by decide : 0 + 0 ≤ _)⟩)
  dsimp only [Pt.U, Pt.locs, Pt.cells, Pt.slots] at X2 l2 y2 z2 st2 hQ2
  subst l2 y2 z2
  obtain ⟨rfl, N2q, e2⟩ := hQ2
  have N2 := Fr.app N0 N2q
  refine Go.adv st2 ?_
  show Go p.tables e below s _ _ _ (T2.setTop (mkF m 9 #[.val (.long (1 : Int64)), .second, .val (.long ((3600 : Int32).toInt64)), .second, .val (.long ((1 : Int64) * ((3600 : Int32).toInt64))), .second, .unset, .unset, .unset, .unset] [(.long (1 : Int64))]))
  have sg3 : ∀ t, Steps p.tables e below (T2.setTop (mkF m 12 #[.val (.long (1 : Int64)), .second, .val (.long ((3600 : Int32).toInt64)), .second, .val (.long ((1 : Int64) * ((3600 : Int32).toInt64))), .second, .val (.long (1 : Int64)), .second, .unset, .unset] [(.long ((3600 : Int32).toInt64))])) t → Steps p.tables e below (T2.setTop (mkF m 9 #[.val (.long (1 : Int64)), .second, .val (.long ((3600 : Int32).toInt64)), .second, .val (.long ((1 : Int64) * ((3600 : Int32).toInt64))), .second, .unset, .unset, .unset, .unset] [(.long (1 : Int64))])) t := by
    intro t kt
    show Steps p.tables e below (T2.setTop (mkF m 9 #[.val (.long (1 : Int64)), .second, .val (.long ((3600 : Int32).toInt64)), .second, .val (.long ((1 : Int64) * ((3600 : Int32).toInt64))), .second, .unset, .unset, .unset, .unset] [(.long (1 : Int64))])) _
    refine XS.lstore X2.here hx rfl (hb hby d8_9) rfl (l' := #[.val (.long (1 : Int64)), .second, .val (.long ((3600 : Int32).toInt64)), .second, .val (.long ((1 : Int64) * ((3600 : Int32).toInt64))), .second, .val (.long (1 : Int64)), .second, .unset, .unset]) rfl ?_
    show Steps p.tables e below (T2.setTop (mkF m 11 #[.val (.long (1 : Int64)), .second, .val (.long ((3600 : Int32).toInt64)), .second, .val (.long ((1 : Int64) * ((3600 : Int32).toInt64))), .second, .val (.long (1 : Int64)), .second, .unset, .unset] [])) _
    refine XS.lloadN X2.here hx rfl (hb hby d8_11) rfl ?_
    exact kt
  refine Go.adv sg3 ?_
  obtain ⟨_, _, ⟨T4, L4, k4, n4⟩, -, X4, ⟨Lc4, hQ4, l4, y4, z4⟩, st4⟩ := Jvm.LawKit.callS X2 hx (y := (⟨"java/lang/Math", "abs", "(J)J"⟩ : MethodName)) hown (mvT hZ (hw _ (List.mem_of_getElem? (i := 45) rfl))) (mvT hZ (hw _ (List.mem_of_getElem? (i := 46) rfl))) (mvT hZ (hw _ (List.mem_of_getElem? (i := 40) rfl))) (mvT hZ (hw _ (List.mem_of_getElem? (i := 47) rfl))) (by decide) (backOf (W := 0) (rm_abs l Z a0 hw [] ((3600 : Int32).toInt64)  h0 n0 Z0 (by decide)) hZ (hw _ (List.mem_of_getElem? (i := 47) rfl)) (hw _ (List.mem_of_getElem? (i := 40) rfl)) (by decide) (by decide)) (g := (mkF m 12 #[.val (.long (1 : Int64)), .second, .val (.long ((3600 : Int32).toInt64)), .second, .val (.long ((1 : Int64) * ((3600 : Int32).toInt64))), .second, .val (.long (1 : Int64)), .second, .unset, .unset] [(.long ((3600 : Int32).toInt64))])) rfl (by rw [hml]; rfl) (argsL := [(.long ((3600 : Int32).toInt64))]) (rest := []) (lenOf pd_oJcJ rfl) rfl (by show 2 * 0 + _ ≤ _; exact Nat.le_of_eq rfl) (hb hby d8_12) (fun _ _ => ⟨rfl, e2, (by decide : 0 + 0 ≤ _), (by decide : 0 + 0 ≤ _)⟩)
  dsimp only [Pt.U, Pt.locs, Pt.cells, Pt.slots] at X4 l4 y4 z4 st4 hQ4
  subst l4 y4 z4
  obtain ⟨rfl, N4q, e4⟩ := hQ4
  have N4 := Fr.app N2 N4q
  refine Go.adv st4 ?_
  show Go p.tables e below s _ _ _ (T4.setTop (mkF m 15 #[.val (.long (1 : Int64)), .second, .val (.long ((3600 : Int32).toInt64)), .second, .val (.long ((1 : Int64) * ((3600 : Int32).toInt64))), .second, .val (.long (1 : Int64)), .second, .unset, .unset] [(.long ((3600 : Int32).toInt64))]))
  have sg5 : ∀ t, Steps p.tables e below (T4.setTop (mkF m 73 #[.val (.long (1 : Int64)), .second, .val (.long ((3600 : Int32).toInt64)), .second, .val (.long ((1 : Int64) * ((3600 : Int32).toInt64))), .second, .val (.long (1 : Int64)), .second, .val (.long ((3600 : Int32).toInt64)), .second] [(.long ((1 : Int64) * ((3600 : Int32).toInt64)))])) t → Steps p.tables e below (T4.setTop (mkF m 15 #[.val (.long (1 : Int64)), .second, .val (.long ((3600 : Int32).toInt64)), .second, .val (.long ((1 : Int64) * ((3600 : Int32).toInt64))), .second, .val (.long (1 : Int64)), .second, .unset, .unset] [(.long ((3600 : Int32).toInt64))])) t := by
    intro t kt
    show Steps p.tables e below (T4.setTop (mkF m 15 #[.val (.long (1 : Int64)), .second, .val (.long ((3600 : Int32).toInt64)), .second, .val (.long ((1 : Int64) * ((3600 : Int32).toInt64))), .second, .val (.long (1 : Int64)), .second, .unset, .unset] [(.long ((3600 : Int32).toInt64))])) _
    refine XS.lstore X4.here hx rfl (hb hby d8_15) rfl (l' := #[.val (.long (1 : Int64)), .second, .val (.long ((3600 : Int32).toInt64)), .second, .val (.long ((1 : Int64) * ((3600 : Int32).toInt64))), .second, .val (.long (1 : Int64)), .second, .val (.long ((3600 : Int32).toInt64)), .second]) rfl ?_
    show Steps p.tables e below (T4.setTop (mkF m 17 #[.val (.long (1 : Int64)), .second, .val (.long ((3600 : Int32).toInt64)), .second, .val (.long ((1 : Int64) * ((3600 : Int32).toInt64))), .second, .val (.long (1 : Int64)), .second, .val (.long ((3600 : Int32).toInt64)), .second] [])) _
    refine XS.lload X4.here hx rfl (hb hby d8_17) rfl ?_
    show Steps p.tables e below (T4.setTop (mkF m 19 #[.val (.long (1 : Int64)), .second, .val (.long ((3600 : Int32).toInt64)), .second, .val (.long ((1 : Int64) * ((3600 : Int32).toInt64))), .second, .val (.long (1 : Int64)), .second, .val (.long ((3600 : Int32).toInt64)), .second] [(.long (1 : Int64))])) _
    refine XS.lload X4.here hx rfl (hb hby d8_19) rfl ?_
    show Steps p.tables e below (T4.setTop (mkF m 21 #[.val (.long (1 : Int64)), .second, .val (.long ((3600 : Int32).toInt64)), .second, .val (.long ((1 : Int64) * ((3600 : Int32).toInt64))), .second, .val (.long (1 : Int64)), .second, .val (.long ((3600 : Int32).toInt64)), .second] [(.long ((3600 : Int32).toInt64)), (.long (1 : Int64))])) _
    refine XS.lor X4.here hx rfl (hb hby d8_21) rfl ?_
    show Steps p.tables e below (T4.setTop (mkF m 22 #[.val (.long (1 : Int64)), .second, .val (.long ((3600 : Int32).toInt64)), .second, .val (.long ((1 : Int64) * ((3600 : Int32).toInt64))), .second, .val (.long (1 : Int64)), .second, .val (.long ((3600 : Int32).toInt64)), .second] [(.long ((1 : Int64) ||| ((3600 : Int32).toInt64)))])) _
    refine XS.bipush X4.here hx rfl (hb hby d8_22) ?_
    show Steps p.tables e below (T4.setTop (mkF m 24 #[.val (.long (1 : Int64)), .second, .val (.long ((3600 : Int32).toInt64)), .second, .val (.long ((1 : Int64) * ((3600 : Int32).toInt64))), .second, .val (.long (1 : Int64)), .second, .val (.long ((3600 : Int32).toInt64)), .second] [(.int (31 : Int32)), (.long ((1 : Int64) ||| ((3600 : Int32).toInt64)))])) _
    refine XS.lushr X4.here hx rfl (hb hby d8_24) rfl ?_
    show Steps p.tables e below (T4.setTop (mkF m 25 #[.val (.long (1 : Int64)), .second, .val (.long ((3600 : Int32).toInt64)), .second, .val (.long ((1 : Int64) * ((3600 : Int32).toInt64))), .second, .val (.long (1 : Int64)), .second, .val (.long ((3600 : Int32).toInt64)), .second] [(.long ((((1 : Int64) ||| ((3600 : Int32).toInt64)).toUInt64 >>> ((31 : Int32) &&& 0x3f).toInt64.toUInt64).toInt64))])) _
    refine XS.lconst X4.here hx rfl (hb hby d8_25) ?_
    show Steps p.tables e below (T4.setTop (mkF m 26 #[.val (.long (1 : Int64)), .second, .val (.long ((3600 : Int32).toInt64)), .second, .val (.long ((1 : Int64) * ((3600 : Int32).toInt64))), .second, .val (.long (1 : Int64)), .second, .val (.long ((3600 : Int32).toInt64)), .second] [(.long (0 : Int64)), (.long ((((1 : Int64) ||| ((3600 : Int32).toInt64)).toUInt64 >>> ((31 : Int32) &&& 0x3f).toInt64.toUInt64).toInt64))])) _
    refine XS.lcmp X4.here hx rfl (hb hby d8_26) rfl ?_
    show Steps p.tables e below (T4.setTop (mkF m 27 #[.val (.long (1 : Int64)), .second, .val (.long ((3600 : Int32).toInt64)), .second, .val (.long ((1 : Int64) * ((3600 : Int32).toInt64))), .second, .val (.long (1 : Int64)), .second, .val (.long ((3600 : Int32).toInt64)), .second] [(.int (lcmpW ((((1 : Int64) ||| ((3600 : Int32).toInt64)).toUInt64 >>> ((31 : Int32) &&& 0x3f).toInt64.toUInt64).toInt64) (0 : Int64)))])) _
    refine XS.ifYes X4.here hx rfl (pc0 := 27) (pc' := 71) rfl (hb hby d8_27) rfl ((if0 _ _).trans (teq (own_lc_eq (by decide) : (lcmpW ((((1 : Int64) ||| ((3600 : Int32).toInt64)).toUInt64 >>> ((31 : Int32) &&& 0x3f).toInt64.toUInt64).toInt64) (0 : Int64)) = (0 : Int32))).1) (by decide) (by decide) ?_
    show Steps p.tables e below (T4.setTop (mkF m 71 #[.val (.long (1 : Int64)), .second, .val (.long ((3600 : Int32).toInt64)), .second, .val (.long ((1 : Int64) * ((3600 : Int32).toInt64))), .second, .val (.long (1 : Int64)), .second, .val (.long ((3600 : Int32).toInt64)), .second] [])) _
    refine XS.lload X4.here hx rfl (hb hby d8_71) rfl ?_
    exact kt
  refine Go.adv sg5 ?_
  refine Go.ret (v := (some (.long ((1 : Int64) * ((3600 : Int32).toInt64))))) X4 (fun h => by rw [Bd.returns] at h; cases h) Bd.notSynchronized (fun fs hr => retOut X4 hx Bd.returns rfl (Or.inr (Or.inl ⟨rfl, rfl, _, rfl⟩)) (hb hby d8_73) hr) ?_ (by decide) (by decide)
  show Q_rm_mulJ Z  h0 n0 (some (.long ((1 : Int64) * ((3600 : Int32).toInt64)))) T4.heap _
  rw [e4]
  exact ⟨rfl, N4, rfl⟩
theorem d7_0 : decode jdk_29_method_29_code 0 = .ok (.lload_n 0, 1) := by decide +kernel
theorem d7_1 : decode jdk_29_method_29_code 1 = .ok (.iload_n 2, 1) := by decide +kernel
theorem d7_2 : decode jdk_29_method_29_code 2 = .ok (.i2l, 1) := by decide +kernel
theorem d7_3 : decode jdk_29_method_29_code 3 = .ok (.invokestatic 118, 3) := by decide +kernel
theorem pd_oJJcJ : parseMethodDescriptor "(JJ)J" = some ⟨[.long, .long], some .long⟩ := by decide +kernel
theorem d7_6 : decode jdk_29_method_29_code 6 = .ok (.lreturn, 1) := by decide +kernel
theorem ef_rm_mulI (m : MethodId)  : entryFrame m #[(.long (1 : Int64)), (.int (3600 : Int32))] 3 = mkF m 0 #[.val (.long (1 : Int64)), .second, .val (.int (3600 : Int32))] [] := by first | (simp [entryFrame, mkF, argsToLocals, Value.category]; done) | rfl
def Q_rm_mulI (Z : State)  (h0 : Heap) (n0 : Nat) (v : Option Value) (h : Heap) (L : List Loc) : Prop := v = some (.long ((1 : Int64) * ((3600 : Int32).toInt64))) ∧ Fr n0 L ∧ h = h0
set_option maxRecDepth 65536 in
set_option maxHeartbeats 40000000 in
theorem rm_mulI (l : Launch) (Z : State) (a0 : Array Value) (hw : ∀ d ∈ tables_1, d.before a0 Z = true) (ws : List Jvm.Cond)  (h0 : Heap) (n0 : Nat) (Z0 : n0 ≤ h0.size)  :
    MetFree l (⟨"java/lang/Math", "multiplyExact", "(JI)J"⟩ : MethodName) (head1 (Jvm.Cond.code (⟨"java/lang/Math", "multiplyExact", "(JI)J"⟩ : MethodName) jdk_29_method_29_code 3 (some .long) :: ws) ({ frames := 2, cells := 0, slots := 0, locals := 34 } : Room)) (fun a U => a = #[(.long (1 : Int64)), (.int (3600 : Int32))] ∧ Z.Warmed39 U.vm ∧ U.heap = h0) (fun _ _ _ _ _ => True) (fun _ U o U' => ∃ v L, o = .returned v ∧ Q_rm_mulI Z  h0 n0 v U'.heap L ∧ FrameEnd U o U' L ({ frames := 2, cells := 0, slots := 0, locals := 34 } : Room).cells ({ frames := 2, cells := 0, slots := 0, locals := 34 } : Room).slots) := by
  refine MetFree.of_bodySF (Jvm.Free.JP.mathPlain rfl (by decide +kernel)) hisR ?_
  intro p e s m args below meth c s₁ Bd hml0 hP hK
  obtain ⟨rfl, hZ, hh⟩ := hP
  have hx := Bd.exec
  have hby := Bd.bytes
  have hml : c.maxLocals = 3 := hml0
  have hown : s.vm.findClass "java/lang/Math" = some m.cls := findClass_of_methodNamed Bd.named
  have hnm := (name_of_methodNamed Bd.named Bd.method).1
  have X0 : Stand p l e ({ frames := 2, cells := 0, slots := 0, locals := 34 } : Room) s m #[(.long (1 : Int64)), (.int (3600 : Int32))] below meth c s₁ [] 0 0 := Stand.of_body Bd
  have e0 : s₁.heap = h0 := by rw [← hh, Bd.state]; rfl
  have N0 := Fr.nil n0
  refine Go.start (Q := Q_rm_mulI Z  h0 n0) (ef_rm_mulI m ) ?_
  have sg1 : ∀ t, Steps p.tables e below (s₁.setTop (mkF m 3 #[.val (.long (1 : Int64)), .second, .val (.int (3600 : Int32))] [(.long ((3600 : Int32).toInt64)), (.long (1 : Int64))])) t → Steps p.tables e below (s₁.setTop (mkF m 0 #[.val (.long (1 : Int64)), .second, .val (.int (3600 : Int32))] [])) t := by
    intro t kt
    show Steps p.tables e below (s₁.setTop (mkF m 0 #[.val (.long (1 : Int64)), .second, .val (.int (3600 : Int32))] [])) _
    refine XS.lloadN X0.here hx rfl (hb hby d7_0) rfl ?_
    show Steps p.tables e below (s₁.setTop (mkF m 1 #[.val (.long (1 : Int64)), .second, .val (.int (3600 : Int32))] [(.long (1 : Int64))])) _
    refine XS.iloadN X0.here hx rfl (hb hby d7_1) rfl ?_
    show Steps p.tables e below (s₁.setTop (mkF m 2 #[.val (.long (1 : Int64)), .second, .val (.int (3600 : Int32))] [(.int (3600 : Int32)), (.long (1 : Int64))])) _
    refine XS.i2l X0.here hx rfl (hb hby d7_2) rfl ?_
    exact kt
  refine Go.adv sg1 ?_
  obtain ⟨_, _, ⟨T2, L2, k2, n2⟩, -, X2, ⟨Lc2, hQ2, l2, y2, z2⟩, st2⟩ := Jvm.LawKit.callS X0 hx (y := (⟨"java/lang/Math", "multiplyExact", "(JJ)J"⟩ : MethodName)) hown (mvT hZ (hw _ (List.mem_of_getElem? (i := 42) rfl))) (mvT hZ (hw _ (List.mem_of_getElem? (i := 43) rfl))) (mvT hZ (hw _ (List.mem_of_getElem? (i := 40) rfl))) (mvT hZ (hw _ (List.mem_of_getElem? (i := 44) rfl))) (by decide) (backOf (W := 0) (rm_mulJ l Z a0 hw []   h0 n0 Z0 ) hZ (hw _ (List.mem_of_getElem? (i := 44) rfl)) (hw _ (List.mem_of_getElem? (i := 40) rfl)) (by decide) (by decide)) (g := (mkF m 3 #[.val (.long (1 : Int64)), .second, .val (.int (3600 : Int32))] [(.long ((3600 : Int32).toInt64)), (.long (1 : Int64))])) rfl (by rw [hml]; rfl) (argsL := [(.long (1 : Int64)), (.long ((3600 : Int32).toInt64))]) (rest := []) (lenOf pd_oJJcJ rfl) rfl (by show 2 * 0 + _ ≤ _; exact Nat.le_of_eq rfl) (hb hby d7_3) (fun _ _ => ⟨rfl, e0, (by decide : 0 + 0 ≤ _), (by decide : 0 + 0 ≤ _)⟩)
  dsimp only [Pt.U, Pt.locs, Pt.cells, Pt.slots] at X2 l2 y2 z2 st2 hQ2
  subst l2 y2 z2
  obtain ⟨rfl, N2q, e2⟩ := hQ2
  have N2 := Fr.app N0 N2q
  refine Go.adv st2 ?_
  show Go p.tables e below s _ _ _ (T2.setTop (mkF m 6 #[.val (.long (1 : Int64)), .second, .val (.int (3600 : Int32))] [(.long ((1 : Int64) * ((3600 : Int32).toInt64)))]))
  refine Go.ret (v := (some (.long ((1 : Int64) * ((3600 : Int32).toInt64))))) X2 (fun h => by rw [Bd.returns] at h; cases h) Bd.notSynchronized (fun fs hr => retOut X2 hx Bd.returns rfl (Or.inr (Or.inl ⟨rfl, rfl, _, rfl⟩)) (hb hby d7_6) hr) ?_ (by decide) (by decide)
  show Q_rm_mulI Z  h0 n0 (some (.long ((1 : Int64) * ((3600 : Int32).toInt64)))) T2.heap _
  rw [e2]
  exact ⟨rfl, N2, rfl⟩
theorem pn6 : plainName "java/time/Duration" = true := by first | (simp [plainName, overriddenIn]; done) | decide +kernel
theorem d6_0 : decode jdk_2316_method_2_code 0 = .ok (.lload_n 0, 1) := by decide +kernel
theorem d6_1 : decode jdk_2316_method_2_code 1 = .ok (.sipush 3600, 3) := by decide +kernel
theorem d6_4 : decode jdk_2316_method_2_code 4 = .ok (.invokestatic 4, 3) := by decide +kernel
theorem pd_oJIcJ : parseMethodDescriptor "(JI)J" = some ⟨[.long, .int], some .long⟩ := by decide +kernel
theorem d6_7 : decode jdk_2316_method_2_code 7 = .ok (.iconst 0, 1) := by decide +kernel
theorem d6_8 : decode jdk_2316_method_2_code 8 = .ok (.invokestatic 10, 3) := by decide +kernel
theorem d6_11 : decode jdk_2316_method_2_code 11 = .ok (.areturn, 1) := by decide +kernel
theorem ef_rm_ofHours (m : MethodId)  : entryFrame m #[(.long (1 : Int64))] 2 = mkF m 0 #[.val (.long (1 : Int64)), .second] [] := by first | (simp [entryFrame, mkF, argsToLocals, Value.category]; done) | rfl
def Q_rm_ofHours (Z : State)  (h0 : Heap) (n0 : Nat) (v : Option Value) (h : Heap) (L : List Loc) : Prop := ∃ bo : Addr, v = some (.ref bo) ∧ Fr n0 L ∧ Keep h0 h [] ∧ h0.size ≤ bo ∧ Exa Z h bo "java/time/Duration" ∧ Fld Z h bo "java/time/Duration" "seconds" "J" (.long ((1 : Int64) * ((3600 : Int32).toInt64))) ∧ Fld Z h bo "java/time/Duration" "nanos" "I" (.int (0 : Int32))
set_option maxRecDepth 65536 in
set_option maxHeartbeats 40000000 in
theorem rm_ofHours (l : Launch) (Z : State) (a0 : Array Value) (hw : ∀ d ∈ tables_1, d.before a0 Z = true) (ws : List Jvm.Cond)  (h0 : Heap) (n0 : Nat) (Z0 : n0 ≤ h0.size)  :
    MetFree l (⟨"java/time/Duration", "ofHours", "(J)Ljava/time/Duration;"⟩ : MethodName) (head1 (Jvm.Cond.code (⟨"java/time/Duration", "ofHours", "(J)Ljava/time/Duration;"⟩ : MethodName) jdk_2316_method_2_code 2 (some (.object "java/time/Duration")) :: ws) ({ frames := 3, cells := 1, slots := 2, locals := 48 } : Room)) (fun a U => a = #[(.long (1 : Int64))] ∧ Z.Warmed39 U.vm ∧ U.heap = h0) (fun _ _ _ _ _ => True) (fun _ U o U' => ∃ v L, o = .returned v ∧ Q_rm_ofHours Z  h0 n0 v U'.heap L ∧ FrameEnd U o U' L ({ frames := 3, cells := 1, slots := 2, locals := 48 } : Room).cells ({ frames := 3, cells := 1, slots := 2, locals := 48 } : Room).slots) := by
  refine MetFree.of_bodySF (plainFor_of_name pn6) hisR ?_
  intro p e s m args below meth c s₁ Bd hml0 hP hK
  obtain ⟨rfl, hZ, hh⟩ := hP
  have hx := Bd.exec
  have hby := Bd.bytes
  have hml : c.maxLocals = 2 := hml0
  have hown : s.vm.findClass "java/time/Duration" = some m.cls := findClass_of_methodNamed Bd.named
  have hnm := (name_of_methodNamed Bd.named Bd.method).1
  have X0 : Stand p l e ({ frames := 3, cells := 1, slots := 2, locals := 48 } : Room) s m #[(.long (1 : Int64))] below meth c s₁ [] 0 0 := Stand.of_body Bd
  have e0 : s₁.heap = h0 := by rw [← hh, Bd.state]; rfl
  have N0 := Fr.nil n0
  refine Go.start (Q := Q_rm_ofHours Z  h0 n0) (ef_rm_ofHours m ) ?_
  have sg1 : ∀ t, Steps p.tables e below (s₁.setTop (mkF m 4 #[.val (.long (1 : Int64)), .second] [(.int (3600 : Int32)), (.long (1 : Int64))])) t → Steps p.tables e below (s₁.setTop (mkF m 0 #[.val (.long (1 : Int64)), .second] [])) t := by
    intro t kt
    show Steps p.tables e below (s₁.setTop (mkF m 0 #[.val (.long (1 : Int64)), .second] [])) _
    refine XS.lloadN X0.here hx rfl (hb hby d6_0) rfl ?_
    show Steps p.tables e below (s₁.setTop (mkF m 1 #[.val (.long (1 : Int64)), .second] [(.long (1 : Int64))])) _
    refine XS.sipush X0.here hx rfl (hb hby d6_1) ?_
    exact kt
  refine Go.adv sg1 ?_
  obtain ⟨_, _, ⟨T2, L2, k2, n2⟩, -, X2, ⟨Lc2, hQ2, l2, y2, z2⟩, st2⟩ := Jvm.LawKit.callS X0 hx (y := (⟨"java/lang/Math", "multiplyExact", "(JI)J"⟩ : MethodName)) hown (mvT hZ (hw _ (List.mem_of_getElem? (i := 38) rfl))) (mvT hZ (hw _ (List.mem_of_getElem? (i := 39) rfl))) (mvT hZ (hw _ (List.mem_of_getElem? (i := 40) rfl))) (mvT hZ (hw _ (List.mem_of_getElem? (i := 41) rfl))) (by decide) (backOf (W := 0) (rm_mulI l Z a0 hw []   h0 n0 Z0 ) hZ (hw _ (List.mem_of_getElem? (i := 41) rfl)) (hw _ (List.mem_of_getElem? (i := 40) rfl)) (by decide) (by decide)) (g := (mkF m 4 #[.val (.long (1 : Int64)), .second] [(.int (3600 : Int32)), (.long (1 : Int64))])) rfl (by rw [hml]; rfl) (argsL := [(.long (1 : Int64)), (.int (3600 : Int32))]) (rest := []) (lenOf pd_oJIcJ rfl) rfl (by show 2 * 0 + _ ≤ _; exact Nat.le_of_eq rfl) (hb hby d6_4) (fun _ _ => ⟨rfl, e0, (by decide : 0 + 0 ≤ _), (by decide : 0 + 0 ≤ _)⟩)
  dsimp only [Pt.U, Pt.locs, Pt.cells, Pt.slots] at X2 l2 y2 z2 st2 hQ2
  subst l2 y2 z2
  obtain ⟨rfl, N2q, e2⟩ := hQ2
  have N2 := Fr.app N0 N2q
  refine Go.adv st2 ?_
  show Go p.tables e below s _ _ _ (T2.setTop (mkF m 7 #[.val (.long (1 : Int64)), .second] [(.long ((1 : Int64) * ((3600 : Int32).toInt64)))]))
  have sg3 : ∀ t, Steps p.tables e below (T2.setTop (mkF m 8 #[.val (.long (1 : Int64)), .second] [(.int (0 : Int32)), (.long ((1 : Int64) * ((3600 : Int32).toInt64)))])) t → Steps p.tables e below (T2.setTop (mkF m 7 #[.val (.long (1 : Int64)), .second] [(.long ((1 : Int64) * ((3600 : Int32).toInt64)))])) t := by
    intro t kt
    show Steps p.tables e below (T2.setTop (mkF m 7 #[.val (.long (1 : Int64)), .second] [(.long ((1 : Int64) * ((3600 : Int32).toInt64)))])) _
    refine XS.iconst X2.here hx rfl (hb hby d6_7) ?_
    exact kt
  refine Go.adv sg3 ?_
  obtain ⟨_, _, ⟨T4, L4, k4, n4⟩, -, X4, ⟨Lc4, hQ4, l4, y4, z4⟩, st4⟩ := Jvm.LawKit.callS X2 hx (y := (⟨"java/time/Duration", "create", "(JI)Ljava/time/Duration;"⟩ : MethodName)) hown (mvT hZ (hw _ (List.mem_of_getElem? (i := 20) rfl))) (mvT hZ (hw _ (List.mem_of_getElem? (i := 21) rfl))) (mvT hZ (hw _ (List.mem_of_getElem? (i := 18) rfl))) (mvT hZ (hw _ (List.mem_of_getElem? (i := 22) rfl))) (by decide) (backOf (W := 0) (rm_create l Z a0 hw [] ((1 : Int64) * ((3600 : Int32).toInt64)) (0 : Int32)  h0 n0 Z0 (by decide)) hZ (hw _ (List.mem_of_getElem? (i := 22) rfl)) (hw _ (List.mem_of_getElem? (i := 18) rfl)) (by decide) (by decide)) (g := (mkF m 8 #[.val (.long (1 : Int64)), .second] [(.int (0 : Int32)), (.long ((1 : Int64) * ((3600 : Int32).toInt64)))])) rfl (by rw [hml]; rfl) (argsL := [(.long ((1 : Int64) * ((3600 : Int32).toInt64))), (.int (0 : Int32))]) (rest := []) (lenOf pd_oJIcLjavastimesDuratione rfl) rfl (by show 2 * 0 + _ ≤ _; exact Nat.le_of_eq rfl) (hb hby d6_8) (fun _ _ => ⟨rfl, e2, (by decide : 0 + 1 ≤ _), (by decide : 0 + 2 ≤ _)⟩)
  dsimp only [Pt.U, Pt.locs, Pt.cells, Pt.slots] at X4 l4 y4 z4 st4 hQ4
  subst l4 y4 z4
  obtain ⟨b4, rfl, N4q, Kc4, p4_0, p4_1, p4_2, p4_3⟩ := hQ4
  have N4 := Fr.app N2 N4q
  have K4 : Keep h0 T4.heap [] := (Keep.refl h0 []).trans Kc4 all0
  have Z4 : n0 ≤ T4.heap.size := Nat.le_trans Z0 Kc4.1
  have g_b4 : n0 ≤ b4 := Nat.le_trans Z0 p4_0
  have sz_b4 : h0.size ≤ b4 := Nat.le_trans (Keep.refl h0 []).1 p4_0
  refine Go.adv st4 ?_
  show Go p.tables e below s _ _ _ (T4.setTop (mkF m 11 #[.val (.long (1 : Int64)), .second] [(.ref b4)]))
  refine Go.ret (v := (some (.ref b4))) X4 (fun h => by rw [Bd.returns] at h; cases h) Bd.notSynchronized (fun fs hr => retOut X4 hx Bd.returns rfl (Or.inr (Or.inr (Or.inr (Or.inr ⟨rfl, rfl, rfl⟩)))) (hb hby d6_11) hr) ?_ (by decide) (by decide)
  show Q_rm_ofHours Z  h0 n0 (some (.ref b4)) T4.heap _
  exact ⟨b4, rfl, N4, K4, sz_b4, p4_1, p4_2, p4_3⟩
theorem pn12 : plainName "java/util/Objects" = true := by first | (simp [plainName, overriddenIn]; done) | decide +kernel
theorem d12_0 : decode jdk_31_method_11_code 0 = .ok (.aload_n 0, 1) := by decide +kernel
theorem d12_1 : decode jdk_31_method_11_code 1 = .ok (.ifnonnull 12, 3) := by decide +kernel
theorem d12_13 : decode jdk_31_method_11_code 13 = .ok (.aload_n 0, 1) := by decide +kernel
theorem d12_14 : decode jdk_31_method_11_code 14 = .ok (.areturn, 1) := by decide +kernel
theorem ef_rm_nonnull (m : MethodId) (x0 : Addr) (x1 : Addr) : entryFrame m #[(.ref x0), (.ref x1)] 2 = mkF m 0 #[.val (.ref x0), .val (.ref x1)] [] := by first | (simp [entryFrame, mkF, argsToLocals, Value.category]; done) | rfl
def Q_rm_nonnull (Z : State) (a1 : Addr) (a2 : Addr) (h0 : Heap) (n0 : Nat) (v : Option Value) (h : Heap) (L : List Loc) : Prop := v = some (.ref a1) ∧ Fr n0 L ∧ h = h0
set_option maxRecDepth 65536 in
set_option maxHeartbeats 40000000 in
theorem rm_nonnull (l : Launch) (Z : State) (a0 : Array Value) (hw : ∀ d ∈ tables_1, d.before a0 Z = true) (ws : List Jvm.Cond) (a1 : Addr) (a2 : Addr) (h0 : Heap) (n0 : Nat) (Z0 : n0 ≤ h0.size)  :
    MetFree l (⟨"java/util/Objects", "requireNonNull", "(Ljava/lang/Object;Ljava/lang/String;)Ljava/lang/Object;"⟩ : MethodName) (head1 (Jvm.Cond.code (⟨"java/util/Objects", "requireNonNull", "(Ljava/lang/Object;Ljava/lang/String;)Ljava/lang/Object;"⟩ : MethodName) jdk_31_method_11_code 2 (some (.object "java/lang/Object")) :: ws) ({ frames := 0, cells := 0, slots := 0, locals := 0 } : Room)) (fun a U => a = #[(.ref a1), (.ref a2)] ∧ Z.Warmed39 U.vm ∧ U.heap = h0) (fun _ _ _ _ _ => True) (fun _ U o U' => ∃ v L, o = .returned v ∧ Q_rm_nonnull Z a1 a2 h0 n0 v U'.heap L ∧ FrameEnd U o U' L ({ frames := 0, cells := 0, slots := 0, locals := 0 } : Room).cells ({ frames := 0, cells := 0, slots := 0, locals := 0 } : Room).slots) := by
  refine MetFree.of_bodySF (plainFor_of_name pn12) hisR ?_
  intro p e s m args below meth c s₁ Bd hml0 hP hK
  obtain ⟨rfl, hZ, hh⟩ := hP
  have hx := Bd.exec
  have hby := Bd.bytes
  have hml : c.maxLocals = 2 := hml0
  have hown : s.vm.findClass "java/util/Objects" = some m.cls := findClass_of_methodNamed Bd.named
  have hnm := (name_of_methodNamed Bd.named Bd.method).1
  have X0 : Stand p l e ({ frames := 0, cells := 0, slots := 0, locals := 0 } : Room) s m #[(.ref a1), (.ref a2)] below meth c s₁ [] 0 0 := Stand.of_body Bd
  have e0 : s₁.heap = h0 := by rw [← hh, Bd.state]; rfl
  have N0 := Fr.nil n0
  refine Go.start (Q := Q_rm_nonnull Z a1 a2 h0 n0) (ef_rm_nonnull m a1 a2) ?_
  have sg1 : ∀ t, Steps p.tables e below (s₁.setTop (mkF m 14 #[.val (.ref a1), .val (.ref a2)] [(.ref a1)])) t → Steps p.tables e below (s₁.setTop (mkF m 0 #[.val (.ref a1), .val (.ref a2)] [])) t := by
    intro t kt
    show Steps p.tables e below (s₁.setTop (mkF m 0 #[.val (.ref a1), .val (.ref a2)] [])) _
    refine XS.aloadN X0.here hx rfl (hb hby d12_0) rfl rfl ?_
    show Steps p.tables e below (s₁.setTop (mkF m 1 #[.val (.ref a1), .val (.ref a2)] [(.ref a1)])) _
    refine XS.ifnonnullYes X0.here hx rfl (pc0 := 1) (pc' := 13) rfl (hb hby d12_1) rfl (by decide) (by decide) ?_
    show Steps p.tables e below (s₁.setTop (mkF m 13 #[.val (.ref a1), .val (.ref a2)] [])) _
    refine XS.aloadN X0.here hx rfl (hb hby d12_13) rfl rfl ?_
    exact kt
  refine Go.adv sg1 ?_
  refine Go.ret (v := (some (.ref a1))) X0 (fun h => by rw [Bd.returns] at h; cases h) Bd.notSynchronized (fun fs hr => retOut X0 hx Bd.returns rfl (Or.inr (Or.inr (Or.inr (Or.inr ⟨rfl, rfl, rfl⟩)))) (hb hby d12_14) hr) ?_ (by decide) (by decide)
  show Q_rm_nonnull Z a1 a2 h0 n0 (some (.ref a1)) s₁.heap _
  rw [e0]
  exact ⟨rfl, N0, rfl⟩
theorem pn13 : plainName "java/time/Duration" = true := by first | (simp [plainName, overriddenIn]; done) | decide +kernel
theorem d13_0 : decode jdk_2316_method_22_code 0 = .ok (.aload_n 0, 1) := by decide +kernel
theorem d13_1 : decode jdk_2316_method_22_code 1 = .ok (.getfield 221, 3) := by decide +kernel
theorem d13_4 : decode jdk_2316_method_22_code 4 = .ok (.lconst 0, 1) := by decide +kernel
theorem d13_5 : decode jdk_2316_method_22_code 5 = .ok (.lcmp, 1) := by decide +kernel
theorem d13_6 : decode jdk_2316_method_22_code 6 = .ok (.ifCond .ge 7, 3) := by decide +kernel
theorem d13_13 : decode jdk_2316_method_22_code 13 = .ok (.iconst 0, 1) := by decide +kernel
theorem d13_14 : decode jdk_2316_method_22_code 14 = .ok (.ireturn, 1) := by decide +kernel
theorem ef_rm_isNeg (m : MethodId) (x0 : Addr) : entryFrame m #[(.ref x0)] 1 = mkF m 0 #[.val (.ref x0)] [] := by first | (simp [entryFrame, mkF, argsToLocals, Value.category]; done) | rfl
def Q_rm_isNeg (Z : State) (a1 : Addr) (sec : Int64) (h0 : Heap) (n0 : Nat) (v : Option Value) (h : Heap) (L : List Loc) : Prop := v = some (.int (0 : Int32)) ∧ Fr n0 L ∧ h = h0
set_option maxRecDepth 65536 in
set_option maxHeartbeats 40000000 in
theorem rm_isNeg (l : Launch) (Z : State) (a0 : Array Value) (hw : ∀ d ∈ tables_1, d.before a0 Z = true) (ws : List Jvm.Cond) (a1 : Addr) (sec : Int64) (h0 : Heap) (n0 : Nat) (Z0 : n0 ≤ h0.size) (F_seconds_a1 : Fld Z h0 a1 "java/time/Duration" "seconds" "J" (.long sec)) (hp : ¬ (sec < (0 : Int64))) :
    MetFree l (⟨"java/time/Duration", "isNegative", "()Z"⟩ : MethodName) (head1 (Jvm.Cond.code (⟨"java/time/Duration", "isNegative", "()Z"⟩ : MethodName) jdk_2316_method_22_code 1 (some .boolean) :: ws) ({ frames := 0, cells := 0, slots := 0, locals := 0 } : Room)) (fun a U => a = #[(.ref a1)] ∧ Z.Warmed39 U.vm ∧ U.heap = h0) (fun _ _ _ _ _ => True) (fun _ U o U' => ∃ v L, o = .returned v ∧ Q_rm_isNeg Z a1 sec h0 n0 v U'.heap L ∧ FrameEnd U o U' L ({ frames := 0, cells := 0, slots := 0, locals := 0 } : Room).cells ({ frames := 0, cells := 0, slots := 0, locals := 0 } : Room).slots) := by
  refine MetFree.of_bodySF (plainFor_of_name pn13) hisR ?_
  intro p e s m args below meth c s₁ Bd hml0 hP hK
  obtain ⟨rfl, hZ, hh⟩ := hP
  have hx := Bd.exec
  have hby := Bd.bytes
  have hml : c.maxLocals = 1 := hml0
  have hown : s.vm.findClass "java/time/Duration" = some m.cls := findClass_of_methodNamed Bd.named
  have hnm := (name_of_methodNamed Bd.named Bd.method).1
  have X0 : Stand p l e ({ frames := 0, cells := 0, slots := 0, locals := 0 } : Room) s m #[(.ref a1)] below meth c s₁ [] 0 0 := Stand.of_body Bd
  have e0 : s₁.heap = h0 := by rw [← hh, Bd.state]; rfl
  have N0 := Fr.nil n0
  refine Go.start (Q := Q_rm_isNeg Z a1 sec h0 n0) (ef_rm_isNeg m a1) ?_
  have sg1 : ∀ t, Steps p.tables e below (s₁.setTop (mkF m 1 #[.val (.ref a1)] [(.ref a1)])) t → Steps p.tables e below (s₁.setTop (mkF m 0 #[.val (.ref a1)] [])) t := by
    intro t kt
    show Steps p.tables e below (s₁.setTop (mkF m 0 #[.val (.ref a1)] [])) _
    refine XS.aloadN X0.here hx rfl (hb hby d13_0) rfl rfl ?_
    exact kt
  refine Go.adv sg1 ?_
  obtain ⟨T2, X2, e2, st2⟩ := getF X0 hx hZ hown (host := "") (Or.inl (hw _ (List.mem_of_getElem? (i := 30) rfl))) Via.refl e0 F_seconds_a1 (g := (mkF m 1 #[.val (.ref a1)] [(.ref a1)])) rfl rfl (hb hby d13_1)
  refine Go.adv st2 ?_
  show Go p.tables e below s _ _ _ (T2.setTop (mkF m 4 #[.val (.ref a1)] [(.long sec)]))
  have sg3 : ∀ t, Steps p.tables e below (T2.setTop (mkF m 14 #[.val (.ref a1)] [(.int (0 : Int32))])) t → Steps p.tables e below (T2.setTop (mkF m 4 #[.val (.ref a1)] [(.long sec)])) t := by
    intro t kt
    show Steps p.tables e below (T2.setTop (mkF m 4 #[.val (.ref a1)] [(.long sec)])) _
    refine XS.lconst X2.here hx rfl (hb hby d13_4) ?_
    show Steps p.tables e below (T2.setTop (mkF m 5 #[.val (.ref a1)] [(.long (0 : Int64)), (.long sec)])) _
    refine XS.lcmp X2.here hx rfl (hb hby d13_5) rfl ?_
    show Steps p.tables e below (T2.setTop (mkF m 6 #[.val (.ref a1)] [(.int (lcmpW sec (0 : Int64)))])) _
    refine XS.ifYes X2.here hx rfl (pc0 := 6) (pc' := 13) rfl (hb hby d13_6) rfl ((if0 _ _).trans (flt (own_lc_nlt hp : ¬ ((lcmpW sec (0 : Int64)) < (0 : Int32)))).2.1) (by decide) (by decide) ?_
    show Steps p.tables e below (T2.setTop (mkF m 13 #[.val (.ref a1)] [])) _
    refine XS.iconst X2.here hx rfl (hb hby d13_13) ?_
    exact kt
  refine Go.adv sg3 ?_
  refine Go.ret (v := (some (.int (0 : Int32)))) X2 (fun h => by rw [Bd.returns] at h; cases h) Bd.notSynchronized (fun fs hr => retN X2 hx (t := .boolean) Bd.returns (by simp) (hb hby d13_14) hr) ?_ (by decide) (by decide)
  show Q_rm_isNeg Z a1 sec h0 n0 (some (.int (0 : Int32))) T2.heap _
  rw [e2]
  exact ⟨rfl, N0, rfl⟩
theorem pn15 : plainName "java/lang/Long" = true := by first | (simp [plainName, overriddenIn]; done) | decide +kernel
theorem d15_0 : decode jdk_35_method_42_code 0 = .ok (.lload_n 0, 1) := by decide +kernel
theorem d15_1 : decode jdk_35_method_42_code 1 = .ok (.lload_n 2, 1) := by decide +kernel
theorem d15_2 : decode jdk_35_method_42_code 2 = .ok (.lcmp, 1) := by decide +kernel
theorem d15_3 : decode jdk_35_method_42_code 3 = .ok (.ifCond .ge 7, 3) := by decide +kernel
theorem d15_6 : decode jdk_35_method_42_code 6 = .ok (.iconst (-1), 1) := by decide +kernel
theorem d15_7 : decode jdk_35_method_42_code 7 = .ok (.goto 14, 3) := by decide +kernel
theorem d15_21 : decode jdk_35_method_42_code 21 = .ok (.ireturn, 1) := by decide +kernel
theorem d15_10 : decode jdk_35_method_42_code 10 = .ok (.lload_n 0, 1) := by decide +kernel
theorem d15_11 : decode jdk_35_method_42_code 11 = .ok (.lload_n 2, 1) := by decide +kernel
theorem d15_12 : decode jdk_35_method_42_code 12 = .ok (.lcmp, 1) := by decide +kernel
theorem d15_13 : decode jdk_35_method_42_code 13 = .ok (.ifCond .ne 7, 3) := by decide +kernel
theorem d15_16 : decode jdk_35_method_42_code 16 = .ok (.iconst 0, 1) := by decide +kernel
theorem d15_17 : decode jdk_35_method_42_code 17 = .ok (.goto 4, 3) := by decide +kernel
theorem d15_20 : decode jdk_35_method_42_code 20 = .ok (.iconst 1, 1) := by decide +kernel
theorem ef_rm_lcomp (m : MethodId) (x0 : Int64) (x1 : Int64) : entryFrame m #[(.long x0), (.long x1)] 4 = mkF m 0 #[.val (.long x0), .second, .val (.long x1), .second] [] := by first | (simp [entryFrame, mkF, argsToLocals, Value.category]; done) | rfl
def Q_rm_lcomp (Z : State) (q1 : Int64) (q2 : Int64) (h0 : Heap) (n0 : Nat) (v : Option Value) (h : Heap) (L : List Loc) : Prop := v = some (.int (own_lcomp q1 q2)) ∧ Fr n0 L ∧ h = h0
set_option maxRecDepth 65536 in
set_option maxHeartbeats 40000000 in
theorem rm_lcomp (l : Launch) (Z : State) (a0 : Array Value) (hw : ∀ d ∈ tables_1, d.before a0 Z = true) (ws : List Jvm.Cond) (q1 : Int64) (q2 : Int64) (h0 : Heap) (n0 : Nat) (Z0 : n0 ≤ h0.size)  :
    MetFree l (⟨"java/lang/Long", "compare", "(JJ)I"⟩ : MethodName) (head1 (Jvm.Cond.code (⟨"java/lang/Long", "compare", "(JJ)I"⟩ : MethodName) jdk_35_method_42_code 4 (some .int) :: ws) ({ frames := 0, cells := 0, slots := 0, locals := 0 } : Room)) (fun a U => a = #[(.long q1), (.long q2)] ∧ Z.Warmed39 U.vm ∧ U.heap = h0) (fun _ _ _ _ _ => True) (fun _ U o U' => ∃ v L, o = .returned v ∧ Q_rm_lcomp Z q1 q2 h0 n0 v U'.heap L ∧ FrameEnd U o U' L ({ frames := 0, cells := 0, slots := 0, locals := 0 } : Room).cells ({ frames := 0, cells := 0, slots := 0, locals := 0 } : Room).slots) := by
  refine MetFree.of_bodySF (plainFor_of_name pn15) hisR ?_
  intro p e s m args below meth c s₁ Bd hml0 hP hK
  obtain ⟨rfl, hZ, hh⟩ := hP
  have hx := Bd.exec
  have hby := Bd.bytes
  have hml : c.maxLocals = 4 := hml0
  have hown : s.vm.findClass "java/lang/Long" = some m.cls := findClass_of_methodNamed Bd.named
  have hnm := (name_of_methodNamed Bd.named Bd.method).1
  have X0 : Stand p l e ({ frames := 0, cells := 0, slots := 0, locals := 0 } : Room) s m #[(.long q1), (.long q2)] below meth c s₁ [] 0 0 := Stand.of_body Bd
  have e0 : s₁.heap = h0 := by rw [← hh, Bd.state]; rfl
  have N0 := Fr.nil n0
  refine Go.start (Q := Q_rm_lcomp Z q1 q2 h0 n0) (ef_rm_lcomp m q1 q2) ?_
  by_cases hc : q1 < q2
  · have sg1 : ∀ t, Steps p.tables e below (s₁.setTop (mkF m 21 #[.val (.long q1), .second, .val (.long q2), .second] [(.int (-1 : Int32))])) t → Steps p.tables e below (s₁.setTop (mkF m 0 #[.val (.long q1), .second, .val (.long q2), .second] [])) t := by
      intro t kt
      show Steps p.tables e below (s₁.setTop (mkF m 0 #[.val (.long q1), .second, .val (.long q2), .second] [])) _
      refine XS.lloadN X0.here hx rfl (hb hby d15_0) rfl ?_
      show Steps p.tables e below (s₁.setTop (mkF m 1 #[.val (.long q1), .second, .val (.long q2), .second] [(.long q1)])) _
      refine XS.lloadN X0.here hx rfl (hb hby d15_1) rfl ?_
      show Steps p.tables e below (s₁.setTop (mkF m 2 #[.val (.long q1), .second, .val (.long q2), .second] [(.long q2), (.long q1)])) _
      refine XS.lcmp X0.here hx rfl (hb hby d15_2) rfl ?_
      show Steps p.tables e below (s₁.setTop (mkF m 3 #[.val (.long q1), .second, .val (.long q2), .second] [(.int (lcmpW q1 q2))])) _
      refine XS.ifNo X0.here hx rfl (hb hby d15_3) rfl ((if0 _ _).trans (tlt (own_lc_lt hc : (lcmpW q1 q2) < (0 : Int32))).2.1) ?_
      show Steps p.tables e below (s₁.setTop (mkF m 6 #[.val (.long q1), .second, .val (.long q2), .second] [])) _
      refine XS.iconst X0.here hx rfl (hb hby d15_6) ?_
      show Steps p.tables e below (s₁.setTop (mkF m 7 #[.val (.long q1), .second, .val (.long q2), .second] [(.int (-1 : Int32))])) _
      refine XS.goto X0.here hx rfl (pc0 := 7) (pc' := 21) rfl (hb hby d15_7) (by decide) (by decide) ?_
      exact kt
    refine Go.adv sg1 ?_
    refine Go.ret (v := (some (.int (-1 : Int32)))) X0 (fun h => by rw [Bd.returns] at h; cases h) Bd.notSynchronized (fun fs hr => retOut X0 hx Bd.returns rfl (Or.inl ⟨rfl, Or.inl rfl, _, rfl⟩) (hb hby d15_21) hr) ?_ (by decide) (by decide)
    show Q_rm_lcomp Z q1 q2 h0 n0 (some (.int (-1 : Int32))) s₁.heap _
    rw [e0]
    exact ⟨congrArg (fun z => some (Value.int z)) (own_lcomp_a hc).symm, N0, rfl⟩
  · by_cases hd : q1 = q2
    · have sg2 : ∀ t, Steps p.tables e below (s₁.setTop (mkF m 21 #[.val (.long q1), .second, .val (.long q2), .second] [(.int (0 : Int32))])) t → Steps p.tables e below (s₁.setTop (mkF m 0 #[.val (.long q1), .second, .val (.long q2), .second] [])) t := by
        intro t kt
        show Steps p.tables e below (s₁.setTop (mkF m 0 #[.val (.long q1), .second, .val (.long q2), .second] [])) _
        refine XS.lloadN X0.here hx rfl (hb hby d15_0) rfl ?_
        show Steps p.tables e below (s₁.setTop (mkF m 1 #[.val (.long q1), .second, .val (.long q2), .second] [(.long q1)])) _
        refine XS.lloadN X0.here hx rfl (hb hby d15_1) rfl ?_
        show Steps p.tables e below (s₁.setTop (mkF m 2 #[.val (.long q1), .second, .val (.long q2), .second] [(.long q2), (.long q1)])) _
        refine XS.lcmp X0.here hx rfl (hb hby d15_2) rfl ?_
        show Steps p.tables e below (s₁.setTop (mkF m 3 #[.val (.long q1), .second, .val (.long q2), .second] [(.int (lcmpW q1 q2))])) _
        refine XS.ifYes X0.here hx rfl (pc0 := 3) (pc' := 10) rfl (hb hby d15_3) rfl ((if0 _ _).trans (flt (own_lc_nlt hc : ¬ ((lcmpW q1 q2) < (0 : Int32)))).2.1) (by decide) (by decide) ?_
        show Steps p.tables e below (s₁.setTop (mkF m 10 #[.val (.long q1), .second, .val (.long q2), .second] [])) _
        refine XS.lloadN X0.here hx rfl (hb hby d15_10) rfl ?_
        show Steps p.tables e below (s₁.setTop (mkF m 11 #[.val (.long q1), .second, .val (.long q2), .second] [(.long q1)])) _
        refine XS.lloadN X0.here hx rfl (hb hby d15_11) rfl ?_
        show Steps p.tables e below (s₁.setTop (mkF m 12 #[.val (.long q1), .second, .val (.long q2), .second] [(.long q2), (.long q1)])) _
        refine XS.lcmp X0.here hx rfl (hb hby d15_12) rfl ?_
        show Steps p.tables e below (s₁.setTop (mkF m 13 #[.val (.long q1), .second, .val (.long q2), .second] [(.int (lcmpW q1 q2))])) _
        refine XS.ifNo X0.here hx rfl (hb hby d15_13) rfl ((if0 _ _).trans (teq (own_lc_eq hd : (lcmpW q1 q2) = (0 : Int32))).2) ?_
        show Steps p.tables e below (s₁.setTop (mkF m 16 #[.val (.long q1), .second, .val (.long q2), .second] [])) _
        refine XS.iconst X0.here hx rfl (hb hby d15_16) ?_
        show Steps p.tables e below (s₁.setTop (mkF m 17 #[.val (.long q1), .second, .val (.long q2), .second] [(.int (0 : Int32))])) _
        refine XS.goto X0.here hx rfl (pc0 := 17) (pc' := 21) rfl (hb hby d15_17) (by decide) (by decide) ?_
        exact kt
      refine Go.adv sg2 ?_
      refine Go.ret (v := (some (.int (0 : Int32)))) X0 (fun h => by rw [Bd.returns] at h; cases h) Bd.notSynchronized (fun fs hr => retOut X0 hx Bd.returns rfl (Or.inl ⟨rfl, Or.inl rfl, _, rfl⟩) (hb hby d15_21) hr) ?_ (by decide) (by decide)
      show Q_rm_lcomp Z q1 q2 h0 n0 (some (.int (0 : Int32))) s₁.heap _
      rw [e0]
      exact ⟨congrArg (fun z => some (Value.int z)) (own_lcomp_b hc hd).symm, N0, rfl⟩
    · have sg3 : ∀ t, Steps p.tables e below (s₁.setTop (mkF m 21 #[.val (.long q1), .second, .val (.long q2), .second] [(.int (1 : Int32))])) t → Steps p.tables e below (s₁.setTop (mkF m 0 #[.val (.long q1), .second, .val (.long q2), .second] [])) t := by
        intro t kt
        show Steps p.tables e below (s₁.setTop (mkF m 0 #[.val (.long q1), .second, .val (.long q2), .second] [])) _
        refine XS.lloadN X0.here hx rfl (hb hby d15_0) rfl ?_
        show Steps p.tables e below (s₁.setTop (mkF m 1 #[.val (.long q1), .second, .val (.long q2), .second] [(.long q1)])) _
        refine XS.lloadN X0.here hx rfl (hb hby d15_1) rfl ?_
        show Steps p.tables e below (s₁.setTop (mkF m 2 #[.val (.long q1), .second, .val (.long q2), .second] [(.long q2), (.long q1)])) _
        refine XS.lcmp X0.here hx rfl (hb hby d15_2) rfl ?_
        show Steps p.tables e below (s₁.setTop (mkF m 3 #[.val (.long q1), .second, .val (.long q2), .second] [(.int (lcmpW q1 q2))])) _
        refine XS.ifYes X0.here hx rfl (pc0 := 3) (pc' := 10) rfl (hb hby d15_3) rfl ((if0 _ _).trans (flt (own_lc_nlt hc : ¬ ((lcmpW q1 q2) < (0 : Int32)))).2.1) (by decide) (by decide) ?_
        show Steps p.tables e below (s₁.setTop (mkF m 10 #[.val (.long q1), .second, .val (.long q2), .second] [])) _
        refine XS.lloadN X0.here hx rfl (hb hby d15_10) rfl ?_
        show Steps p.tables e below (s₁.setTop (mkF m 11 #[.val (.long q1), .second, .val (.long q2), .second] [(.long q1)])) _
        refine XS.lloadN X0.here hx rfl (hb hby d15_11) rfl ?_
        show Steps p.tables e below (s₁.setTop (mkF m 12 #[.val (.long q1), .second, .val (.long q2), .second] [(.long q2), (.long q1)])) _
        refine XS.lcmp X0.here hx rfl (hb hby d15_12) rfl ?_
        show Steps p.tables e below (s₁.setTop (mkF m 13 #[.val (.long q1), .second, .val (.long q2), .second] [(.int (lcmpW q1 q2))])) _
        refine XS.ifYes X0.here hx rfl (pc0 := 13) (pc' := 20) rfl (hb hby d15_13) rfl ((if0 _ _).trans (feq (own_lc_ne hd : ¬ ((lcmpW q1 q2) = (0 : Int32)))).2) (by decide) (by decide) ?_
        show Steps p.tables e below (s₁.setTop (mkF m 20 #[.val (.long q1), .second, .val (.long q2), .second] [])) _
        refine XS.iconst X0.here hx rfl (hb hby d15_20) ?_
        exact kt
      refine Go.adv sg3 ?_
      refine Go.ret (v := (some (.int (1 : Int32)))) X0 (fun h => by rw [Bd.returns] at h; cases h) Bd.notSynchronized (fun fs hr => retOut X0 hx Bd.returns rfl (Or.inl ⟨rfl, Or.inl rfl, _, rfl⟩) (hb hby d15_21) hr) ?_ (by decide) (by decide)
      show Q_rm_lcomp Z q1 q2 h0 n0 (some (.int (1 : Int32))) s₁.heap _
      rw [e0]
      exact ⟨congrArg (fun z => some (Value.int z)) (own_lcomp_c hc hd).symm, N0, rfl⟩
theorem pn14 : plainName "java/time/Duration" = true := by first | (simp [plainName, overriddenIn]; done) | decide +kernel
theorem d14_0 : decode jdk_2316_method_66_code 0 = .ok (.aload_n 0, 1) := by decide +kernel
theorem d14_1 : decode jdk_2316_method_66_code 1 = .ok (.getfield 221, 3) := by decide +kernel
theorem d14_4 : decode jdk_2316_method_66_code 4 = .ok (.aload_n 1, 1) := by decide +kernel
theorem d14_5 : decode jdk_2316_method_66_code 5 = .ok (.getfield 221, 3) := by decide +kernel
theorem d14_8 : decode jdk_2316_method_66_code 8 = .ok (.invokestatic 416, 3) := by decide +kernel
theorem pd_oJJcI : parseMethodDescriptor "(JJ)I" = some ⟨[.long, .long], some .int⟩ := by decide +kernel
theorem d14_11 : decode jdk_2316_method_66_code 11 = .ok (.istore_n 2, 1) := by decide +kernel
theorem d14_12 : decode jdk_2316_method_66_code 12 = .ok (.iload_n 2, 1) := by decide +kernel
theorem d14_13 : decode jdk_2316_method_66_code 13 = .ok (.ifCond .eq 5, 3) := by decide +kernel
theorem d14_16 : decode jdk_2316_method_66_code 16 = .ok (.iload_n 2, 1) := by decide +kernel
theorem d14_17 : decode jdk_2316_method_66_code 17 = .ok (.ireturn, 1) := by decide +kernel
theorem ef_rm_cmpTo (m : MethodId) (x0 : Addr) (x1 : Addr) : entryFrame m #[(.ref x0), (.ref x1)] 3 = mkF m 0 #[.val (.ref x0), .val (.ref x1), .unset] [] := by first | (simp [entryFrame, mkF, argsToLocals, Value.category]; done) | rfl
def Q_rm_cmpTo (Z : State) (a1 : Addr) (a2 : Addr) (s1 : Int64) (s2 : Int64) (h0 : Heap) (n0 : Nat) (v : Option Value) (h : Heap) (L : List Loc) : Prop := v = some (.int (own_lcomp s1 s2)) ∧ Fr n0 L ∧ h = h0
set_option maxRecDepth 65536 in
set_option maxHeartbeats 40000000 in
theorem rm_cmpTo (l : Launch) (Z : State) (a0 : Array Value) (hw : ∀ d ∈ tables_1, d.before a0 Z = true) (ws : List Jvm.Cond) (a1 : Addr) (a2 : Addr) (s1 : Int64) (s2 : Int64) (h0 : Heap) (n0 : Nat) (Z0 : n0 ≤ h0.size) (F_seconds_a1 : Fld Z h0 a1 "java/time/Duration" "seconds" "J" (.long s1)) (F_seconds_a2 : Fld Z h0 a2 "java/time/Duration" "seconds" "J" (.long s2)) (hne : ¬ ((own_lcomp s1 s2) = (0 : Int32))) :
    MetFree l (⟨"java/time/Duration", "compareTo", "(Ljava/time/Duration;)I"⟩ : MethodName) (head1 (Jvm.Cond.code (⟨"java/time/Duration", "compareTo", "(Ljava/time/Duration;)I"⟩ : MethodName) jdk_2316_method_66_code 3 (some .int) :: ws) ({ frames := 1, cells := 0, slots := 0, locals := 15 } : Room)) (fun a U => a = #[(.ref a1), (.ref a2)] ∧ Z.Warmed39 U.vm ∧ U.heap = h0) (fun _ _ _ _ _ => True) (fun _ U o U' => ∃ v L, o = .returned v ∧ Q_rm_cmpTo Z a1 a2 s1 s2 h0 n0 v U'.heap L ∧ FrameEnd U o U' L ({ frames := 1, cells := 0, slots := 0, locals := 15 } : Room).cells ({ frames := 1, cells := 0, slots := 0, locals := 15 } : Room).slots) := by
  refine MetFree.of_bodySF (plainFor_of_name pn14) hisR ?_
  intro p e s m args below meth c s₁ Bd hml0 hP hK
  obtain ⟨rfl, hZ, hh⟩ := hP
  have hx := Bd.exec
  have hby := Bd.bytes
  have hml : c.maxLocals = 3 := hml0
  have hown : s.vm.findClass "java/time/Duration" = some m.cls := findClass_of_methodNamed Bd.named
  have hnm := (name_of_methodNamed Bd.named Bd.method).1
  have X0 : Stand p l e ({ frames := 1, cells := 0, slots := 0, locals := 15 } : Room) s m #[(.ref a1), (.ref a2)] below meth c s₁ [] 0 0 := Stand.of_body Bd
  have e0 : s₁.heap = h0 := by rw [← hh, Bd.state]; rfl
  have N0 := Fr.nil n0
  refine Go.start (Q := Q_rm_cmpTo Z a1 a2 s1 s2 h0 n0) (ef_rm_cmpTo m a1 a2) ?_
  have sg1 : ∀ t, Steps p.tables e below (s₁.setTop (mkF m 1 #[.val (.ref a1), .val (.ref a2), .unset] [(.ref a1)])) t → Steps p.tables e below (s₁.setTop (mkF m 0 #[.val (.ref a1), .val (.ref a2), .unset] [])) t := by
    intro t kt
    show Steps p.tables e below (s₁.setTop (mkF m 0 #[.val (.ref a1), .val (.ref a2), .unset] [])) _
    refine XS.aloadN X0.here hx rfl (hb hby d14_0) rfl rfl ?_
    exact kt
  refine Go.adv sg1 ?_
  obtain ⟨T2, X2, e2, st2⟩ := getF X0 hx hZ hown (host := "") (Or.inl (hw _ (List.mem_of_getElem? (i := 30) rfl))) Via.refl e0 F_seconds_a1 (g := (mkF m 1 #[.val (.ref a1), .val (.ref a2), .unset] [(.ref a1)])) rfl rfl (hb hby d14_1)
  refine Go.adv st2 ?_
  show Go p.tables e below s _ _ _ (T2.setTop (mkF m 4 #[.val (.ref a1), .val (.ref a2), .unset] [(.long s1)]))
  have sg3 : ∀ t, Steps p.tables e below (T2.setTop (mkF m 5 #[.val (.ref a1), .val (.ref a2), .unset] [(.ref a2), (.long s1)])) t → Steps p.tables e below (T2.setTop (mkF m 4 #[.val (.ref a1), .val (.ref a2), .unset] [(.long s1)])) t := by
    intro t kt
    show Steps p.tables e below (T2.setTop (mkF m 4 #[.val (.ref a1), .val (.ref a2), .unset] [(.long s1)])) _
    refine XS.aloadN X2.here hx rfl (hb hby d14_4) rfl rfl ?_
    exact kt
  refine Go.adv sg3 ?_
  obtain ⟨T4, X4, e4, st4⟩ := getF X2 hx hZ hown (host := "") (Or.inl (hw _ (List.mem_of_getElem? (i := 30) rfl))) Via.refl e2 F_seconds_a2 (g := (mkF m 5 #[.val (.ref a1), .val (.ref a2), .unset] [(.ref a2), (.long s1)])) rfl rfl (hb hby d14_5)
  refine Go.adv st4 ?_
  show Go p.tables e below s _ _ _ (T4.setTop (mkF m 8 #[.val (.ref a1), .val (.ref a2), .unset] [(.long s2), (.long s1)]))
  obtain ⟨_, _, ⟨T5, L5, k5, n5⟩, -, X5, ⟨Lc5, hQ5, l5, y5, z5⟩, st5⟩ := Jvm.LawKit.callS X4 hx (y := (⟨"java/lang/Long", "compare", "(JJ)I"⟩ : MethodName)) hown (mvT hZ (hw _ (List.mem_of_getElem? (i := 80) rfl))) (mvT hZ (hw _ (List.mem_of_getElem? (i := 81) rfl))) (mvT hZ (hw _ (List.mem_of_getElem? (i := 82) rfl))) (mvT hZ (hw _ (List.mem_of_getElem? (i := 83) rfl))) (by decide) (backOf (W := 0) (rm_lcomp l Z a0 hw [] s1 s2  h0 n0 Z0 ) hZ (hw _ (List.mem_of_getElem? (i := 83) rfl)) (hw _ (List.mem_of_getElem? (i := 82) rfl)) (by decide) (by decide)) (g := (mkF m 8 #[.val (.ref a1), .val (.ref a2), .unset] [(.long s2), (.long s1)])) rfl (by rw [hml]; rfl) (argsL := [(.long s1), (.long s2)]) (rest := []) (lenOf pd_oJJcI rfl) rfl (by show 2 * 0 + _ ≤ _; exact Nat.le_of_eq rfl) (hb hby d14_8) (fun _ _ => ⟨rfl, e4, (by decide : 0 + 0 ≤ _), (by decide : 0 + 0 ≤ _)⟩)
  dsimp only [Pt.U, Pt.locs, Pt.cells, Pt.slots] at X5 l5 y5 z5 st5 hQ5
  subst l5 y5 z5
  obtain ⟨rfl, N5q, e5⟩ := hQ5
  have N5 := Fr.app N0 N5q
  refine Go.adv st5 ?_
  show Go p.tables e below s _ _ _ (T5.setTop (mkF m 11 #[.val (.ref a1), .val (.ref a2), .unset] [(.int (own_lcomp s1 s2))]))
  have sg6 : ∀ t, Steps p.tables e below (T5.setTop (mkF m 17 #[.val (.ref a1), .val (.ref a2), .val (.int (own_lcomp s1 s2))] [(.int (own_lcomp s1 s2))])) t → Steps p.tables e below (T5.setTop (mkF m 11 #[.val (.ref a1), .val (.ref a2), .unset] [(.int (own_lcomp s1 s2))])) t := by
    intro t kt
    show Steps p.tables e below (T5.setTop (mkF m 11 #[.val (.ref a1), .val (.ref a2), .unset] [(.int (own_lcomp s1 s2))])) _
    refine XS.istoreN X5.here hx rfl (hb hby d14_11) rfl (l' := #[.val (.ref a1), .val (.ref a2), .val (.int (own_lcomp s1 s2))]) rfl ?_
    show Steps p.tables e below (T5.setTop (mkF m 12 #[.val (.ref a1), .val (.ref a2), .val (.int (own_lcomp s1 s2))] [])) _
    refine XS.iloadN X5.here hx rfl (hb hby d14_12) rfl ?_
    show Steps p.tables e below (T5.setTop (mkF m 13 #[.val (.ref a1), .val (.ref a2), .val (.int (own_lcomp s1 s2))] [(.int (own_lcomp s1 s2))])) _
    refine XS.ifNo X5.here hx rfl (hb hby d14_13) rfl ((if0 _ _).trans (feq (hne : ¬ ((own_lcomp s1 s2) = (0 : Int32)))).1) ?_
    show Steps p.tables e below (T5.setTop (mkF m 16 #[.val (.ref a1), .val (.ref a2), .val (.int (own_lcomp s1 s2))] [])) _
    refine XS.iloadN X5.here hx rfl (hb hby d14_16) rfl ?_
    exact kt
  refine Go.adv sg6 ?_
  refine Go.ret (v := (some (.int (own_lcomp s1 s2)))) X5 (fun h => by rw [Bd.returns] at h; cases h) Bd.notSynchronized (fun fs hr => retOut X5 hx Bd.returns rfl (Or.inl ⟨rfl, Or.inl rfl, _, rfl⟩) (hb hby d14_17) hr) ?_ (by decide) (by decide)
  show Q_rm_cmpTo Z a1 a2 s1 s2 h0 n0 (some (.int (own_lcomp s1 s2))) T5.heap _
  rw [e5]
  exact ⟨rfl, N5, rfl⟩
theorem pn16 : plainName "java/time/Duration" = true := by first | (simp [plainName, overriddenIn]; done) | decide +kernel
theorem d16_0 : decode jdk_2316_method_21_code 0 = .ok (.aload_n 0, 1) := by decide +kernel
theorem d16_1 : decode jdk_2316_method_21_code 1 = .ok (.getfield 221, 3) := by decide +kernel
theorem d16_4 : decode jdk_2316_method_21_code 4 = .ok (.aload_n 0, 1) := by decide +kernel
theorem d16_5 : decode jdk_2316_method_21_code 5 = .ok (.getfield 224, 3) := by decide +kernel
theorem d16_8 : decode jdk_2316_method_21_code 8 = .ok (.i2l, 1) := by decide +kernel
theorem d16_9 : decode jdk_2316_method_21_code 9 = .ok (.lor, 1) := by decide +kernel
theorem d16_10 : decode jdk_2316_method_21_code 10 = .ok (.lconst 0, 1) := by decide +kernel
theorem d16_11 : decode jdk_2316_method_21_code 11 = .ok (.lcmp, 1) := by decide +kernel
theorem d16_12 : decode jdk_2316_method_21_code 12 = .ok (.ifCond .ne 7, 3) := by decide +kernel
theorem d16_19 : decode jdk_2316_method_21_code 19 = .ok (.iconst 0, 1) := by decide +kernel
theorem d16_20 : decode jdk_2316_method_21_code 20 = .ok (.ireturn, 1) := by decide +kernel
theorem ef_rm_isZero (m : MethodId) (x0 : Addr) : entryFrame m #[(.ref x0)] 1 = mkF m 0 #[.val (.ref x0)] [] := by first | (simp [entryFrame, mkF, argsToLocals, Value.category]; done) | rfl
def Q_rm_isZero (Z : State) (a1 : Addr) (sec : Int64) (nan : Int32) (h0 : Heap) (n0 : Nat) (v : Option Value) (h : Heap) (L : List Loc) : Prop := v = some (.int (0 : Int32)) ∧ Fr n0 L ∧ h = h0
set_option maxRecDepth 65536 in
set_option maxHeartbeats 40000000 in
theorem rm_isZero (l : Launch) (Z : State) (a0 : Array Value) (hw : ∀ d ∈ tables_1, d.before a0 Z = true) (ws : List Jvm.Cond) (a1 : Addr) (sec : Int64) (nan : Int32) (h0 : Heap) (n0 : Nat) (Z0 : n0 ≤ h0.size) (F_seconds_a1 : Fld Z h0 a1 "java/time/Duration" "seconds" "J" (.long sec)) (F_nanos_a1 : Fld Z h0 a1 "java/time/Duration" "nanos" "I" (.int nan)) (hz : ¬ ((sec ||| (nan.toInt64)) = (0 : Int64))) :
    MetFree l (⟨"java/time/Duration", "isZero", "()Z"⟩ : MethodName) (head1 (Jvm.Cond.code (⟨"java/time/Duration", "isZero", "()Z"⟩ : MethodName) jdk_2316_method_21_code 1 (some .boolean) :: ws) ({ frames := 0, cells := 0, slots := 0, locals := 0 } : Room)) (fun a U => a = #[(.ref a1)] ∧ Z.Warmed39 U.vm ∧ U.heap = h0) (fun _ _ _ _ _ => True) (fun _ U o U' => ∃ v L, o = .returned v ∧ Q_rm_isZero Z a1 sec nan h0 n0 v U'.heap L ∧ FrameEnd U o U' L ({ frames := 0, cells := 0, slots := 0, locals := 0 } : Room).cells ({ frames := 0, cells := 0, slots := 0, locals := 0 } : Room).slots) := by
  refine MetFree.of_bodySF (plainFor_of_name pn16) hisR ?_
  intro p e s m args below meth c s₁ Bd hml0 hP hK
  obtain ⟨rfl, hZ, hh⟩ := hP
  have hx := Bd.exec
  have hby := Bd.bytes
  have hml : c.maxLocals = 1 := hml0
  have hown : s.vm.findClass "java/time/Duration" = some m.cls := findClass_of_methodNamed Bd.named
  have hnm := (name_of_methodNamed Bd.named Bd.method).1
  have X0 : Stand p l e ({ frames := 0, cells := 0, slots := 0, locals := 0 } : Room) s m #[(.ref a1)] below meth c s₁ [] 0 0 := Stand.of_body Bd
  have e0 : s₁.heap = h0 := by rw [← hh, Bd.state]; rfl
  have N0 := Fr.nil n0
  refine Go.start (Q := Q_rm_isZero Z a1 sec nan h0 n0) (ef_rm_isZero m a1) ?_
  have sg1 : ∀ t, Steps p.tables e below (s₁.setTop (mkF m 1 #[.val (.ref a1)] [(.ref a1)])) t → Steps p.tables e below (s₁.setTop (mkF m 0 #[.val (.ref a1)] [])) t := by
    intro t kt
    show Steps p.tables e below (s₁.setTop (mkF m 0 #[.val (.ref a1)] [])) _
    refine XS.aloadN X0.here hx rfl (hb hby d16_0) rfl rfl ?_
    exact kt
  refine Go.adv sg1 ?_
  obtain ⟨T2, X2, e2, st2⟩ := getF X0 hx hZ hown (host := "") (Or.inl (hw _ (List.mem_of_getElem? (i := 30) rfl))) Via.refl e0 F_seconds_a1 (g := (mkF m 1 #[.val (.ref a1)] [(.ref a1)])) rfl rfl (hb hby d16_1)
  refine Go.adv st2 ?_
  show Go p.tables e below s _ _ _ (T2.setTop (mkF m 4 #[.val (.ref a1)] [(.long sec)]))
  have sg3 : ∀ t, Steps p.tables e below (T2.setTop (mkF m 5 #[.val (.ref a1)] [(.ref a1), (.long sec)])) t → Steps p.tables e below (T2.setTop (mkF m 4 #[.val (.ref a1)] [(.long sec)])) t := by
    intro t kt
    show Steps p.tables e below (T2.setTop (mkF m 4 #[.val (.ref a1)] [(.long sec)])) _
    refine XS.aloadN X2.here hx rfl (hb hby d16_4) rfl rfl ?_
    exact kt
  refine Go.adv sg3 ?_
  obtain ⟨T4, X4, e4, st4⟩ := getF X2 hx hZ hown (host := "") (Or.inl (hw _ (List.mem_of_getElem? (i := 32) rfl))) Via.refl e2 F_nanos_a1 (g := (mkF m 5 #[.val (.ref a1)] [(.ref a1), (.long sec)])) rfl rfl (hb hby d16_5)
  refine Go.adv st4 ?_
  show Go p.tables e below s _ _ _ (T4.setTop (mkF m 8 #[.val (.ref a1)] [(.int nan), (.long sec)]))
  have sg5 : ∀ t, Steps p.tables e below (T4.setTop (mkF m 20 #[.val (.ref a1)] [(.int (0 : Int32))])) t → Steps p.tables e below (T4.setTop (mkF m 8 #[.val (.ref a1)] [(.int nan), (.long sec)])) t := by
    intro t kt
    show Steps p.tables e below (T4.setTop (mkF m 8 #[.val (.ref a1)] [(.int nan), (.long sec)])) _
    refine XS.i2l X4.here hx rfl (hb hby d16_8) rfl ?_
    show Steps p.tables e below (T4.setTop (mkF m 9 #[.val (.ref a1)] [(.long (nan.toInt64)), (.long sec)])) _
    refine XS.lor X4.here hx rfl (hb hby d16_9) rfl ?_
    show Steps p.tables e below (T4.setTop (mkF m 10 #[.val (.ref a1)] [(.long (sec ||| (nan.toInt64)))])) _
    refine XS.lconst X4.here hx rfl (hb hby d16_10) ?_
    show Steps p.tables e below (T4.setTop (mkF m 11 #[.val (.ref a1)] [(.long (0 : Int64)), (.long (sec ||| (nan.toInt64)))])) _
    refine XS.lcmp X4.here hx rfl (hb hby d16_11) rfl ?_
    show Steps p.tables e below (T4.setTop (mkF m 12 #[.val (.ref a1)] [(.int (lcmpW (sec ||| (nan.toInt64)) (0 : Int64)))])) _
    refine XS.ifYes X4.here hx rfl (pc0 := 12) (pc' := 19) rfl (hb hby d16_12) rfl ((if0 _ _).trans (feq (own_lc_ne hz : ¬ ((lcmpW (sec ||| (nan.toInt64)) (0 : Int64)) = (0 : Int32)))).2) (by decide) (by decide) ?_
    show Steps p.tables e below (T4.setTop (mkF m 19 #[.val (.ref a1)] [])) _
    refine XS.iconst X4.here hx rfl (hb hby d16_19) ?_
    exact kt
  refine Go.adv sg5 ?_
  refine Go.ret (v := (some (.int (0 : Int32)))) X4 (fun h => by rw [Bd.returns] at h; cases h) Bd.notSynchronized (fun fs hr => retN X4 hx (t := .boolean) Bd.returns (by simp) (hb hby d16_20) hr) ?_ (by decide) (by decide)
  show Q_rm_isZero Z a1 sec nan h0 n0 (some (.int (0 : Int32))) T4.heap _
  rw [e4]
  exact ⟨rfl, N0, rfl⟩
theorem pn11 : plainName "com/example/chitragupta/chitragupta/Limits" = true := by first | (simp [plainName, overriddenIn]; done) | decide +kernel
theorem d11_0 : decode prog_16_method_3_code 0 = .ok (.aload_n 1, 1) := by decide +kernel
theorem d11_1 : decode prog_16_method_3_code 1 = .ok (.aload_n 0, 1) := by decide +kernel
theorem d11_2 : decode prog_16_method_3_code 2 = .ok (.invokestatic 7, 3) := by decide +kernel
theorem pd_oLjavaslangsObjecteLjavaslangsStringecLjavaslangsObjecte : parseMethodDescriptor "(Ljava/lang/Object;Ljava/lang/String;)Ljava/lang/Object;" = some ⟨[(.object "java/lang/Object"), (.object "java/lang/String")], some (.object "java/lang/Object")⟩ := by decide +kernel
theorem d11_5 : decode prog_16_method_3_code 5 = .ok (.pop, 1) := by decide +kernel
theorem d11_6 : decode prog_16_method_3_code 6 = .ok (.aload_n 1, 1) := by decide +kernel
theorem d11_7 : decode prog_16_method_3_code 7 = .ok (.invokevirtual 32, 3) := by decide +kernel
theorem pd_ocZ : parseMethodDescriptor "()Z" = some ⟨[], some .boolean⟩ := by decide +kernel
theorem d11_10 : decode prog_16_method_3_code 10 = .ok (.ifCond .ne 13, 3) := by decide +kernel
theorem d11_13 : decode prog_16_method_3_code 13 = .ok (.aload_n 1, 1) := by decide +kernel
theorem d11_14 : decode prog_16_method_3_code 14 = .ok (.getstatic 38, 3) := by decide +kernel
theorem d11_17 : decode prog_16_method_3_code 17 = .ok (.invokevirtual 44, 3) := by decide +kernel
theorem pd_oLjavastimesDurationecI : parseMethodDescriptor "(Ljava/time/Duration;)I" = some ⟨[(.object "java/time/Duration")], some .int⟩ := by decide +kernel
theorem d11_20 : decode prog_16_method_3_code 20 = .ok (.ifCond .le 27, 3) := by decide +kernel
theorem d11_47 : decode prog_16_method_3_code 47 = .ok (.aload_n 1, 1) := by decide +kernel
theorem d11_48 : decode prog_16_method_3_code 48 = .ok (.areturn, 1) := by decide +kernel
theorem ef_rm_reqDur (m : MethodId) (x0 : Addr) (x1 : Addr) : entryFrame m #[(.ref x0), (.ref x1)] 2 = mkF m 0 #[.val (.ref x0), .val (.ref x1)] [] := by first | (simp [entryFrame, mkF, argsToLocals, Value.category]; done) | rfl
def Q_rm_reqDur (Z : State) (a1 : Addr) (a2 : Addr) (sec : Int64) (ld : Addr) (h0 : Heap) (n0 : Nat) (v : Option Value) (h : Heap) (L : List Loc) : Prop := v = some (.ref a2) ∧ Fr n0 L ∧ h = h0
set_option maxRecDepth 65536 in
set_option maxHeartbeats 40000000 in
theorem rm_reqDur (l : Launch) (Z : State) (a0 : Array Value) (hw : ∀ d ∈ tables_1, d.before a0 Z = true) (ws : List Jvm.Cond) (a1 : Addr) (a2 : Addr) (sec : Int64) (ld : Addr) (h0 : Heap) (n0 : Nat) (Z0 : n0 ≤ h0.size) (S_LONGEST_DURATION : Sta Z h0 "com/example/chitragupta/chitragupta/Limits" "LONGEST_DURATION" "Ljava/time/Duration;" (.ref ld)) (F_seconds_ld : Fld Z h0 ld "java/time/Duration" "seconds" "J" (.long (31536000 : Int64))) (E_a2 : Exa Z h0 a2 "java/time/Duration") (F_seconds_a2 : Fld Z h0 a2 "java/time/Duration" "seconds" "J" (.long sec)) (hp : ¬ (sec < (0 : Int64))) (hc : ¬ ((own_lcomp sec (31536000 : Int64)) = (0 : Int32)) ∧ ¬ ((0 : Int32) < (own_lcomp sec (31536000 : Int64)))) :
    MetFree l (⟨"com/example/chitragupta/chitragupta/Limits", "requireDuration", "(Ljava/lang/String;Ljava/time/Duration;)Ljava/time/Duration;"⟩ : MethodName) (head1 (Jvm.Cond.code (⟨"com/example/chitragupta/chitragupta/Limits", "requireDuration", "(Ljava/lang/String;Ljava/time/Duration;)Ljava/time/Duration;"⟩ : MethodName) prog_16_method_3_code 2 (some (.object "java/time/Duration")) :: ws) ({ frames := 2, cells := 0, slots := 0, locals := 29 } : Room)) (fun a U => a = #[(.ref a1), (.ref a2)] ∧ Z.Warmed39 U.vm ∧ U.heap = h0) (fun _ _ _ _ _ => True) (fun _ U o U' => ∃ v L, o = .returned v ∧ Q_rm_reqDur Z a1 a2 sec ld h0 n0 v U'.heap L ∧ FrameEnd U o U' L ({ frames := 2, cells := 0, slots := 0, locals := 29 } : Room).cells ({ frames := 2, cells := 0, slots := 0, locals := 29 } : Room).slots) := by
  refine MetFree.of_bodySF (plainFor_of_name pn11) hisR ?_
  intro p e s m args below meth c s₁ Bd hml0 hP hK
  obtain ⟨rfl, hZ, hh⟩ := hP
  have hx := Bd.exec
  have hby := Bd.bytes
  have hml : c.maxLocals = 2 := hml0
  have hown : s.vm.findClass "com/example/chitragupta/chitragupta/Limits" = some m.cls := findClass_of_methodNamed Bd.named
  have hnm := (name_of_methodNamed Bd.named Bd.method).1
  have X0 : Stand p l e ({ frames := 2, cells := 0, slots := 0, locals := 29 } : Room) s m #[(.ref a1), (.ref a2)] below meth c s₁ [] 0 0 := Stand.of_body Bd
  have e0 : s₁.heap = h0 := by rw [← hh, Bd.state]; rfl
  have N0 := Fr.nil n0
  refine Go.start (Q := Q_rm_reqDur Z a1 a2 sec ld h0 n0) (ef_rm_reqDur m a1 a2) ?_
  have sg1 : ∀ t, Steps p.tables e below (s₁.setTop (mkF m 2 #[.val (.ref a1), .val (.ref a2)] [(.ref a1), (.ref a2)])) t → Steps p.tables e below (s₁.setTop (mkF m 0 #[.val (.ref a1), .val (.ref a2)] [])) t := by
    intro t kt
    show Steps p.tables e below (s₁.setTop (mkF m 0 #[.val (.ref a1), .val (.ref a2)] [])) _
    refine XS.aloadN X0.here hx rfl (hb hby d11_0) rfl rfl ?_
    show Steps p.tables e below (s₁.setTop (mkF m 1 #[.val (.ref a1), .val (.ref a2)] [(.ref a2)])) _
    refine XS.aloadN X0.here hx rfl (hb hby d11_1) rfl rfl ?_
    exact kt
  refine Go.adv sg1 ?_
  obtain ⟨_, _, ⟨T2, L2, k2, n2⟩, -, X2, ⟨Lc2, hQ2, l2, y2, z2⟩, st2⟩ := Jvm.LawKit.callS X0 hx (y := (⟨"java/util/Objects", "requireNonNull", "(Ljava/lang/Object;Ljava/lang/String;)Ljava/lang/Object;"⟩ : MethodName)) hown (mvT hZ (hw _ (List.mem_of_getElem? (i := 64) rfl))) (mvT hZ (hw _ (List.mem_of_getElem? (i := 65) rfl))) (mvT hZ (hw _ (List.mem_of_getElem? (i := 66) rfl))) (mvT hZ (hw _ (List.mem_of_getElem? (i := 67) rfl))) (by decide) (backOf (W := 0) (rm_nonnull l Z a0 hw [] a2 a1  h0 n0 Z0 ) hZ (hw _ (List.mem_of_getElem? (i := 67) rfl)) (hw _ (List.mem_of_getElem? (i := 66) rfl)) (by decide) (by decide)) (g := (mkF m 2 #[.val (.ref a1), .val (.ref a2)] [(.ref a1), (.ref a2)])) rfl (by rw [hml]; rfl) (argsL := [(.ref a2), (.ref a1)]) (rest := []) (lenOf pd_oLjavaslangsObjecteLjavaslangsStringecLjavaslangsObjecte rfl) rfl (by show 2 * 0 + _ ≤ _; exact Nat.le_of_eq rfl) (hb hby d11_2) (fun _ _ => ⟨rfl, e0, (by decide : 0 + 0 ≤ _), (by decide : 0 + 0 ≤ _)⟩)
  dsimp only [Pt.U, Pt.locs, Pt.cells, Pt.slots] at X2 l2 y2 z2 st2 hQ2
  subst l2 y2 z2
  obtain ⟨rfl, N2q, e2⟩ := hQ2
  have N2 := Fr.app N0 N2q
  refine Go.adv st2 ?_
  show Go p.tables e below s _ _ _ (T2.setTop (mkF m 5 #[.val (.ref a1), .val (.ref a2)] [(.ref a2)]))
  have sg3 : ∀ t, Steps p.tables e below (T2.setTop (mkF m 7 #[.val (.ref a1), .val (.ref a2)] [(.ref a2)])) t → Steps p.tables e below (T2.setTop (mkF m 5 #[.val (.ref a1), .val (.ref a2)] [(.ref a2)])) t := by
    intro t kt
    show Steps p.tables e below (T2.setTop (mkF m 5 #[.val (.ref a1), .val (.ref a2)] [(.ref a2)])) _
    refine XS.pop X2.here hx rfl (hb hby d11_5) rfl rfl ?_
    show Steps p.tables e below (T2.setTop (mkF m 6 #[.val (.ref a1), .val (.ref a2)] [])) _
    refine XS.aloadN X2.here hx rfl (hb hby d11_6) rfl rfl ?_
    exact kt
  refine Go.adv sg3 ?_
  obtain ⟨cq4, kq4, q4a, q4b, q4c⟩ := isOf hZ e2 E_a2
  obtain ⟨_, _, ⟨T4, L4, k4, n4⟩, -, X4, ⟨Lc4, hQ4, l4, y4, z4⟩, st4⟩ := X2.virtualBack hx (y := (⟨"java/time/Duration", "isNegative", "()Z"⟩ : MethodName)) (z := (⟨"java/time/Duration", "isNegative", "()Z"⟩ : MethodName)) hown (mvT hZ (hw _ (List.mem_of_getElem? (i := 68) rfl))) (mvT hZ (hw _ (List.mem_of_getElem? (i := 69) rfl))) (notFace_of_selects (args := #[]) (mvT hZ (hw _ (List.mem_of_getElem? (i := 71) rfl)))) (mvT hZ (hw _ (List.mem_of_getElem? (i := 71) rfl))) (mvT hZ (hw _ (List.mem_of_getElem? (i := 70) rfl))) (by decide) (backOf (W := 0) (rm_isNeg l Z a0 hw [] a2 sec h0 n0 Z0 F_seconds_a2 hp) hZ (hw _ (List.mem_of_getElem? (i := 72) rfl)) (hw _ (List.mem_of_getElem? (i := 18) rfl)) (by decide) (by decide)) q4a q4c (g := (mkF m 7 #[.val (.ref a1), .val (.ref a2)] [(.ref a2)])) rfl (by rw [hml]; rfl) (Steps.refl _) (argsL := []) (rest := []) (lenOf pd_ocZ rfl) rfl (by show 2 * 0 + _ ≤ _; exact Nat.le_of_eq rfl) (hb hby d11_7) (fun _ _ => ⟨rfl, e2, (by decide : 0 + 0 ≤ _), (by decide : 0 + 0 ≤ _)⟩)
  dsimp only [Pt.U, Pt.locs, Pt.cells, Pt.slots] at X4 l4 y4 z4 st4 hQ4
  subst l4 y4 z4
  obtain ⟨rfl, N4q, e4⟩ := hQ4
  have N4 := Fr.app N2 N4q
  refine Go.tr st4 ?_
  show Go p.tables e below s _ _ _ (T4.setTop (mkF m 10 #[.val (.ref a1), .val (.ref a2)] [(.int (0 : Int32))]))
  have sg5 : ∀ t, Steps p.tables e below (T4.setTop (mkF m 14 #[.val (.ref a1), .val (.ref a2)] [(.ref a2)])) t → Steps p.tables e below (T4.setTop (mkF m 10 #[.val (.ref a1), .val (.ref a2)] [(.int (0 : Int32))])) t := by
    intro t kt
    show Steps p.tables e below (T4.setTop (mkF m 10 #[.val (.ref a1), .val (.ref a2)] [(.int (0 : Int32))])) _
    refine XS.ifNo X4.here hx rfl (hb hby d11_10) rfl ((if0 _ _).trans (teq (by decide : (0 : Int32) = (0 : Int32))).2) ?_
    show Steps p.tables e below (T4.setTop (mkF m 13 #[.val (.ref a1), .val (.ref a2)] [])) _
    refine XS.aloadN X4.here hx rfl (hb hby d11_13) rfl rfl ?_
    exact kt
  refine Go.adv sg5 ?_
  obtain ⟨T6, X6, e6, st6⟩ := getS2 X4 hx hZ hown (host := "") (Or.inl (hw _ (List.mem_of_getElem? (i := 73) rfl))) Via.refl e4 S_LONGEST_DURATION (g := (mkF m 14 #[.val (.ref a1), .val (.ref a2)] [(.ref a2)])) rfl (hb hby d11_14)
  refine Go.adv st6 ?_
  show Go p.tables e below s _ _ _ (T6.setTop (mkF m 17 #[.val (.ref a1), .val (.ref a2)] [(.ref ld), (.ref a2)]))
  obtain ⟨cq7, kq7, q7a, q7b, q7c⟩ := isOf hZ e6 E_a2
  obtain ⟨_, _, ⟨T7, L7, k7, n7⟩, -, X7, ⟨Lc7, hQ7, l7, y7, z7⟩, st7⟩ := X6.virtualBack hx (y := (⟨"java/time/Duration", "compareTo", "(Ljava/time/Duration;)I"⟩ : MethodName)) (z := (⟨"java/time/Duration", "compareTo", "(Ljava/time/Duration;)I"⟩ : MethodName)) hown (mvT hZ (hw _ (List.mem_of_getElem? (i := 75) rfl))) (mvT hZ (hw _ (List.mem_of_getElem? (i := 76) rfl))) (notFace_of_selects (args := #[]) (mvT hZ (hw _ (List.mem_of_getElem? (i := 78) rfl)))) (mvT hZ (hw _ (List.mem_of_getElem? (i := 78) rfl))) (mvT hZ (hw _ (List.mem_of_getElem? (i := 77) rfl))) (by decide) (backOf (W := 0) (rm_cmpTo l Z a0 hw [] a2 ld sec (31536000 : Int64) h0 n0 Z0 F_seconds_a2 F_seconds_ld hc.1) hZ (hw _ (List.mem_of_getElem? (i := 79) rfl)) (hw _ (List.mem_of_getElem? (i := 18) rfl)) (by decide) (by decide)) q7a q7c (g := (mkF m 17 #[.val (.ref a1), .val (.ref a2)] [(.ref ld), (.ref a2)])) rfl (by rw [hml]; rfl) (Steps.refl _) (argsL := [(.ref ld)]) (rest := []) (lenOf pd_oLjavastimesDurationecI rfl) rfl (by show 2 * 0 + _ ≤ _; exact Nat.le_of_eq rfl) (hb hby d11_17) (fun _ _ => ⟨rfl, e6, (by decide : 0 + 0 ≤ _), (by decide : 0 + 0 ≤ _)⟩)
  dsimp only [Pt.U, Pt.locs, Pt.cells, Pt.slots] at X7 l7 y7 z7 st7 hQ7
  subst l7 y7 z7
  obtain ⟨rfl, N7q, e7⟩ := hQ7
  have N7 := Fr.app N4 N7q
  refine Go.tr st7 ?_
  show Go p.tables e below s _ _ _ (T7.setTop (mkF m 20 #[.val (.ref a1), .val (.ref a2)] [(.int (own_lcomp sec (31536000 : Int64)))]))
  have sg8 : ∀ t, Steps p.tables e below (T7.setTop (mkF m 48 #[.val (.ref a1), .val (.ref a2)] [(.ref a2)])) t → Steps p.tables e below (T7.setTop (mkF m 20 #[.val (.ref a1), .val (.ref a2)] [(.int (own_lcomp sec (31536000 : Int64)))])) t := by
    intro t kt
    show Steps p.tables e below (T7.setTop (mkF m 20 #[.val (.ref a1), .val (.ref a2)] [(.int (own_lcomp sec (31536000 : Int64)))])) _
    refine XS.ifYes X7.here hx rfl (pc0 := 20) (pc' := 47) rfl (hb hby d11_20) rfl ((if0 _ _).trans (flt (hc.2 : ¬ ((0 : Int32) < (own_lcomp sec (31536000 : Int64))))).2.2.2) (by decide) (by decide) ?_
    show Steps p.tables e below (T7.setTop (mkF m 47 #[.val (.ref a1), .val (.ref a2)] [])) _
    refine XS.aloadN X7.here hx rfl (hb hby d11_47) rfl rfl ?_
    exact kt
  refine Go.adv sg8 ?_
  refine Go.ret (v := (some (.ref a2))) X7 (fun h => by rw [Bd.returns] at h; cases h) Bd.notSynchronized (fun fs hr => retOut X7 hx Bd.returns rfl (Or.inr (Or.inr (Or.inr (Or.inr ⟨rfl, rfl, rfl⟩)))) (hb hby d11_48) hr) ?_ (by decide) (by decide)
  show Q_rm_reqDur Z a1 a2 sec ld h0 n0 (some (.ref a2)) T7.heap _
  rw [e7]
  exact ⟨rfl, N7, rfl⟩
theorem pn17 : plainName "com/example/chitragupta/chitragupta/Backoff" = true := by first | (simp [plainName, overriddenIn]; done) | decide +kernel
theorem d17_0 : decode prog_2_method_1_code 0 = .ok (.aload_n 0, 1) := by decide +kernel
theorem d17_1 : decode prog_2_method_1_code 1 = .ok (.invokespecial 1, 3) := by decide +kernel
theorem d17_4 : decode prog_2_method_1_code 4 = .ok (.aload_n 0, 1) := by decide +kernel
theorem d17_5 : decode prog_2_method_1_code 5 = .ok (.aload_n 1, 1) := by decide +kernel
theorem d17_6 : decode prog_2_method_1_code 6 = .ok (.putfield 7, 3) := by decide +kernel
theorem d17_9 : decode prog_2_method_1_code 9 = .ok (.aload_n 0, 1) := by decide +kernel
theorem d17_10 : decode prog_2_method_1_code 10 = .ok (.dload_n 2, 1) := by decide +kernel
theorem d17_11 : decode prog_2_method_1_code 11 = .ok (.putfield 13, 3) := by decide +kernel
theorem d17_14 : decode prog_2_method_1_code 14 = .ok (.aload_n 0, 1) := by decide +kernel
theorem d17_15 : decode prog_2_method_1_code 15 = .ok (.aload 4, 2) := by decide +kernel
theorem d17_17 : decode prog_2_method_1_code 17 = .ok (.putfield 17, 3) := by decide +kernel
theorem d17_20 : decode prog_2_method_1_code 20 = .ok (.return_, 1) := by decide +kernel
theorem ef_rm_binit (m : MethodId) (x0 : Addr) (x1 : Addr) (x2 : UInt64) (x3 : Addr) : entryFrame m #[(.ref x0), (.ref x1), (.double x2), (.ref x3)] 5 = mkF m 0 #[.val (.ref x0), .val (.ref x1), .val (.double x2), .second, .val (.ref x3)] [] := by first | (simp [entryFrame, mkF, argsToLocals, Value.category]; done) | rfl
def Q_rm_binit (Z : State) (a1 : Addr) (a2 : Addr) (d1 : UInt64) (a3 : Addr) (u_initial : Value) (u_factor : Value) (u_max : Value) (h0 : Heap) (n0 : Nat) (v : Option Value) (h : Heap) (L : List Loc) : Prop := v = none ∧ Fr n0 L ∧ Keep h0 h [a1] ∧ Exa Z h a1 "com/example/chitragupta/chitragupta/Backoff" ∧ Fld Z h a1 "com/example/chitragupta/chitragupta/Backoff" "initial" "Ljava/time/Duration;" (.ref a2) ∧ Fld Z h a1 "com/example/chitragupta/chitragupta/Backoff" "factor" "D" (.double d1) ∧ Fld Z h a1 "com/example/chitragupta/chitragupta/Backoff" "max" "Ljava/time/Duration;" (.ref a3)
set_option maxRecDepth 65536 in
set_option maxHeartbeats 40000000 in
theorem rm_binit (l : Launch) (Z : State) (a0 : Array Value) (hw : ∀ d ∈ tables_1, d.before a0 Z = true) (ws : List Jvm.Cond) (a1 : Addr) (a2 : Addr) (d1 : UInt64) (a3 : Addr) (u_initial : Value) (u_factor : Value) (u_max : Value) (h0 : Heap) (n0 : Nat) (Z0 : n0 ≤ h0.size) (E_a1 : Exa Z h0 a1 "com/example/chitragupta/chitragupta/Backoff") (g_a1 : n0 ≤ a1) (F_initial_a1 : Fld Z h0 a1 "com/example/chitragupta/chitragupta/Backoff" "initial" "Ljava/time/Duration;" u_initial) (F_factor_a1 : Fld Z h0 a1 "com/example/chitragupta/chitragupta/Backoff" "factor" "D" u_factor) (F_max_a1 : Fld Z h0 a1 "com/example/chitragupta/chitragupta/Backoff" "max" "Ljava/time/Duration;" u_max) :
    MetFree l (⟨"com/example/chitragupta/chitragupta/Backoff", "<init>", "(Ljava/time/Duration;DLjava/time/Duration;)V"⟩ : MethodName) (head1 (Jvm.Cond.code (⟨"com/example/chitragupta/chitragupta/Backoff", "<init>", "(Ljava/time/Duration;DLjava/time/Duration;)V"⟩ : MethodName) prog_2_method_1_code 5 none :: ws) ({ frames := 1, cells := 0, slots := 0, locals := 12 } : Room)) (fun a U => a = #[(.ref a1), (.ref a2), (.double d1), (.ref a3)] ∧ Z.Warmed39 U.vm ∧ U.heap = h0) (fun _ _ _ _ _ => True) (fun _ U o U' => ∃ v L, o = .returned v ∧ Q_rm_binit Z a1 a2 d1 a3 u_initial u_factor u_max h0 n0 v U'.heap L ∧ FrameEnd U o U' L ({ frames := 1, cells := 0, slots := 0, locals := 12 } : Room).cells ({ frames := 1, cells := 0, slots := 0, locals := 12 } : Room).slots) := by
  refine MetFree.of_bodySF (plainFor_of_name pn17) hisR ?_
  intro p e s m args below meth c s₁ Bd hml0 hP hK
  obtain ⟨rfl, hZ, hh⟩ := hP
  have hx := Bd.exec
  have hby := Bd.bytes
  have hml : c.maxLocals = 5 := hml0
  have hown : s.vm.findClass "com/example/chitragupta/chitragupta/Backoff" = some m.cls := findClass_of_methodNamed Bd.named
  have hnm := (name_of_methodNamed Bd.named Bd.method).1
  have X0 : Stand p l e ({ frames := 1, cells := 0, slots := 0, locals := 12 } : Room) s m #[(.ref a1), (.ref a2), (.double d1), (.ref a3)] below meth c s₁ [] 0 0 := Stand.of_body Bd
  have e0 : s₁.heap = h0 := by rw [← hh, Bd.state]; rfl
  have N0 := Fr.nil n0
  refine Go.start (Q := Q_rm_binit Z a1 a2 d1 a3 u_initial u_factor u_max h0 n0) (ef_rm_binit m a1 a2 d1 a3) ?_
  have sg1 : ∀ t, Steps p.tables e below (s₁.setTop (mkF m 1 #[.val (.ref a1), .val (.ref a2), .val (.double d1), .second, .val (.ref a3)] [(.ref a1)])) t → Steps p.tables e below (s₁.setTop (mkF m 0 #[.val (.ref a1), .val (.ref a2), .val (.double d1), .second, .val (.ref a3)] [])) t := by
    intro t kt
    show Steps p.tables e below (s₁.setTop (mkF m 0 #[.val (.ref a1), .val (.ref a2), .val (.double d1), .second, .val (.ref a3)] [])) _
    refine XS.aloadN X0.here hx rfl (hb hby d17_0) rfl rfl ?_
    exact kt
  refine Go.adv sg1 ?_
  obtain ⟨T2, X2, e2, st2⟩ := initO X0 hx hZ hown (hw _ (List.mem_of_getElem? (i := 97) rfl)) (hw _ (List.mem_of_getElem? (i := 7) rfl)) (hw _ (List.mem_of_getElem? (i := 8) rfl)) e0 (g := (mkF m 1 #[.val (.ref a1), .val (.ref a2), .val (.double d1), .second, .val (.ref a3)] [(.ref a1)])) rfl (by rw [hml]; rfl) rfl (hb hby d17_1) (by decide) (W := 0) (by show 2 * 0 + _ ≤ _; exact Nat.le_of_eq rfl) (by decide)
  refine Go.adv st2 ?_
  show Go p.tables e below s _ _ _ (T2.setTop (mkF m 4 #[.val (.ref a1), .val (.ref a2), .val (.double d1), .second, .val (.ref a3)] []))
  have sg3 : ∀ t, Steps p.tables e below (T2.setTop (mkF m 6 #[.val (.ref a1), .val (.ref a2), .val (.double d1), .second, .val (.ref a3)] [(.ref a2), (.ref a1)])) t → Steps p.tables e below (T2.setTop (mkF m 4 #[.val (.ref a1), .val (.ref a2), .val (.double d1), .second, .val (.ref a3)] [])) t := by
    intro t kt
    show Steps p.tables e below (T2.setTop (mkF m 4 #[.val (.ref a1), .val (.ref a2), .val (.double d1), .second, .val (.ref a3)] [])) _
    refine XS.aloadN X2.here hx rfl (hb hby d17_4) rfl rfl ?_
    show Steps p.tables e below (T2.setTop (mkF m 5 #[.val (.ref a1), .val (.ref a2), .val (.double d1), .second, .val (.ref a3)] [(.ref a1)])) _
    refine XS.aloadN X2.here hx rfl (hb hby d17_5) rfl rfl ?_
    exact kt
  refine Go.adv sg3 ?_
  obtain ⟨T4, h4, X4, e4, W4, st4⟩ := putF X2 hx hZ hown (host := "") (Or.inl (hw _ (List.mem_of_getElem? (i := 98) rfl))) Via.refl e2 F_initial_a1 E_a1 (Or.inr ⟨(hw _ (List.mem_of_getElem? (i := 99) rfl)), rfl, hnm⟩) (hw _ (List.mem_of_getElem? (i := 93) rfl)) (ty := (.object "java/time/Duration")) (by decide) rfl rfl (g := (mkF m 6 #[.val (.ref a1), .val (.ref a2), .val (.double d1), .second, .val (.ref a3)] [(.ref a2), (.ref a1)])) rfl rfl (hb hby d17_6)
  have Fw4 := F_initial_a1.same W4
  have K4 : Keep h0 h4 [a1] := (Keep.refl h0 [a1]).wr W4 (Or.inl (List.mem_of_getElem? (i := 0) rfl))
  have Z4 : n0 ≤ h4.size := Nat.le_trans Z0 (Keep.of_wr W4).1
  have N4 := Fr.snoc X4 N0 g_a1
  refine Go.adv st4 ?_
  show Go p.tables e below s _ _ _ (T4.setTop (mkF m 9 #[.val (.ref a1), .val (.ref a2), .val (.double d1), .second, .val (.ref a3)] []))
  have sg5 : ∀ t, Steps p.tables e below (T4.setTop (mkF m 11 #[.val (.ref a1), .val (.ref a2), .val (.double d1), .second, .val (.ref a3)] [(.double d1), (.ref a1)])) t → Steps p.tables e below (T4.setTop (mkF m 9 #[.val (.ref a1), .val (.ref a2), .val (.double d1), .second, .val (.ref a3)] [])) t := by
    intro t kt
    show Steps p.tables e below (T4.setTop (mkF m 9 #[.val (.ref a1), .val (.ref a2), .val (.double d1), .second, .val (.ref a3)] [])) _
    refine XS.aloadN X4.here hx rfl (hb hby d17_9) rfl rfl ?_
    show Steps p.tables e below (T4.setTop (mkF m 10 #[.val (.ref a1), .val (.ref a2), .val (.double d1), .second, .val (.ref a3)] [(.ref a1)])) _
    refine own_dloadN X4.here hx rfl (hb hby d17_10) rfl ?_
    exact kt
  refine Go.adv sg5 ?_
  have f6 := (F_factor_a1.other W4 (Or.inr (slot_ne (Or.inr (hw _ (List.mem_of_getElem? (i := 101) rfl))) (Or.inr (hw _ (List.mem_of_getElem? (i := 99) rfl))) (by decide) (t := .double) (t' := (.object "java/time/Duration")) (by decide) (by decide))))
  have f7 := (E_a1.wr W4)
  obtain ⟨T8, h8, X8, e8, W8, st8⟩ := putF X4 hx hZ hown (host := "") (Or.inl (hw _ (List.mem_of_getElem? (i := 100) rfl))) Via.refl e4 f6 f7 (Or.inr ⟨(hw _ (List.mem_of_getElem? (i := 101) rfl)), rfl, hnm⟩) (hw _ (List.mem_of_getElem? (i := 93) rfl)) (ty := .double) (by decide) rfl rfl (g := (mkF m 11 #[.val (.ref a1), .val (.ref a2), .val (.double d1), .second, .val (.ref a3)] [(.double d1), (.ref a1)])) rfl rfl (hb hby d17_11)
  have Fw8 := f6.same W8
  have K8 : Keep h0 h8 [a1] := K4.wr W8 (Or.inl (List.mem_of_getElem? (i := 0) rfl))
  have Z8 : n0 ≤ h8.size := Nat.le_trans Z4 (Keep.of_wr W8).1
  have N8 := Fr.snoc X8 N4 g_a1
  refine Go.adv st8 ?_
  show Go p.tables e below s _ _ _ (T8.setTop (mkF m 14 #[.val (.ref a1), .val (.ref a2), .val (.double d1), .second, .val (.ref a3)] []))
  have sg9 : ∀ t, Steps p.tables e below (T8.setTop (mkF m 17 #[.val (.ref a1), .val (.ref a2), .val (.double d1), .second, .val (.ref a3)] [(.ref a3), (.ref a1)])) t → Steps p.tables e below (T8.setTop (mkF m 14 #[.val (.ref a1), .val (.ref a2), .val (.double d1), .second, .val (.ref a3)] [])) t := by
    intro t kt
    show Steps p.tables e below (T8.setTop (mkF m 14 #[.val (.ref a1), .val (.ref a2), .val (.double d1), .second, .val (.ref a3)] [])) _
    refine XS.aloadN X8.here hx rfl (hb hby d17_14) rfl rfl ?_
    show Steps p.tables e below (T8.setTop (mkF m 15 #[.val (.ref a1), .val (.ref a2), .val (.double d1), .second, .val (.ref a3)] [(.ref a1)])) _
    refine XS.aload X8.here hx rfl (hb hby d17_15) rfl rfl ?_
    exact kt
  refine Go.adv sg9 ?_
  have f10 := ((F_max_a1.other W4 (Or.inr (slot_ne (Or.inr (hw _ (List.mem_of_getElem? (i := 103) rfl))) (Or.inr (hw _ (List.mem_of_getElem? (i := 99) rfl))) (by decide) (t := (.object "java/time/Duration")) (t' := (.object "java/time/Duration")) (by decide) (by decide)))).other W8 (Or.inr (slot_ne (Or.inr (hw _ (List.mem_of_getElem? (i := 103) rfl))) (Or.inr (hw _ (List.mem_of_getElem? (i := 101) rfl))) (by decide) (t := (.object "java/time/Duration")) (t' := .double) (by decide) (by decide))))
  have f11 := (f7.wr W8)
  obtain ⟨T12, h12, X12, e12, W12, st12⟩ := putF X8 hx hZ hown (host := "") (Or.inl (hw _ (List.mem_of_getElem? (i := 102) rfl))) Via.refl e8 f10 f11 (Or.inr ⟨(hw _ (List.mem_of_getElem? (i := 103) rfl)), rfl, hnm⟩) (hw _ (List.mem_of_getElem? (i := 93) rfl)) (ty := (.object "java/time/Duration")) (by decide) rfl rfl (g := (mkF m 17 #[.val (.ref a1), .val (.ref a2), .val (.double d1), .second, .val (.ref a3)] [(.ref a3), (.ref a1)])) rfl rfl (hb hby d17_17)
  have Fw12 := f10.same W12
  have K12 : Keep h0 h12 [a1] := K8.wr W12 (Or.inl (List.mem_of_getElem? (i := 0) rfl))
  have Z12 : n0 ≤ h12.size := Nat.le_trans Z8 (Keep.of_wr W12).1
  have N12 := Fr.snoc X12 N8 g_a1
  refine Go.adv st12 ?_
  show Go p.tables e below s _ _ _ (T12.setTop (mkF m 20 #[.val (.ref a1), .val (.ref a2), .val (.double d1), .second, .val (.ref a3)] []))
  refine Go.ret (v := none) X12 (fun _ => rfl) Bd.notSynchronized (fun fs hr => X12.returnOut hx Bd.returns (hb hby d17_20) hr) ?_ (by decide) (by decide)
  show Q_rm_binit Z a1 a2 d1 a3 u_initial u_factor u_max h0 n0 none T12.heap _
  rw [e12]
  have f13 := (f11.wr W12)
  have f14 := ((Fw4.other W8 (Or.inr (slot_ne (Or.inr (hw _ (List.mem_of_getElem? (i := 99) rfl))) (Or.inr (hw _ (List.mem_of_getElem? (i := 101) rfl))) (by decide) (t := (.object "java/time/Duration")) (t' := .double) (by decide) (by decide)))).other W12 (Or.inr (slot_ne (Or.inr (hw _ (List.mem_of_getElem? (i := 99) rfl))) (Or.inr (hw _ (List.mem_of_getElem? (i := 103) rfl))) (by decide) (t := (.object "java/time/Duration")) (t' := (.object "java/time/Duration")) (by decide) (by decide))))
  have f15 := (Fw8.other W12 (Or.inr (slot_ne (Or.inr (hw _ (List.mem_of_getElem? (i := 101) rfl))) (Or.inr (hw _ (List.mem_of_getElem? (i := 103) rfl))) (by decide) (t := .double) (t' := (.object "java/time/Duration")) (by decide) (by decide))))
  exact ⟨rfl, N12, K12, f13, f14, f15, Fw12⟩
theorem pn10 : plainName "com/example/chitragupta/chitragupta/Backoff" = true := by first | (simp [plainName, overriddenIn]; done) | decide +kernel
theorem d10_0 : decode prog_2_method_3_code 0 = .ok (.ldc 31, 2) := by decide +kernel
theorem own_wS {Z : State} {a0 : Array Value} (hw : ∀ d ∈ tables_1, d.before a0 Z = true) : ∀ a ∈ Bundle.stringAtoms, a.before a0 Z = true := by
  intro a ha
  simp only [Bundle.stringAtoms, List.mem_cons, List.not_mem_nil, or_false] at ha
  rcases ha with rfl | rfl | rfl | rfl | rfl | rfl | rfl
  · exact (hw _ (List.mem_of_getElem? (i := 53) rfl))
  · exact (hw _ (List.mem_of_getElem? (i := 54) rfl))
  · exact (hw _ (List.mem_of_getElem? (i := 55) rfl))
  · exact (hw _ (List.mem_of_getElem? (i := 56) rfl))
  · exact (hw _ (List.mem_of_getElem? (i := 57) rfl))
  · exact (hw _ (List.mem_of_getElem? (i := 58) rfl))
  · exact (hw _ (List.mem_of_getElem? (i := 59) rfl))
theorem d10_2 : decode prog_2_method_3_code 2 = .ok (.aload_n 0, 1) := by decide +kernel
theorem d10_3 : decode prog_2_method_3_code 3 = .ok (.invokestatic 22, 3) := by decide +kernel
theorem pd_oLjavaslangsStringeLjavastimesDurationecLjavastimesDuratione : parseMethodDescriptor "(Ljava/lang/String;Ljava/time/Duration;)Ljava/time/Duration;" = some ⟨[(.object "java/lang/String"), (.object "java/time/Duration")], some (.object "java/time/Duration")⟩ := by decide +kernel
theorem d10_6 : decode prog_2_method_3_code 6 = .ok (.pop, 1) := by decide +kernel
theorem d10_7 : decode prog_2_method_3_code 7 = .ok (.ldc 33, 2) := by decide +kernel
theorem d10_9 : decode prog_2_method_3_code 9 = .ok (.aload_n 3, 1) := by decide +kernel
theorem d10_10 : decode prog_2_method_3_code 10 = .ok (.invokestatic 22, 3) := by decide +kernel
theorem d10_13 : decode prog_2_method_3_code 13 = .ok (.pop, 1) := by decide +kernel
theorem d10_14 : decode prog_2_method_3_code 14 = .ok (.aload_n 0, 1) := by decide +kernel
theorem d10_15 : decode prog_2_method_3_code 15 = .ok (.invokevirtual 35, 3) := by decide +kernel
theorem d10_18 : decode prog_2_method_3_code 18 = .ok (.ifCond .eq 13, 3) := by decide +kernel
theorem d10_31 : decode prog_2_method_3_code 31 = .ok (.dload_n 1, 1) := by decide +kernel
theorem d10_32 : decode prog_2_method_3_code 32 = .ok (.dconst 1, 1) := by decide +kernel
theorem d10_33 : decode prog_2_method_3_code 33 = .ok (.dcmp .l, 1) := by decide +kernel
theorem d10_34 : decode prog_2_method_3_code 34 = .ok (.ifCond .lt 11, 3) := by decide +kernel
theorem d10_37 : decode prog_2_method_3_code 37 = .ok (.dload_n 1, 1) := by decide +kernel
theorem d10_38 : decode prog_2_method_3_code 38 = .ok (.ldc2_w 50, 3) := by decide +kernel
theorem d10_41 : decode prog_2_method_3_code 41 = .ok (.dcmp .g, 1) := by decide +kernel
theorem d10_42 : decode prog_2_method_3_code 42 = .ok (.ifCond .lt 17, 3) := by decide +kernel
theorem d10_59 : decode prog_2_method_3_code 59 = .ok (.aload_n 3, 1) := by decide +kernel
theorem d10_60 : decode prog_2_method_3_code 60 = .ok (.aload_n 0, 1) := by decide +kernel
theorem d10_61 : decode prog_2_method_3_code 61 = .ok (.invokevirtual 56, 3) := by decide +kernel
theorem d10_64 : decode prog_2_method_3_code 64 = .ok (.ifCond .ge 24, 3) := by decide +kernel
theorem d10_88 : decode prog_2_method_3_code 88 = .ok (.new 8, 3) := by decide +kernel
theorem d10_91 : decode prog_2_method_3_code 91 = .ok (.dup, 1) := by decide +kernel
theorem d10_92 : decode prog_2_method_3_code 92 = .ok (.aload_n 0, 1) := by decide +kernel
theorem d10_93 : decode prog_2_method_3_code 93 = .ok (.dload_n 1, 1) := by decide +kernel
theorem d10_94 : decode prog_2_method_3_code 94 = .ok (.aload_n 3, 1) := by decide +kernel
theorem d10_95 : decode prog_2_method_3_code 95 = .ok (.invokespecial 28, 3) := by decide +kernel
theorem pd_oLjavastimesDurationeDLjavastimesDurationecV : parseMethodDescriptor "(Ljava/time/Duration;DLjava/time/Duration;)V" = some ⟨[(.object "java/time/Duration"), .double, (.object "java/time/Duration")], none⟩ := by decide +kernel
theorem d10_98 : decode prog_2_method_3_code 98 = .ok (.areturn, 1) := by decide +kernel
theorem ef_rm_expo (m : MethodId) (x0 : Addr) (x2 : Addr) : entryFrame m #[(.ref x0), (.double (4611686018427387904 : UInt64)), (.ref x2)] 4 = mkF m 0 #[.val (.ref x0), .val (.double (4611686018427387904 : UInt64)), .second, .val (.ref x2)] [] := by first | (simp [entryFrame, mkF, argsToLocals, Value.category]; done) | rfl
def Q_rm_expo (Z : State) (a1 : Addr) (a2 : Addr) (ld : Addr) (h0 : Heap) (n0 : Nat) (v : Option Value) (h : Heap) (L : List Loc) : Prop := ∃ bo : Addr, v = some (.ref bo) ∧ Fr n0 L ∧ Keep h0 h []
set_option maxRecDepth 65536 in
set_option maxHeartbeats 40000000 in
theorem rm_expo (l : Launch) (Z : State) (a0 : Array Value) (hw : ∀ d ∈ tables_1, d.before a0 Z = true) (ws : List Jvm.Cond) (a1 : Addr) (a2 : Addr) (ld : Addr) (h0 : Heap) (n0 : Nat) (Z0 : n0 ≤ h0.size) (S_LONGEST_DURATION : Sta Z h0 "com/example/chitragupta/chitragupta/Limits" "LONGEST_DURATION" "Ljava/time/Duration;" (.ref ld)) (F_seconds_ld : Fld Z h0 ld "java/time/Duration" "seconds" "J" (.long (31536000 : Int64))) (E_a1 : Exa Z h0 a1 "java/time/Duration") (F_seconds_a1 : Fld Z h0 a1 "java/time/Duration" "seconds" "J" (.long (1 : Int64))) (F_nanos_a1 : Fld Z h0 a1 "java/time/Duration" "nanos" "I" (.int (0 : Int32))) (E_a2 : Exa Z h0 a2 "java/time/Duration") (F_seconds_a2 : Fld Z h0 a2 "java/time/Duration" "seconds" "J" (.long ((1 : Int64) * ((3600 : Int32).toInt64)))) :
    MetFree l (⟨"com/example/chitragupta/chitragupta/Backoff", "exponential", "(Ljava/time/Duration;DLjava/time/Duration;)Lcom/example/chitragupta/chitragupta/Backoff;"⟩ : MethodName) (head1 (Jvm.Cond.code (⟨"com/example/chitragupta/chitragupta/Backoff", "exponential", "(Ljava/time/Duration;DLjava/time/Duration;)Lcom/example/chitragupta/chitragupta/Backoff;"⟩ : MethodName) prog_2_method_3_code 4 (some (.object "com/example/chitragupta/chitragupta/Backoff")) :: ws) ({ frames := 3, cells := 5, slots := 115, locals := 42 } : Room)) (fun a U => a = #[(.ref a1), (.double (4611686018427387904 : UInt64)), (.ref a2)] ∧ Z.Warmed39 U.vm ∧ U.heap = h0) (fun _ _ _ _ _ => True) (fun _ U o U' => ∃ v L, o = .returned v ∧ Q_rm_expo Z a1 a2 ld h0 n0 v U'.heap L ∧ ReturnedEndW U o U' L ({ frames := 3, cells := 5, slots := 115, locals := 42 } : Room).cells ({ frames := 3, cells := 5, slots := 115, locals := 42 } : Room).slots) := by
  refine MetFree.of_bodySF (plainFor_of_name pn10) hisR ?_
  intro p e s m args below meth c s₁ Bd hml0 hP hK
  obtain ⟨rfl, hZ, hh⟩ := hP
  have hx := Bd.exec
  have hby := Bd.bytes
  have hml : c.maxLocals = 4 := hml0
  have hown : s.vm.findClass "com/example/chitragupta/chitragupta/Backoff" = some m.cls := findClass_of_methodNamed Bd.named
  have hnm := (name_of_methodNamed Bd.named Bd.method).1
  have X0 : Stand p l e ({ frames := 3, cells := 5, slots := 115, locals := 42 } : Room) (s.setVm s.vm) m #[(.ref a1), (.double (4611686018427387904 : UInt64)), (.ref a2)] below meth c s₁ [] 0 0 := Stand.of_body Bd
  have e0 : s₁.heap = h0 := by rw [← hh, Bd.state]; rfl
  have N0 := Fr.nil n0
  have hS0 : s.Since s.vm 0 := (State.WarmedH.refl s).since 0
  have hk0 : 0 ≤ h0.size := Nat.zero_le _
  refine GoW.start (Q := Q_rm_expo Z a1 a2 ld h0 n0) (ef_rm_expo m a1 a2) ?_
  obtain ⟨b1, T1, h1, k1, X1, e1, E1, hS1, hk1, hZ1, hown1, st1⟩ := ldcS X0 hx hZ hown (hw _ (List.mem_of_getElem? (i := 52) rfl)) (own_wS hw) e0 hS0 hk0 (g := (mkF m 0 #[.val (.ref a1), .val (.double (4611686018427387904 : UInt64)), .second, .val (.ref a2)] [])) rfl (hb hby d10_0) (n := 52) (by decide) (by decide) (by decide) (by decide)
  have K1 : Keep h0 h1 [] := (Keep.refl h0 []).ext E1
  have Z1 : n0 ≤ h1.size := Nat.le_trans Z0 E1.1
  refine GoW.adv st1 ?_
  show GoW p.tables e below s _ _ _ (T1.setTop (mkF m 2 #[.val (.ref a1), .val (.double (4611686018427387904 : UInt64)), .second, .val (.ref a2)] [(.ref b1)]))
  have sg2 : ∀ t, Steps p.tables e below (T1.setTop (mkF m 3 #[.val (.ref a1), .val (.double (4611686018427387904 : UInt64)), .second, .val (.ref a2)] [(.ref a1), (.ref b1)])) t → Steps p.tables e below (T1.setTop (mkF m 2 #[.val (.ref a1), .val (.double (4611686018427387904 : UInt64)), .second, .val (.ref a2)] [(.ref b1)])) t := by
    intro t kt
    show Steps p.tables e below (T1.setTop (mkF m 2 #[.val (.ref a1), .val (.double (4611686018427387904 : UInt64)), .second, .val (.ref a2)] [(.ref b1)])) _
    refine XS.aloadN X1.here hx rfl (hb hby d10_2) rfl rfl ?_
    exact kt
  refine GoW.adv sg2 ?_
  have f3 := (S_LONGEST_DURATION.ext E1)
  have f4 := (F_seconds_ld.ext E1)
  have f5 := (E_a1.ext E1)
  have f6 := (F_seconds_a1.ext E1)
  obtain ⟨_, _, ⟨T7, L7, k7, n7⟩, -, X7, ⟨Lc7, hQ7, l7, y7, z7⟩, st7⟩ := Jvm.LawKit.callS X1 hx (y := (⟨"com/example/chitragupta/chitragupta/Limits", "requireDuration", "(Ljava/lang/String;Ljava/time/Duration;)Ljava/time/Duration;"⟩ : MethodName)) hown1 (mvT hZ1 (hw _ (List.mem_of_getElem? (i := 60) rfl))) (mvT hZ1 (hw _ (List.mem_of_getElem? (i := 61) rfl))) (mvT hZ1 (hw _ (List.mem_of_getElem? (i := 62) rfl))) (mvT hZ1 (hw _ (List.mem_of_getElem? (i := 63) rfl))) (by decide) (backOf (W := 0) (rm_reqDur l Z a0 hw [] b1 a1 (1 : Int64) ld h1 n0 Z1 f3 f4 f5 f6 (by decide) (by decide)) hZ1 (hw _ (List.mem_of_getElem? (i := 63) rfl)) (hw _ (List.mem_of_getElem? (i := 62) rfl)) (by decide) (by decide)) (g := (mkF m 3 #[.val (.ref a1), .val (.double (4611686018427387904 : UInt64)), .second, .val (.ref a2)] [(.ref a1), (.ref b1)])) rfl (by rw [hml]; rfl) (argsL := [(.ref b1), (.ref a1)]) (rest := []) (lenOf pd_oLjavaslangsStringeLjavastimesDurationecLjavastimesDuratione rfl) rfl (by show 2 * 0 + _ ≤ _; exact Nat.le_of_eq rfl) (hb hby d10_3) (fun _ _ => ⟨rfl, e1, (by decide : 2 + 0 ≤ _), (by decide : 56 + 0 ≤ _)⟩)
  dsimp only [Pt.U, Pt.locs, Pt.cells, Pt.slots] at X7 l7 y7 z7 st7 hQ7
  subst l7 y7 z7
  obtain ⟨rfl, N7q, e7⟩ := hQ7
  have N7 := Fr.app N0 N7q
  refine GoW.adv st7 ?_
  show GoW p.tables e below s _ _ _ (T7.setTop (mkF m 6 #[.val (.ref a1), .val (.double (4611686018427387904 : UInt64)), .second, .val (.ref a2)] [(.ref a1)]))
  have sg8 : ∀ t, Steps p.tables e below (T7.setTop (mkF m 7 #[.val (.ref a1), .val (.double (4611686018427387904 : UInt64)), .second, .val (.ref a2)] [])) t → Steps p.tables e below (T7.setTop (mkF m 6 #[.val (.ref a1), .val (.double (4611686018427387904 : UInt64)), .second, .val (.ref a2)] [(.ref a1)])) t := by
    intro t kt
    show Steps p.tables e below (T7.setTop (mkF m 6 #[.val (.ref a1), .val (.double (4611686018427387904 : UInt64)), .second, .val (.ref a2)] [(.ref a1)])) _
    refine XS.pop X7.here hx rfl (hb hby d10_6) rfl rfl ?_
    exact kt
  refine GoW.adv sg8 ?_
  obtain ⟨b9, T9, h9, k9, X9, e9, E9, hS9, hk9, hZ9, hown9, st9⟩ := ldcS X7 hx hZ1 hown1 (hw _ (List.mem_of_getElem? (i := 84) rfl)) (own_wS hw) e7 hS1 hk1 (g := (mkF m 7 #[.val (.ref a1), .val (.double (4611686018427387904 : UInt64)), .second, .val (.ref a2)] [])) rfl (hb hby d10_7) (n := 52) (by decide) (by decide) (by decide) (by decide)
  have K9 : Keep h0 h9 [] := K1.ext E9
  have Z9 : n0 ≤ h9.size := Nat.le_trans Z1 E9.1
  refine GoW.adv st9 ?_
  show GoW p.tables e below s _ _ _ (T9.setTop (mkF m 9 #[.val (.ref a1), .val (.double (4611686018427387904 : UInt64)), .second, .val (.ref a2)] [(.ref b9)]))
  have sg10 : ∀ t, Steps p.tables e below (T9.setTop (mkF m 10 #[.val (.ref a1), .val (.double (4611686018427387904 : UInt64)), .second, .val (.ref a2)] [(.ref a2), (.ref b9)])) t → Steps p.tables e below (T9.setTop (mkF m 9 #[.val (.ref a1), .val (.double (4611686018427387904 : UInt64)), .second, .val (.ref a2)] [(.ref b9)])) t := by
    intro t kt
    show Steps p.tables e below (T9.setTop (mkF m 9 #[.val (.ref a1), .val (.double (4611686018427387904 : UInt64)), .second, .val (.ref a2)] [(.ref b9)])) _
    refine XS.aloadN X9.here hx rfl (hb hby d10_9) rfl rfl ?_
    exact kt
  refine GoW.adv sg10 ?_
  have f11 := (f3.ext E9)
  have f12 := (f4.ext E9)
  have f13 := ((E_a2.ext E1).ext E9)
  have f14 := ((F_seconds_a2.ext E1).ext E9)
  obtain ⟨_, _, ⟨T15, L15, k15, n15⟩, -, X15, ⟨Lc15, hQ15, l15, y15, z15⟩, st15⟩ := Jvm.LawKit.callS X9 hx (y := (⟨"com/example/chitragupta/chitragupta/Limits", "requireDuration", "(Ljava/lang/String;Ljava/time/Duration;)Ljava/time/Duration;"⟩ : MethodName)) hown9 (mvT hZ9 (hw _ (List.mem_of_getElem? (i := 60) rfl))) (mvT hZ9 (hw _ (List.mem_of_getElem? (i := 61) rfl))) (mvT hZ9 (hw _ (List.mem_of_getElem? (i := 62) rfl))) (mvT hZ9 (hw _ (List.mem_of_getElem? (i := 63) rfl))) (by decide) (backOf (W := 0) (rm_reqDur l Z a0 hw [] b9 a2 ((1 : Int64) * ((3600 : Int32).toInt64)) ld h9 n0 Z9 f11 f12 f13 f14 (by decide) (by decide)) hZ9 (hw _ (List.mem_of_getElem? (i := 63) rfl)) (hw _ (List.mem_of_getElem? (i := 62) rfl)) (by decide) (by decide)) (g := (mkF m 10 #[.val (.ref a1), .val (.double (4611686018427387904 : UInt64)), .second, .val (.ref a2)] [(.ref a2), (.ref b9)])) rfl (by rw [hml]; rfl) (argsL := [(.ref b9), (.ref a2)]) (rest := []) (lenOf pd_oLjavaslangsStringeLjavastimesDurationecLjavastimesDuratione rfl) rfl (by show 2 * 0 + _ ≤ _; exact Nat.le_of_eq rfl) (hb hby d10_10) (fun _ _ => ⟨rfl, e9, (by decide : 4 + 0 ≤ _), (by decide : 112 + 0 ≤ _)⟩)
  dsimp only [Pt.U, Pt.locs, Pt.cells, Pt.slots] at X15 l15 y15 z15 st15 hQ15
  subst l15 y15 z15
  obtain ⟨rfl, N15q, e15⟩ := hQ15
  have N15 := Fr.app N7 N15q
  refine GoW.adv st15 ?_
  show GoW p.tables e below s _ _ _ (T15.setTop (mkF m 13 #[.val (.ref a1), .val (.double (4611686018427387904 : UInt64)), .second, .val (.ref a2)] [(.ref a2)]))
  have sg16 : ∀ t, Steps p.tables e below (T15.setTop (mkF m 15 #[.val (.ref a1), .val (.double (4611686018427387904 : UInt64)), .second, .val (.ref a2)] [(.ref a1)])) t → Steps p.tables e below (T15.setTop (mkF m 13 #[.val (.ref a1), .val (.double (4611686018427387904 : UInt64)), .second, .val (.ref a2)] [(.ref a2)])) t := by
    intro t kt
    show Steps p.tables e below (T15.setTop (mkF m 13 #[.val (.ref a1), .val (.double (4611686018427387904 : UInt64)), .second, .val (.ref a2)] [(.ref a2)])) _
    refine XS.pop X15.here hx rfl (hb hby d10_13) rfl rfl ?_
    show Steps p.tables e below (T15.setTop (mkF m 14 #[.val (.ref a1), .val (.double (4611686018427387904 : UInt64)), .second, .val (.ref a2)] [])) _
    refine XS.aloadN X15.here hx rfl (hb hby d10_14) rfl rfl ?_
    exact kt
  refine GoW.adv sg16 ?_
  have f17 := (f6.ext E9)
  have f18 := ((F_nanos_a1.ext E1).ext E9)
  have f20 := (f5.ext E9)
  obtain ⟨cq19, kq19, q19a, q19b, q19c⟩ := isOf hZ9 e15 f20
  obtain ⟨_, _, ⟨T19, L19, k19, n19⟩, -, X19, ⟨Lc19, hQ19, l19, y19, z19⟩, st19⟩ := X15.virtualBack hx (y := (⟨"java/time/Duration", "isZero", "()Z"⟩ : MethodName)) (z := (⟨"java/time/Duration", "isZero", "()Z"⟩ : MethodName)) hown9 (mvT hZ9 (hw _ (List.mem_of_getElem? (i := 85) rfl))) (mvT hZ9 (hw _ (List.mem_of_getElem? (i := 86) rfl))) (notFace_of_selects (args := #[]) (mvT hZ9 (hw _ (List.mem_of_getElem? (i := 88) rfl)))) (mvT hZ9 (hw _ (List.mem_of_getElem? (i := 88) rfl))) (mvT hZ9 (hw _ (List.mem_of_getElem? (i := 87) rfl))) (by decide) (backOf (W := 0) (rm_isZero l Z a0 hw [] a1 (1 : Int64) (0 : Int32) h9 n0 Z9 f17 f18 (by decide)) hZ9 (hw _ (List.mem_of_getElem? (i := 89) rfl)) (hw _ (List.mem_of_getElem? (i := 18) rfl)) (by decide) (by decide)) q19a q19c (g := (mkF m 15 #[.val (.ref a1), .val (.double (4611686018427387904 : UInt64)), .second, .val (.ref a2)] [(.ref a1)])) rfl (by rw [hml]; rfl) (Steps.refl _) (argsL := []) (rest := []) (lenOf pd_ocZ rfl) rfl (by show 2 * 0 + _ ≤ _; exact Nat.le_of_eq rfl) (hb hby d10_15) (fun _ _ => ⟨rfl, e15, (by decide : 4 + 0 ≤ _), (by decide : 112 + 0 ≤ _)⟩)
  dsimp only [Pt.U, Pt.locs, Pt.cells, Pt.slots] at X19 l19 y19 z19 st19 hQ19
  subst l19 y19 z19
  obtain ⟨rfl, N19q, e19⟩ := hQ19
  have N19 := Fr.app N15 N19q
  refine GoW.tr st19 ?_
  show GoW p.tables e below s _ _ _ (T19.setTop (mkF m 18 #[.val (.ref a1), .val (.double (4611686018427387904 : UInt64)), .second, .val (.ref a2)] [(.int (0 : Int32))]))
  have sg21 : ∀ t, Steps p.tables e below (T19.setTop (mkF m 61 #[.val (.ref a1), .val (.double (4611686018427387904 : UInt64)), .second, .val (.ref a2)] [(.ref a1), (.ref a2)])) t → Steps p.tables e below (T19.setTop (mkF m 18 #[.val (.ref a1), .val (.double (4611686018427387904 : UInt64)), .second, .val (.ref a2)] [(.int (0 : Int32))])) t := by
    intro t kt
    show Steps p.tables e below (T19.setTop (mkF m 18 #[.val (.ref a1), .val (.double (4611686018427387904 : UInt64)), .second, .val (.ref a2)] [(.int (0 : Int32))])) _
    refine XS.ifYes X19.here hx rfl (pc0 := 18) (pc' := 31) rfl (hb hby d10_18) rfl ((if0 _ _).trans (teq (by decide : (0 : Int32) = (0 : Int32))).1) (by decide) (by decide) ?_
    show Steps p.tables e below (T19.setTop (mkF m 31 #[.val (.ref a1), .val (.double (4611686018427387904 : UInt64)), .second, .val (.ref a2)] [])) _
    refine own_dloadN X19.here hx rfl (hb hby d10_31) rfl ?_
    show Steps p.tables e below (T19.setTop (mkF m 32 #[.val (.ref a1), .val (.double (4611686018427387904 : UInt64)), .second, .val (.ref a2)] [(.double (4611686018427387904 : UInt64))])) _
    refine own_dconst1 X19.here hx rfl (hb hby d10_32) ?_
    show Steps p.tables e below (T19.setTop (mkF m 33 #[.val (.ref a1), .val (.double (4611686018427387904 : UInt64)), .second, .val (.ref a2)] [(.double (4607182418800017408 : UInt64)), (.double (4611686018427387904 : UInt64))])) _
    refine own_dcmp X19.here hx rfl (hb hby d10_33) rfl ?_
    show Steps p.tables e below (T19.setTop (mkF m 34 #[.val (.ref a1), .val (.double (4611686018427387904 : UInt64)), .second, .val (.ref a2)] [(.int (cmpValue (FP.dcmp (4611686018427387904 : UInt64) (4607182418800017408 : UInt64)) .l))])) _
    refine XS.ifNo X19.here hx rfl (hb hby d10_34) rfl ((if0 _ _).trans (flt (by decide +kernel : ¬ ((cmpValue (FP.dcmp (4611686018427387904 : UInt64) (4607182418800017408 : UInt64)) .l) < (0 : Int32)))).1) ?_
    show Steps p.tables e below (T19.setTop (mkF m 37 #[.val (.ref a1), .val (.double (4611686018427387904 : UInt64)), .second, .val (.ref a2)] [])) _
    refine own_dloadN X19.here hx rfl (hb hby d10_37) rfl ?_
    show Steps p.tables e below (T19.setTop (mkF m 38 #[.val (.ref a1), .val (.double (4611686018427387904 : UInt64)), .second, .val (.ref a2)] [(.double (4611686018427387904 : UInt64))])) _
    refine X19.ldc2DoubleC hx hown9 (mvT hZ9 (hw _ (List.mem_of_getElem? (i := 90) rfl))) (g := (mkF m 38 #[.val (.ref a1), .val (.double (4611686018427387904 : UInt64)), .second, .val (.ref a2)] [(.double (4611686018427387904 : UInt64))])) rfl (hb hby d10_38) _ ?_
    show Steps p.tables e below (T19.setTop (mkF m 41 #[.val (.ref a1), .val (.double (4611686018427387904 : UInt64)), .second, .val (.ref a2)] [(.double (9218868437227405312 : UInt64)), (.double (4611686018427387904 : UInt64))])) _
    refine own_dcmp X19.here hx rfl (hb hby d10_41) rfl ?_
    show Steps p.tables e below (T19.setTop (mkF m 42 #[.val (.ref a1), .val (.double (4611686018427387904 : UInt64)), .second, .val (.ref a2)] [(.int (cmpValue (FP.dcmp (4611686018427387904 : UInt64) (9218868437227405312 : UInt64)) .g))])) _
    refine XS.ifYes X19.here hx rfl (pc0 := 42) (pc' := 59) rfl (hb hby d10_42) rfl ((if0 _ _).trans (tlt (by decide +kernel : (cmpValue (FP.dcmp (4611686018427387904 : UInt64) (9218868437227405312 : UInt64)) .g) < (0 : Int32))).1) (by decide) (by decide) ?_
    show Steps p.tables e below (T19.setTop (mkF m 59 #[.val (.ref a1), .val (.double (4611686018427387904 : UInt64)), .second, .val (.ref a2)] [])) _
    refine XS.aloadN X19.here hx rfl (hb hby d10_59) rfl rfl ?_
    show Steps p.tables e below (T19.setTop (mkF m 60 #[.val (.ref a1), .val (.double (4611686018427387904 : UInt64)), .second, .val (.ref a2)] [(.ref a2)])) _
    refine XS.aloadN X19.here hx rfl (hb hby d10_60) rfl rfl ?_
    exact kt
  refine GoW.adv sg21 ?_
  obtain ⟨cq22, kq22, q22a, q22b, q22c⟩ := isOf hZ9 e19 f13
  obtain ⟨_, _, ⟨T22, L22, k22, n22⟩, -, X22, ⟨Lc22, hQ22, l22, y22, z22⟩, st22⟩ := X19.virtualBack hx (y := (⟨"java/time/Duration", "compareTo", "(Ljava/time/Duration;)I"⟩ : MethodName)) (z := (⟨"java/time/Duration", "compareTo", "(Ljava/time/Duration;)I"⟩ : MethodName)) hown9 (mvT hZ9 (hw _ (List.mem_of_getElem? (i := 91) rfl))) (mvT hZ9 (hw _ (List.mem_of_getElem? (i := 76) rfl))) (notFace_of_selects (args := #[]) (mvT hZ9 (hw _ (List.mem_of_getElem? (i := 78) rfl)))) (mvT hZ9 (hw _ (List.mem_of_getElem? (i := 78) rfl))) (mvT hZ9 (hw _ (List.mem_of_getElem? (i := 77) rfl))) (by decide) (backOf (W := 0) (rm_cmpTo l Z a0 hw [] a2 a1 ((1 : Int64) * ((3600 : Int32).toInt64)) (1 : Int64) h9 n0 Z9 f14 f17 (by decide)) hZ9 (hw _ (List.mem_of_getElem? (i := 79) rfl)) (hw _ (List.mem_of_getElem? (i := 18) rfl)) (by decide) (by decide)) q22a q22c (g := (mkF m 61 #[.val (.ref a1), .val (.double (4611686018427387904 : UInt64)), .second, .val (.ref a2)] [(.ref a1), (.ref a2)])) rfl (by rw [hml]; rfl) (Steps.refl _) (argsL := [(.ref a1)]) (rest := []) (lenOf pd_oLjavastimesDurationecI rfl) rfl (by show 2 * 0 + _ ≤ _; exact Nat.le_of_eq rfl) (hb hby d10_61) (fun _ _ => ⟨rfl, e19, (by decide : 4 + 0 ≤ _), (by decide : 112 + 0 ≤ _)⟩)
  dsimp only [Pt.U, Pt.locs, Pt.cells, Pt.slots] at X22 l22 y22 z22 st22 hQ22
  subst l22 y22 z22
  obtain ⟨rfl, N22q, e22⟩ := hQ22
  have N22 := Fr.app N19 N22q
  refine GoW.tr st22 ?_
  show GoW p.tables e below s _ _ _ (T22.setTop (mkF m 64 #[.val (.ref a1), .val (.double (4611686018427387904 : UInt64)), .second, .val (.ref a2)] [(.int (own_lcomp ((1 : Int64) * ((3600 : Int32).toInt64)) (1 : Int64)))]))
  have sg23 : ∀ t, Steps p.tables e below (T22.setTop (mkF m 88 #[.val (.ref a1), .val (.double (4611686018427387904 : UInt64)), .second, .val (.ref a2)] [])) t → Steps p.tables e below (T22.setTop (mkF m 64 #[.val (.ref a1), .val (.double (4611686018427387904 : UInt64)), .second, .val (.ref a2)] [(.int (own_lcomp ((1 : Int64) * ((3600 : Int32).toInt64)) (1 : Int64)))])) t := by
    intro t kt
    show Steps p.tables e below (T22.setTop (mkF m 64 #[.val (.ref a1), .val (.double (4611686018427387904 : UInt64)), .second, .val (.ref a2)] [(.int (own_lcomp ((1 : Int64) * ((3600 : Int32).toInt64)) (1 : Int64)))])) _
    refine XS.ifYes X22.here hx rfl (pc0 := 64) (pc' := 88) rfl (hb hby d10_64) rfl ((if0 _ _).trans (flt (by decide : ¬ ((own_lcomp ((1 : Int64) * ((3600 : Int32).toInt64)) (1 : Int64)) < (0 : Int32)))).2.1) (by decide) (by decide) ?_
    exact kt
  refine GoW.adv sg23 ?_
  obtain ⟨T24, h24, X24, e24, E24, A24, D24, -, st24⟩ := newO X22 hx hZ9 hown9 (hw _ (List.mem_of_getElem? (i := 92) rfl)) (hw _ (List.mem_of_getElem? (i := 93) rfl)) (hw _ (List.mem_of_getElem? (i := 50) rfl)) e22 (g := (mkF m 88 #[.val (.ref a1), .val (.double (4611686018427387904 : UInt64)), .second, .val (.ref a2)] [])) rfl (hb hby d10_88) (by decide) (by decide)
  obtain ⟨b24, gb24⟩ : ∃ z, z = h9.size := ⟨_, rfl⟩
  rw [← gb24] at A24 D24 st24
  have g_b24 : n0 ≤ b24 := Nat.le_trans Z9 (Nat.le_of_eq gb24.symm)
  have sz_b24 : h0.size ≤ b24 := Nat.le_trans K9.1 (Nat.le_of_eq gb24.symm)
  have ne_ld_b24 : ld ≠ b24 := Nat.ne_of_lt (Nat.lt_of_lt_of_le f12.lt (Nat.le_of_eq gb24.symm))
  have ne_a1_b24 : a1 ≠ b24 := Nat.ne_of_lt (Nat.lt_of_lt_of_le f20.lt (Nat.le_of_eq gb24.symm))
  have ne_a2_b24 : a2 ≠ b24 := Nat.ne_of_lt (Nat.lt_of_lt_of_le f13.lt (Nat.le_of_eq gb24.symm))
  have K24 : Keep h0 h24 [] := K9.ext E24
  have Z24 : n0 ≤ h24.size := Nat.le_trans Z9 E24.1
  have hk24 := Nat.le_trans hk9 E24.1
  have F_initial_b24 : Fld Z h24 b24 "com/example/chitragupta/chitragupta/Backoff" "initial" "Ljava/time/Duration;" .null := D24 (Or.inr (hw _ (List.mem_of_getElem? (i := 99) rfl))) (ty := (.object "java/time/Duration")) (by decide)
  have F_factor_b24 : Fld Z h24 b24 "com/example/chitragupta/chitragupta/Backoff" "factor" "D" (.double (0 : UInt64)) := D24 (Or.inr (hw _ (List.mem_of_getElem? (i := 101) rfl))) (ty := .double) (by decide)
  have F_max_b24 : Fld Z h24 b24 "com/example/chitragupta/chitragupta/Backoff" "max" "Ljava/time/Duration;" .null := D24 (Or.inr (hw _ (List.mem_of_getElem? (i := 103) rfl))) (ty := (.object "java/time/Duration")) (by decide)
  refine GoW.adv st24 ?_
  show GoW p.tables e below s _ _ _ (T24.setTop (mkF m 91 #[.val (.ref a1), .val (.double (4611686018427387904 : UInt64)), .second, .val (.ref a2)] [(.ref b24)]))
  have sg25 : ∀ t, Steps p.tables e below (T24.setTop (mkF m 95 #[.val (.ref a1), .val (.double (4611686018427387904 : UInt64)), .second, .val (.ref a2)] [(.ref a2), (.double (4611686018427387904 : UInt64)), (.ref a1), (.ref b24), (.ref b24)])) t → Steps p.tables e below (T24.setTop (mkF m 91 #[.val (.ref a1), .val (.double (4611686018427387904 : UInt64)), .second, .val (.ref a2)] [(.ref b24)])) t := by
    intro t kt
    show Steps p.tables e below (T24.setTop (mkF m 91 #[.val (.ref a1), .val (.double (4611686018427387904 : UInt64)), .second, .val (.ref a2)] [(.ref b24)])) _
    refine XS.dup X24.here hx rfl (hb hby d10_91) rfl rfl ?_
    show Steps p.tables e below (T24.setTop (mkF m 92 #[.val (.ref a1), .val (.double (4611686018427387904 : UInt64)), .second, .val (.ref a2)] [(.ref b24), (.ref b24)])) _
    refine XS.aloadN X24.here hx rfl (hb hby d10_92) rfl rfl ?_
    show Steps p.tables e below (T24.setTop (mkF m 93 #[.val (.ref a1), .val (.double (4611686018427387904 : UInt64)), .second, .val (.ref a2)] [(.ref a1), (.ref b24), (.ref b24)])) _
    refine own_dloadN X24.here hx rfl (hb hby d10_93) rfl ?_
    show Steps p.tables e below (T24.setTop (mkF m 94 #[.val (.ref a1), .val (.double (4611686018427387904 : UInt64)), .second, .val (.ref a2)] [(.double (4611686018427387904 : UInt64)), (.ref a1), (.ref b24), (.ref b24)])) _
    refine XS.aloadN X24.here hx rfl (hb hby d10_94) rfl rfl ?_
    exact kt
  refine GoW.adv sg25 ?_
  have f26 := (f11.ext E24)
  obtain ⟨_, _, ⟨T27, L27, k27, n27⟩, -, X27, ⟨Lc27, hQ27, l27, y27, z27⟩, st27⟩ := X24.specialBack hx (y := (⟨"com/example/chitragupta/chitragupta/Backoff", "<init>", "(Ljava/time/Duration;DLjava/time/Duration;)V"⟩ : MethodName)) rfl hown9 (mvT hZ9 (hw _ (List.mem_of_getElem? (i := 94) rfl))) (mvT hZ9 (hw _ (List.mem_of_getElem? (i := 95) rfl))) (mvT hZ9 (hw _ (List.mem_of_getElem? (i := 96) rfl))) (by decide) (backOf (W := 1) (rm_binit l Z a0 hw [] b24 a1 (4611686018427387904 : UInt64) a2 (.null) (.double (0 : UInt64)) (.null) h24 n0 Z24 A24 g_b24 F_initial_b24 F_factor_b24 F_max_b24) hZ9 (hw _ (List.mem_of_getElem? (i := 96) rfl)) (hw _ (List.mem_of_getElem? (i := 50) rfl)) (by decide) (by decide)) (g := (mkF m 95 #[.val (.ref a1), .val (.double (4611686018427387904 : UInt64)), .second, .val (.ref a2)] [(.ref a2), (.double (4611686018427387904 : UInt64)), (.ref a1), (.ref b24), (.ref b24)])) rfl (by rw [hml]; rfl) (Steps.refl _) (a := b24) (argsL := [(.ref a1), (.double (4611686018427387904 : UInt64)), (.ref a2)]) (rest := [(.ref b24)]) (lenOf pd_oLjavastimesDurationeDLjavastimesDurationecV rfl) rfl (by show 2 * 0 + _ ≤ _; exact Nat.le_of_eq rfl) (hb hby d10_95) (fun _ _ => ⟨rfl, e24, (by decide : 5 + 0 ≤ _), (by decide : 115 + 0 ≤ _)⟩)
  dsimp only [Pt.U, Pt.locs, Pt.cells, Pt.slots] at X27 l27 y27 z27 st27 hQ27
  subst l27 y27 z27
  obtain ⟨rfl, N27q, Kc27, p27_0, p27_1, p27_2, p27_3⟩ := hQ27
  have N27 := Fr.app N22 N27q
  have s27_LONGEST_DURATION := own_staKeep f26 Kc27 A24
  have K27 : Keep h0 T27.heap [] := K24.trans Kc27 (allS (Or.inr sz_b24) all0)
  have Z27 : n0 ≤ T27.heap.size := Nat.le_trans Z24 Kc27.1
  have hk27 := Nat.le_trans hk24 Kc27.1
  refine GoW.tr st27 ?_
  show GoW p.tables e below s _ _ _ (T27.setTop (mkF m 98 #[.val (.ref a1), .val (.double (4611686018427387904 : UInt64)), .second, .val (.ref a2)] [(.ref b24)]))
  refine GoW.ret (v := (some (.ref b24))) X27 hS9 hk27 (fun h => by rw [Bd.returns] at h; cases h) Bd.notSynchronized (fun fs hr => retOut X27 hx Bd.returns rfl (Or.inr (Or.inr (Or.inr (Or.inr ⟨rfl, rfl, rfl⟩)))) (hb hby d10_98) hr) ?_ (by decide) (by decide)
  show Q_rm_expo Z a1 a2 ld h0 n0 (some (.ref b24)) T27.heap _
  exact ⟨b24, rfl, N27, K27⟩
theorem pn1 : plainName "com/example/chitragupta/chitragupta/JobOptions" = true := by first | (simp [plainName, overriddenIn]; done) | decide +kernel
theorem d1_0 : decode prog_12_method_1_code 0 = .ok (.aload_n 0, 1) := by decide +kernel
theorem d1_1 : decode prog_12_method_1_code 1 = .ok (.invokespecial 1, 3) := by decide +kernel
theorem d1_4 : decode prog_12_method_1_code 4 = .ok (.aload_n 0, 1) := by decide +kernel
theorem d1_5 : decode prog_12_method_1_code 5 = .ok (.getstatic 7, 3) := by decide +kernel
theorem d1_8 : decode prog_12_method_1_code 8 = .ok (.putfield 13, 3) := by decide +kernel
theorem d1_11 : decode prog_12_method_1_code 11 = .ok (.aload_n 0, 1) := by decide +kernel
theorem d1_12 : decode prog_12_method_1_code 12 = .ok (.iconst 3, 1) := by decide +kernel
theorem d1_13 : decode prog_12_method_1_code 13 = .ok (.putfield 18, 3) := by decide +kernel
theorem d1_16 : decode prog_12_method_1_code 16 = .ok (.aload_n 0, 1) := by decide +kernel
theorem d1_17 : decode prog_12_method_1_code 17 = .ok (.lconst 1, 1) := by decide +kernel
theorem d1_18 : decode prog_12_method_1_code 18 = .ok (.invokestatic 22, 3) := by decide +kernel
theorem pd_oJcLjavastimesDuratione : parseMethodDescriptor "(J)Ljava/time/Duration;" = some ⟨[.long], some (.object "java/time/Duration")⟩ := by decide +kernel
theorem d1_21 : decode prog_12_method_1_code 21 = .ok (.ldc2_w 28, 3) := by decide +kernel
theorem d1_24 : decode prog_12_method_1_code 24 = .ok (.lconst 1, 1) := by decide +kernel
theorem d1_25 : decode prog_12_method_1_code 25 = .ok (.invokestatic 30, 3) := by decide +kernel
theorem d1_28 : decode prog_12_method_1_code 28 = .ok (.invokestatic 33, 3) := by decide +kernel
theorem pd_oLjavastimesDurationeDLjavastimesDurationecLcomsexampleschitraguptaschitraguptasBackoffe : parseMethodDescriptor "(Ljava/time/Duration;DLjava/time/Duration;)Lcom/example/chitragupta/chitragupta/Backoff;" = some ⟨[(.object "java/time/Duration"), .double, (.object "java/time/Duration")], some (.object "com/example/chitragupta/chitragupta/Backoff")⟩ := by decide +kernel
theorem d1_31 : decode prog_12_method_1_code 31 = .ok (.putfield 39, 3) := by decide +kernel
theorem d1_34 : decode prog_12_method_1_code 34 = .ok (.return_, 1) := by decide +kernel
theorem ef_rm_joinit (m : MethodId) (x0 : Addr) : entryFrame m #[(.ref x0)] 1 = mkF m 0 #[.val (.ref x0)] [] := by first | (simp [entryFrame, mkF, argsToLocals, Value.category]; done) | rfl
def Q_rm_joinit (Z : State) (a1 : Addr) (u_priority : Value) (u_maxAttempts : Value) (u_backoff : Value) (u_runAt : Value) (pn : Addr) (ld : Addr) (h0 : Heap) (n0 : Nat) (v : Option Value) (h : Heap) (L : List Loc) : Prop := ∃ bo : Addr, v = none ∧ Fr n0 L ∧ Keep h0 h [a1] ∧ Exa Z h a1 "com/example/chitragupta/chitragupta/JobOptions" ∧ Fld Z h a1 "com/example/chitragupta/chitragupta/JobOptions" "priority" "Lcom/example/chitragupta/chitragupta/Priority;" (.ref pn) ∧ Fld Z h a1 "com/example/chitragupta/chitragupta/JobOptions" "maxAttempts" "I" (.int (3 : Int32)) ∧ Fld Z h a1 "com/example/chitragupta/chitragupta/JobOptions" "backoff" "Lcom/example/chitragupta/chitragupta/Backoff;" (.ref bo) ∧ Fld Z h a1 "com/example/chitragupta/chitragupta/JobOptions" "runAt" "Ljava/time/Instant;" u_runAt
set_option maxRecDepth 65536 in
set_option maxHeartbeats 40000000 in
theorem rm_joinit (l : Launch) (Z : State) (a0 : Array Value) (hw : ∀ d ∈ tables_1, d.before a0 Z = true) (ws : List Jvm.Cond) (a1 : Addr) (u_priority : Value) (u_maxAttempts : Value) (u_backoff : Value) (u_runAt : Value) (pn : Addr) (ld : Addr) (h0 : Heap) (n0 : Nat) (Z0 : n0 ≤ h0.size) (S_NORMAL : Sta Z h0 "com/example/chitragupta/chitragupta/Priority" "NORMAL" "Lcom/example/chitragupta/chitragupta/Priority;" (.ref pn)) (S_LONGEST_DURATION : Sta Z h0 "com/example/chitragupta/chitragupta/Limits" "LONGEST_DURATION" "Ljava/time/Duration;" (.ref ld)) (F_seconds_ld : Fld Z h0 ld "java/time/Duration" "seconds" "J" (.long (31536000 : Int64))) (E_a1 : Exa Z h0 a1 "com/example/chitragupta/chitragupta/JobOptions") (g_a1 : n0 ≤ a1) (F_priority_a1 : Fld Z h0 a1 "com/example/chitragupta/chitragupta/JobOptions" "priority" "Lcom/example/chitragupta/chitragupta/Priority;" u_priority) (F_maxAttempts_a1 : Fld Z h0 a1 "com/example/chitragupta/chitragupta/JobOptions" "maxAttempts" "I" u_maxAttempts) (F_backoff_a1 : Fld Z h0 a1 "com/example/chitragupta/chitragupta/JobOptions" "backoff" "Lcom/example/chitragupta/chitragupta/Backoff;" u_backoff) (F_runAt_a1 : Fld Z h0 a1 "com/example/chitragupta/chitragupta/JobOptions" "runAt" "Ljava/time/Instant;" u_runAt) (hld : ld < n0) :
    MetFree l (⟨"com/example/chitragupta/chitragupta/JobOptions", "<init>", "()V"⟩ : MethodName) (head1 (Jvm.Cond.code (⟨"com/example/chitragupta/chitragupta/JobOptions", "<init>", "()V"⟩ : MethodName) prog_12_method_1_code 1 none :: ws) ({ frames := 4, cells := 7, slots := 119, locals := 65 } : Room)) (fun a U => a = #[(.ref a1)] ∧ Z.Warmed39 U.vm ∧ U.heap = h0) (fun _ _ _ _ _ => True) (fun _ U o U' => ∃ v L, o = .returned v ∧ Q_rm_joinit Z a1 u_priority u_maxAttempts u_backoff u_runAt pn ld h0 n0 v U'.heap L ∧ ReturnedEndW U o U' L ({ frames := 4, cells := 7, slots := 119, locals := 65 } : Room).cells ({ frames := 4, cells := 7, slots := 119, locals := 65 } : Room).slots) := by
  refine MetFree.of_bodySF (plainFor_of_name pn1) hisR ?_
  intro p e s m args below meth c s₁ Bd hml0 hP hK
  obtain ⟨rfl, hZ, hh⟩ := hP
  have hx := Bd.exec
  have hby := Bd.bytes
  have hml : c.maxLocals = 1 := hml0
  have hown : s.vm.findClass "com/example/chitragupta/chitragupta/JobOptions" = some m.cls := findClass_of_methodNamed Bd.named
  have hnm := (name_of_methodNamed Bd.named Bd.method).1
  have X0 : Stand p l e ({ frames := 4, cells := 7, slots := 119, locals := 65 } : Room) (s.setVm s.vm) m #[(.ref a1)] below meth c s₁ [] 0 0 := Stand.of_body Bd
  have e0 : s₁.heap = h0 := by rw [← hh, Bd.state]; rfl
  have N0 := Fr.nil n0
  have hS0 : s.Since s.vm 0 := (State.WarmedH.refl s).since 0
  have hk0 : 0 ≤ h0.size := Nat.zero_le _
  refine GoW.start (Q := Q_rm_joinit Z a1 u_priority u_maxAttempts u_backoff u_runAt pn ld h0 n0) (ef_rm_joinit m a1) ?_
  have sg1 : ∀ t, Steps p.tables e below (s₁.setTop (mkF m 1 #[.val (.ref a1)] [(.ref a1)])) t → Steps p.tables e below (s₁.setTop (mkF m 0 #[.val (.ref a1)] [])) t := by
    intro t kt
    show Steps p.tables e below (s₁.setTop (mkF m 0 #[.val (.ref a1)] [])) _
    refine XS.aloadN X0.here hx rfl (hb hby d1_0) rfl rfl ?_
    exact kt
  refine GoW.adv sg1 ?_
  obtain ⟨T2, X2, e2, st2⟩ := initO X0 hx hZ hown (hw _ (List.mem_of_getElem? (i := 6) rfl)) (hw _ (List.mem_of_getElem? (i := 7) rfl)) (hw _ (List.mem_of_getElem? (i := 8) rfl)) e0 (g := (mkF m 1 #[.val (.ref a1)] [(.ref a1)])) rfl (by rw [hml]; rfl) rfl (hb hby d1_1) (by decide) (W := 0) (by show 2 * 0 + _ ≤ _; exact Nat.le_of_eq rfl) (by decide)
  refine GoW.adv st2 ?_
  show GoW p.tables e below s _ _ _ (T2.setTop (mkF m 4 #[.val (.ref a1)] []))
  have sg3 : ∀ t, Steps p.tables e below (T2.setTop (mkF m 5 #[.val (.ref a1)] [(.ref a1)])) t → Steps p.tables e below (T2.setTop (mkF m 4 #[.val (.ref a1)] [])) t := by
    intro t kt
    show Steps p.tables e below (T2.setTop (mkF m 4 #[.val (.ref a1)] [])) _
    refine XS.aloadN X2.here hx rfl (hb hby d1_4) rfl rfl ?_
    exact kt
  refine GoW.adv sg3 ?_
  obtain ⟨T4, X4, e4, st4⟩ := getS2 X2 hx hZ hown (host := "") (Or.inl (hw _ (List.mem_of_getElem? (i := 9) rfl))) Via.refl e2 S_NORMAL (g := (mkF m 5 #[.val (.ref a1)] [(.ref a1)])) rfl (hb hby d1_5)
  refine GoW.adv st4 ?_
  show GoW p.tables e below s _ _ _ (T4.setTop (mkF m 8 #[.val (.ref a1)] [(.ref pn), (.ref a1)]))
  obtain ⟨T5, h5, X5, e5, W5, st5⟩ := putF X4 hx hZ hown (host := "") (Or.inl (hw _ (List.mem_of_getElem? (i := 12) rfl))) Via.refl e4 F_priority_a1 E_a1 (Or.inl (hw _ (List.mem_of_getElem? (i := 13) rfl))) (hw _ (List.mem_of_getElem? (i := 1) rfl)) (ty := (.object "com/example/chitragupta/chitragupta/Priority")) (by decide) rfl rfl (g := (mkF m 8 #[.val (.ref a1)] [(.ref pn), (.ref a1)])) rfl rfl (hb hby d1_8)
  have Fw5 := F_priority_a1.same W5
  have K5 : Keep h0 h5 [a1] := (Keep.refl h0 [a1]).wr W5 (Or.inl (List.mem_of_getElem? (i := 0) rfl))
  have Z5 : n0 ≤ h5.size := Nat.le_trans Z0 (Keep.of_wr W5).1
  have hk5 := Nat.le_trans hk0 (Keep.of_wr W5).1
  have N5 := Fr.snoc X5 N0 g_a1
  refine GoW.adv st5 ?_
  show GoW p.tables e below s _ _ _ (T5.setTop (mkF m 11 #[.val (.ref a1)] []))
  have sg6 : ∀ t, Steps p.tables e below (T5.setTop (mkF m 13 #[.val (.ref a1)] [(.int (3 : Int32)), (.ref a1)])) t → Steps p.tables e below (T5.setTop (mkF m 11 #[.val (.ref a1)] [])) t := by
    intro t kt
    show Steps p.tables e below (T5.setTop (mkF m 11 #[.val (.ref a1)] [])) _
    refine XS.aloadN X5.here hx rfl (hb hby d1_11) rfl rfl ?_
    show Steps p.tables e below (T5.setTop (mkF m 12 #[.val (.ref a1)] [(.ref a1)])) _
    refine XS.iconst X5.here hx rfl (hb hby d1_12) ?_
    exact kt
  refine GoW.adv sg6 ?_
  have f7 := (F_maxAttempts_a1.other W5 (Or.inr (slot_ne (Or.inl (hw _ (List.mem_of_getElem? (i := 15) rfl))) (Or.inl (hw _ (List.mem_of_getElem? (i := 13) rfl))) (by decide) (t := .int) (t' := (.object "com/example/chitragupta/chitragupta/Priority")) (by decide) (by decide))))
  have f8 := (E_a1.wr W5)
  obtain ⟨T9, h9, X9, e9, W9, st9⟩ := putF X5 hx hZ hown (host := "") (Or.inl (hw _ (List.mem_of_getElem? (i := 14) rfl))) Via.refl e5 f7 f8 (Or.inl (hw _ (List.mem_of_getElem? (i := 15) rfl))) (hw _ (List.mem_of_getElem? (i := 1) rfl)) (ty := .int) (by decide) rfl rfl (g := (mkF m 13 #[.val (.ref a1)] [(.int (3 : Int32)), (.ref a1)])) rfl rfl (hb hby d1_13)
  have Fw9 := f7.same W9
  have K9 : Keep h0 h9 [a1] := K5.wr W9 (Or.inl (List.mem_of_getElem? (i := 0) rfl))
  have Z9 : n0 ≤ h9.size := Nat.le_trans Z5 (Keep.of_wr W9).1
  have hk9 := Nat.le_trans hk5 (Keep.of_wr W9).1
  have N9 := Fr.snoc X9 N5 g_a1
  refine GoW.adv st9 ?_
  show GoW p.tables e below s _ _ _ (T9.setTop (mkF m 16 #[.val (.ref a1)] []))
  have sg10 : ∀ t, Steps p.tables e below (T9.setTop (mkF m 18 #[.val (.ref a1)] [(.long (1 : Int64)), (.ref a1)])) t → Steps p.tables e below (T9.setTop (mkF m 16 #[.val (.ref a1)] [])) t := by
    intro t kt
    show Steps p.tables e below (T9.setTop (mkF m 16 #[.val (.ref a1)] [])) _
    refine XS.aloadN X9.here hx rfl (hb hby d1_16) rfl rfl ?_
    show Steps p.tables e below (T9.setTop (mkF m 17 #[.val (.ref a1)] [(.ref a1)])) _
    refine XS.lconst X9.here hx rfl (hb hby d1_17) ?_
    exact kt
  refine GoW.adv sg10 ?_
  have f11 := ((S_NORMAL.wr W5).wr W9)
  have f12 := ((S_LONGEST_DURATION.wr W5).wr W9)
  have f13 := ((F_seconds_ld.other W5 (Or.inl (Nat.ne_of_lt (Nat.lt_of_lt_of_le hld g_a1)))).other W9 (Or.inl (Nat.ne_of_lt (Nat.lt_of_lt_of_le hld g_a1))))
  have f14 := (f8.wr W9)
  obtain ⟨_, _, ⟨T15, L15, k15, n15⟩, -, X15, ⟨Lc15, hQ15, l15, y15, z15⟩, st15⟩ := Jvm.LawKit.callS X9 hx (y := (⟨"java/time/Duration", "ofSeconds", "(J)Ljava/time/Duration;"⟩ : MethodName)) hown (mvT hZ (hw _ (List.mem_of_getElem? (i := 16) rfl))) (mvT hZ (hw _ (List.mem_of_getElem? (i := 17) rfl))) (mvT hZ (hw _ (List.mem_of_getElem? (i := 18) rfl))) (mvT hZ (hw _ (List.mem_of_getElem? (i := 19) rfl))) (by decide) (backOf (W := 1) (rm_ofSec l Z a0 hw []   h9 n0 Z9 ) hZ (hw _ (List.mem_of_getElem? (i := 19) rfl)) (hw _ (List.mem_of_getElem? (i := 18) rfl)) (by decide) (by decide)) (g := (mkF m 18 #[.val (.ref a1)] [(.long (1 : Int64)), (.ref a1)])) rfl (by rw [hml]; rfl) (argsL := [(.long (1 : Int64))]) (rest := [(.ref a1)]) (lenOf pd_oJcLjavastimesDuratione rfl) rfl (by show 2 * 0 + _ ≤ _; exact Nat.le_of_eq rfl) (hb hby d1_18) (fun _ _ => ⟨rfl, e9, (by decide : 0 + 1 ≤ _), (by decide : 0 + 2 ≤ _)⟩)
  dsimp only [Pt.U, Pt.locs, Pt.cells, Pt.slots] at X15 l15 y15 z15 st15 hQ15
  subst l15 y15 z15
  obtain ⟨b15, rfl, N15q, Kc15, p15_0, p15_1, p15_2, p15_3⟩ := hQ15
  have N15 := Fr.app N9 N15q
  have s15_NORMAL := own_staKeep0 f11 Kc15
  have s15_LONGEST_DURATION := own_staKeep0 f12 Kc15
  have K15 : Keep h0 T15.heap [a1] := K9.trans Kc15 all0
  have Z15 : n0 ≤ T15.heap.size := Nat.le_trans Z9 Kc15.1
  have hk15 := Nat.le_trans hk9 Kc15.1
  have g_b15 : n0 ≤ b15 := Nat.le_trans Z9 p15_0
  have sz_b15 : h0.size ≤ b15 := Nat.le_trans K9.1 p15_0
  have ne_ld_b15 : ld ≠ b15 := Nat.ne_of_lt (Nat.lt_of_lt_of_le f13.lt p15_0)
  have ne_a1_b15 : a1 ≠ b15 := Nat.ne_of_lt (Nat.lt_of_lt_of_le f14.lt p15_0)
  refine GoW.adv st15 ?_
  show GoW p.tables e below s _ _ _ (T15.setTop (mkF m 21 #[.val (.ref a1)] [(.ref b15), (.ref a1)]))
  have sg16 : ∀ t, Steps p.tables e below (T15.setTop (mkF m 25 #[.val (.ref a1)] [(.long (1 : Int64)), (.double (4611686018427387904 : UInt64)), (.ref b15), (.ref a1)])) t → Steps p.tables e below (T15.setTop (mkF m 21 #[.val (.ref a1)] [(.ref b15), (.ref a1)])) t := by
    intro t kt
    show Steps p.tables e below (T15.setTop (mkF m 21 #[.val (.ref a1)] [(.ref b15), (.ref a1)])) _
    refine X15.ldc2DoubleC hx hown (mvT hZ (hw _ (List.mem_of_getElem? (i := 34) rfl))) (g := (mkF m 21 #[.val (.ref a1)] [(.ref b15), (.ref a1)])) rfl (hb hby d1_21) _ ?_
    show Steps p.tables e below (T15.setTop (mkF m 24 #[.val (.ref a1)] [(.double (4611686018427387904 : UInt64)), (.ref b15), (.ref a1)])) _
    refine XS.lconst X15.here hx rfl (hb hby d1_24) ?_
    exact kt
  refine GoW.adv sg16 ?_
  have f17 := (f13.keep Kc15 nin0)
  have f18 := (f14.keep Kc15)
  obtain ⟨_, _, ⟨T19, L19, k19, n19⟩, -, X19, ⟨Lc19, hQ19, l19, y19, z19⟩, st19⟩ := Jvm.LawKit.callS X15 hx (y := (⟨"java/time/Duration", "ofHours", "(J)Ljava/time/Duration;"⟩ : MethodName)) hown (mvT hZ (hw _ (List.mem_of_getElem? (i := 35) rfl))) (mvT hZ (hw _ (List.mem_of_getElem? (i := 36) rfl))) (mvT hZ (hw _ (List.mem_of_getElem? (i := 18) rfl))) (mvT hZ (hw _ (List.mem_of_getElem? (i := 37) rfl))) (by decide) (backOf (W := 4) (rm_ofHours l Z a0 hw []   T15.heap n0 Z15 ) hZ (hw _ (List.mem_of_getElem? (i := 37) rfl)) (hw _ (List.mem_of_getElem? (i := 18) rfl)) (by decide) (by decide)) (g := (mkF m 25 #[.val (.ref a1)] [(.long (1 : Int64)), (.double (4611686018427387904 : UInt64)), (.ref b15), (.ref a1)])) rfl (by rw [hml]; rfl) (argsL := [(.long (1 : Int64))]) (rest := [(.double (4611686018427387904 : UInt64)), (.ref b15), (.ref a1)]) (lenOf pd_oJcLjavastimesDuratione rfl) rfl (by show 2 * 0 + _ ≤ _; exact Nat.le_of_eq rfl) (hb hby d1_25) (fun _ _ => ⟨rfl, rfl, (by decide : 1 + 1 ≤ _), (by decide : 2 + 2 ≤ _)⟩)
  dsimp only [Pt.U, Pt.locs, Pt.cells, Pt.slots] at X19 l19 y19 z19 st19 hQ19
  subst l19 y19 z19
  obtain ⟨b19, rfl, N19q, Kc19, p19_0, p19_1, p19_2, p19_3⟩ := hQ19
  have N19 := Fr.app N15 N19q
  have s19_NORMAL := own_staKeep0 s15_NORMAL Kc19
  have s19_LONGEST_DURATION := own_staKeep0 s15_LONGEST_DURATION Kc19
  have K19 : Keep h0 T19.heap [a1] := K15.trans Kc19 all0
  have Z19 : n0 ≤ T19.heap.size := Nat.le_trans Z15 Kc19.1
  have hk19 := Nat.le_trans hk15 Kc19.1
  have g_b19 : n0 ≤ b19 := Nat.le_trans Z15 p19_0
  have sz_b19 : h0.size ≤ b19 := Nat.le_trans K15.1 p19_0
  have ne_ld_b19 : ld ≠ b19 := Nat.ne_of_lt (Nat.lt_of_lt_of_le f17.lt p19_0)
  have ne_a1_b19 : a1 ≠ b19 := Nat.ne_of_lt (Nat.lt_of_lt_of_le f18.lt p19_0)
  have ne_b15_b19 : b15 ≠ b19 := Nat.ne_of_lt (Nat.lt_of_lt_of_le p15_1.lt p19_0)
  refine GoW.adv st19 ?_
  show GoW p.tables e below s _ _ _ (T19.setTop (mkF m 28 #[.val (.ref a1)] [(.ref b19), (.double (4611686018427387904 : UInt64)), (.ref b15), (.ref a1)]))
  have f20 := (f17.keep Kc19 nin0)
  have f21 := (p15_1.keep Kc19)
  have f22 := (p15_2.keep Kc19 nin0)
  have f23 := (p15_3.keep Kc19 nin0)
  obtain ⟨_, _, ⟨T24, L24, k24, n24⟩, -, Xr24, hSr24, hG24, ⟨Lc24, hQ24, l24, y24, z24⟩, st24⟩ := callSS X19 hx (y := (⟨"com/example/chitragupta/chitragupta/Backoff", "exponential", "(Ljava/time/Duration;DLjava/time/Duration;)Lcom/example/chitragupta/chitragupta/Backoff;"⟩ : MethodName)) hown (mvT hZ (hw _ (List.mem_of_getElem? (i := 48) rfl))) (mvT hZ (hw _ (List.mem_of_getElem? (i := 49) rfl))) (mvT hZ (hw _ (List.mem_of_getElem? (i := 50) rfl))) (mvT hZ (hw _ (List.mem_of_getElem? (i := 51) rfl))) (by decide) (backOfS (W := 1) (rm_expo l Z a0 hw [] b15 b19 ld T19.heap n0 Z19 s19_LONGEST_DURATION f20 f21 f22 f23 p19_1 p19_2) hZ (hw _ (List.mem_of_getElem? (i := 51) rfl)) (hw _ (List.mem_of_getElem? (i := 50) rfl)) (by decide) (by decide)) (g := (mkF m 28 #[.val (.ref a1)] [(.ref b19), (.double (4611686018427387904 : UInt64)), (.ref b15), (.ref a1)])) rfl (by rw [hml]; rfl) (argsL := [(.ref b15), (.double (4611686018427387904 : UInt64)), (.ref b19)]) (rest := [(.ref a1)]) (lenOf pd_oLjavastimesDurationeDLjavastimesDurationecLcomsexampleschitraguptaschitraguptasBackoffe rfl) rfl (by show 2 * 0 + _ ≤ _; exact Nat.le_of_eq rfl) (hb hby d1_28) (fun _ _ => ⟨rfl, rfl, (by decide : 2 + 5 ≤ _), (by decide : 4 + 115 ≤ _)⟩)
  dsimp only [Pt.U, Pt.locs, Pt.cells, Pt.slots] at Xr24 l24 y24 z24 st24 hQ24 hSr24 hG24
  subst l24 y24 z24
  have X24 : Stand p l e _ (s.setVm T24.vm) m _ below meth c T24 _ _ _ := Xr24
  have hS24 : s.Since T24.vm T24.heap.size := State.Since.trans hS0 hSr24 (Nat.le_trans hk19 hG24)
  have hZ24 : Z.Warmed39 (s.setVm T24.vm).vm := State.Warmed39.trans (t := s.setVm s.vm) hZ hSr24.1
  have hown24 : (s.setVm T24.vm).vm.findClass "com/example/chitragupta/chitragupta/JobOptions" = some m.cls := by rw [show (s.setVm T24.vm).vm = T24.vm from rfl, hSr24.1.alike.findClass]; exact hown
  obtain ⟨b24, rfl, N24q, Kc24⟩ := hQ24
  have N24 := Fr.app N19 N24q
  have s24_NORMAL := own_staKeep0 s19_NORMAL Kc24
  have s24_LONGEST_DURATION := own_staKeep0 s19_LONGEST_DURATION Kc24
  have K24 : Keep h0 T24.heap [a1] := K19.trans Kc24 all0
  have Z24 : n0 ≤ T24.heap.size := Nat.le_trans Z19 Kc24.1
  refine GoW.tr st24 ?_
  show GoW p.tables e below s _ _ _ (T24.setTop (mkF m 31 #[.val (.ref a1)] [(.ref b24), (.ref a1)]))
  have f25 := (((((F_backoff_a1.other W5 (Or.inr (slot_ne (Or.inl (hw _ (List.mem_of_getElem? (i := 105) rfl))) (Or.inl (hw _ (List.mem_of_getElem? (i := 13) rfl))) (by decide) (t := (.object "com/example/chitragupta/chitragupta/Backoff")) (t' := (.object "com/example/chitragupta/chitragupta/Priority")) (by decide) (by decide)))).other W9 (Or.inr (slot_ne (Or.inl (hw _ (List.mem_of_getElem? (i := 105) rfl))) (Or.inl (hw _ (List.mem_of_getElem? (i := 15) rfl))) (by decide) (t := (.object "com/example/chitragupta/chitragupta/Backoff")) (t' := .int) (by decide) (by decide)))).keep Kc15 nin0).keep Kc19 nin0).keep Kc24 nin0)
  have f26 := ((f18.keep Kc19).keep Kc24)
  obtain ⟨T27, h27, X27, e27, W27, st27⟩ := putF X24 hx hZ24 hown24 (host := "") (Or.inl (hw _ (List.mem_of_getElem? (i := 104) rfl))) Via.refl rfl f25 f26 (Or.inl (hw _ (List.mem_of_getElem? (i := 105) rfl))) (hw _ (List.mem_of_getElem? (i := 1) rfl)) (ty := (.object "com/example/chitragupta/chitragupta/Backoff")) (by decide) rfl rfl (g := (mkF m 31 #[.val (.ref a1)] [(.ref b24), (.ref a1)])) rfl rfl (hb hby d1_31)
  have Fw27 := f25.same W27
  have K27 : Keep h0 h27 [a1] := K24.wr W27 (Or.inl (List.mem_of_getElem? (i := 0) rfl))
  have Z27 : n0 ≤ h27.size := Nat.le_trans Z24 (Keep.of_wr W27).1
  have hk27 := Nat.le_trans (Nat.le_refl _) (Keep.of_wr W27).1
  have N27 := Fr.snoc X27 N24 g_a1
  refine GoW.adv st27 ?_
  show GoW p.tables e below s _ _ _ (T27.setTop (mkF m 34 #[.val (.ref a1)] []))
  refine GoW.ret (v := none) X27 hS24 (by rw [e27]; exact hk27) (fun _ => rfl) Bd.notSynchronized (fun fs hr => X27.returnOut hx Bd.returns (hb hby d1_34) hr) ?_ (by decide) (by decide)
  show Q_rm_joinit Z a1 u_priority u_maxAttempts u_backoff u_runAt pn ld h0 n0 none T27.heap _
  rw [e27]
  have f28 := (f26.wr W27)
  have f29 := (((((Fw5.other W9 (Or.inr (slot_ne (Or.inl (hw _ (List.mem_of_getElem? (i := 13) rfl))) (Or.inl (hw _ (List.mem_of_getElem? (i := 15) rfl))) (by decide) (t := (.object "com/example/chitragupta/chitragupta/Priority")) (t' := .int) (by decide) (by decide)))).keep Kc15 nin0).keep Kc19 nin0).keep Kc24 nin0).other W27 (Or.inr (slot_ne (Or.inl (hw _ (List.mem_of_getElem? (i := 13) rfl))) (Or.inl (hw _ (List.mem_of_getElem? (i := 105) rfl))) (by decide) (t := (.object "com/example/chitragupta/chitragupta/Priority")) (t' := (.object "com/example/chitragupta/chitragupta/Backoff")) (by decide) (by decide))))
  have f30 := ((((Fw9.keep Kc15 nin0).keep Kc19 nin0).keep Kc24 nin0).other W27 (Or.inr (slot_ne (Or.inl (hw _ (List.mem_of_getElem? (i := 15) rfl))) (Or.inl (hw _ (List.mem_of_getElem? (i := 105) rfl))) (by decide) (t := .int) (t' := (.object "com/example/chitragupta/chitragupta/Backoff")) (by decide) (by decide))))
  have f31 := ((((((F_runAt_a1.other W5 (Or.inr (slot_ne (Or.inl (hw _ (List.mem_of_getElem? (i := 145) rfl))) (Or.inl (hw _ (List.mem_of_getElem? (i := 13) rfl))) (by decide) (t := (.object "java/time/Instant")) (t' := (.object "com/example/chitragupta/chitragupta/Priority")) (by decide) (by decide)))).other W9 (Or.inr (slot_ne (Or.inl (hw _ (List.mem_of_getElem? (i := 145) rfl))) (Or.inl (hw _ (List.mem_of_getElem? (i := 15) rfl))) (by decide) (t := (.object "java/time/Instant")) (t' := .int) (by decide) (by decide)))).keep Kc15 nin0).keep Kc19 nin0).keep Kc24 nin0).other W27 (Or.inr (slot_ne (Or.inl (hw _ (List.mem_of_getElem? (i := 145) rfl))) (Or.inl (hw _ (List.mem_of_getElem? (i := 105) rfl))) (by decide) (t := (.object "java/time/Instant")) (t' := (.object "com/example/chitragupta/chitragupta/Backoff")) (by decide) (by decide))))
  exact ⟨b24, rfl, N27, K27, f28, f29, f30, Fw27, f31⟩
theorem pn18 : plainName "com/example/chitragupta/chitragupta/JobOptions" = true := by first | (simp [plainName, overriddenIn]; done) | decide +kernel
theorem d18_0 : decode prog_12_method_11_code 0 = .ok (.aload_n 0, 1) := by decide +kernel
theorem d18_1 : decode prog_12_method_11_code 1 = .ok (.getfield 39, 3) := by decide +kernel
theorem d18_4 : decode prog_12_method_11_code 4 = .ok (.areturn, 1) := by decide +kernel
theorem ef_rm_getB (m : MethodId) (x0 : Addr) : entryFrame m #[(.ref x0)] 1 = mkF m 0 #[.val (.ref x0)] [] := by first | (simp [entryFrame, mkF, argsToLocals, Value.category]; done) | rfl
def Q_rm_getB (Z : State) (a1 : Addr) (r1 : Addr) (h0 : Heap) (n0 : Nat) (v : Option Value) (h : Heap) (L : List Loc) : Prop := v = some (.ref r1) ∧ Fr n0 L ∧ h = h0
set_option maxRecDepth 65536 in
set_option maxHeartbeats 40000000 in
theorem rm_getB (l : Launch) (Z : State) (a0 : Array Value) (hw : ∀ d ∈ tables_1, d.before a0 Z = true) (ws : List Jvm.Cond) (a1 : Addr) (r1 : Addr) (h0 : Heap) (n0 : Nat) (Z0 : n0 ≤ h0.size) (F_backoff_a1 : Fld Z h0 a1 "com/example/chitragupta/chitragupta/JobOptions" "backoff" "Lcom/example/chitragupta/chitragupta/Backoff;" (.ref r1)) :
    MetFree l (⟨"com/example/chitragupta/chitragupta/JobOptions", "backoff", "()Lcom/example/chitragupta/chitragupta/Backoff;"⟩ : MethodName) (head1 (Jvm.Cond.code (⟨"com/example/chitragupta/chitragupta/JobOptions", "backoff", "()Lcom/example/chitragupta/chitragupta/Backoff;"⟩ : MethodName) prog_12_method_11_code 1 (some (.object "com/example/chitragupta/chitragupta/Backoff")) :: ws) ({ frames := 0, cells := 0, slots := 0, locals := 0 } : Room)) (fun a U => a = #[(.ref a1)] ∧ Z.Warmed39 U.vm ∧ U.heap = h0) (fun _ _ _ _ _ => True) (fun _ U o U' => ∃ v L, o = .returned v ∧ Q_rm_getB Z a1 r1 h0 n0 v U'.heap L ∧ FrameEnd U o U' L ({ frames := 0, cells := 0, slots := 0, locals := 0 } : Room).cells ({ frames := 0, cells := 0, slots := 0, locals := 0 } : Room).slots) := by
  refine MetFree.of_bodySF (plainFor_of_name pn18) hisR ?_
  intro p e s m args below meth c s₁ Bd hml0 hP hK
  obtain ⟨rfl, hZ, hh⟩ := hP
  have hx := Bd.exec
  have hby := Bd.bytes
  have hml : c.maxLocals = 1 := hml0
  have hown : s.vm.findClass "com/example/chitragupta/chitragupta/JobOptions" = some m.cls := findClass_of_methodNamed Bd.named
  have hnm := (name_of_methodNamed Bd.named Bd.method).1
  have X0 : Stand p l e ({ frames := 0, cells := 0, slots := 0, locals := 0 } : Room) s m #[(.ref a1)] below meth c s₁ [] 0 0 := Stand.of_body Bd
  have e0 : s₁.heap = h0 := by rw [← hh, Bd.state]; rfl
  have N0 := Fr.nil n0
  refine Go.start (Q := Q_rm_getB Z a1 r1 h0 n0) (ef_rm_getB m a1) ?_
  have sg1 : ∀ t, Steps p.tables e below (s₁.setTop (mkF m 1 #[.val (.ref a1)] [(.ref a1)])) t → Steps p.tables e below (s₁.setTop (mkF m 0 #[.val (.ref a1)] [])) t := by
    intro t kt
    show Steps p.tables e below (s₁.setTop (mkF m 0 #[.val (.ref a1)] [])) _
    refine XS.aloadN X0.here hx rfl (hb hby d18_0) rfl rfl ?_
    exact kt
  refine Go.adv sg1 ?_
  obtain ⟨T2, X2, e2, st2⟩ := getF X0 hx hZ hown (host := "") (Or.inl (hw _ (List.mem_of_getElem? (i := 104) rfl))) Via.refl e0 F_backoff_a1 (g := (mkF m 1 #[.val (.ref a1)] [(.ref a1)])) rfl rfl (hb hby d18_1)
  refine Go.adv st2 ?_
  show Go p.tables e below s _ _ _ (T2.setTop (mkF m 4 #[.val (.ref a1)] [(.ref r1)]))
  refine Go.ret (v := (some (.ref r1))) X2 (fun h => by rw [Bd.returns] at h; cases h) Bd.notSynchronized (fun fs hr => retOut X2 hx Bd.returns rfl (Or.inr (Or.inr (Or.inr (Or.inr ⟨rfl, rfl, rfl⟩)))) (hb hby d18_4) hr) ?_ (by decide) (by decide)
  show Q_rm_getB Z a1 r1 h0 n0 (some (.ref r1)) T2.heap _
  rw [e2]
  exact ⟨rfl, N0, rfl⟩
theorem pn22 : plainName "com/example/chitragupta/chitragupta/JobOptions" = true := by first | (simp [plainName, overriddenIn]; done) | decide +kernel
theorem d22_0 : decode prog_12_method_10_code 0 = .ok (.aload_n 0, 1) := by decide +kernel
theorem d22_1 : decode prog_12_method_10_code 1 = .ok (.getfield 18, 3) := by decide +kernel
theorem d22_4 : decode prog_12_method_10_code 4 = .ok (.ireturn, 1) := by decide +kernel
theorem ef_rm_getM (m : MethodId) (x0 : Addr) : entryFrame m #[(.ref x0)] 1 = mkF m 0 #[.val (.ref x0)] [] := by first | (simp [entryFrame, mkF, argsToLocals, Value.category]; done) | rfl
def Q_rm_getM (Z : State) (a1 : Addr) (v1 : Int32) (h0 : Heap) (n0 : Nat) (v : Option Value) (h : Heap) (L : List Loc) : Prop := v = some (.int v1) ∧ Fr n0 L ∧ h = h0
set_option maxRecDepth 65536 in
set_option maxHeartbeats 40000000 in
theorem rm_getM (l : Launch) (Z : State) (a0 : Array Value) (hw : ∀ d ∈ tables_1, d.before a0 Z = true) (ws : List Jvm.Cond) (a1 : Addr) (v1 : Int32) (h0 : Heap) (n0 : Nat) (Z0 : n0 ≤ h0.size) (F_maxAttempts_a1 : Fld Z h0 a1 "com/example/chitragupta/chitragupta/JobOptions" "maxAttempts" "I" (.int v1)) :
    MetFree l (⟨"com/example/chitragupta/chitragupta/JobOptions", "maxAttempts", "()I"⟩ : MethodName) (head1 (Jvm.Cond.code (⟨"com/example/chitragupta/chitragupta/JobOptions", "maxAttempts", "()I"⟩ : MethodName) prog_12_method_10_code 1 (some .int) :: ws) ({ frames := 0, cells := 0, slots := 0, locals := 0 } : Room)) (fun a U => a = #[(.ref a1)] ∧ Z.Warmed39 U.vm ∧ U.heap = h0) (fun _ _ _ _ _ => True) (fun _ U o U' => ∃ v L, o = .returned v ∧ Q_rm_getM Z a1 v1 h0 n0 v U'.heap L ∧ FrameEnd U o U' L ({ frames := 0, cells := 0, slots := 0, locals := 0 } : Room).cells ({ frames := 0, cells := 0, slots := 0, locals := 0 } : Room).slots) := by
  refine MetFree.of_bodySF (plainFor_of_name pn22) hisR ?_
  intro p e s m args below meth c s₁ Bd hml0 hP hK
  obtain ⟨rfl, hZ, hh⟩ := hP
  have hx := Bd.exec
  have hby := Bd.bytes
  have hml : c.maxLocals = 1 := hml0
  have hown : s.vm.findClass "com/example/chitragupta/chitragupta/JobOptions" = some m.cls := findClass_of_methodNamed Bd.named
  have hnm := (name_of_methodNamed Bd.named Bd.method).1
  have X0 : Stand p l e ({ frames := 0, cells := 0, slots := 0, locals := 0 } : Room) s m #[(.ref a1)] below meth c s₁ [] 0 0 := Stand.of_body Bd
  have e0 : s₁.heap = h0 := by rw [← hh, Bd.state]; rfl
  have N0 := Fr.nil n0
  refine Go.start (Q := Q_rm_getM Z a1 v1 h0 n0) (ef_rm_getM m a1) ?_
  have sg1 : ∀ t, Steps p.tables e below (s₁.setTop (mkF m 1 #[.val (.ref a1)] [(.ref a1)])) t → Steps p.tables e below (s₁.setTop (mkF m 0 #[.val (.ref a1)] [])) t := by
    intro t kt
    show Steps p.tables e below (s₁.setTop (mkF m 0 #[.val (.ref a1)] [])) _
    refine XS.aloadN X0.here hx rfl (hb hby d22_0) rfl rfl ?_
    exact kt
  refine Go.adv sg1 ?_
  obtain ⟨T2, X2, e2, st2⟩ := getF X0 hx hZ hown (host := "") (Or.inl (hw _ (List.mem_of_getElem? (i := 14) rfl))) Via.refl e0 F_maxAttempts_a1 (g := (mkF m 1 #[.val (.ref a1)] [(.ref a1)])) rfl rfl (hb hby d22_1)
  refine Go.adv st2 ?_
  show Go p.tables e below s _ _ _ (T2.setTop (mkF m 4 #[.val (.ref a1)] [(.int v1)]))
  refine Go.ret (v := (some (.int v1))) X2 (fun h => by rw [Bd.returns] at h; cases h) Bd.notSynchronized (fun fs hr => retOut X2 hx Bd.returns rfl (Or.inl ⟨rfl, Or.inl rfl, _, rfl⟩) (hb hby d22_4) hr) ?_ (by decide) (by decide)
  show Q_rm_getM Z a1 v1 h0 n0 (some (.int v1)) T2.heap _
  rw [e2]
  exact ⟨rfl, N0, rfl⟩
theorem pn21 : plainName "com/example/chitragupta/chitragupta/JobOptions" = true := by first | (simp [plainName, overriddenIn]; done) | decide +kernel
theorem d21_0 : decode prog_12_method_9_code 0 = .ok (.aload_n 0, 1) := by decide +kernel
theorem d21_1 : decode prog_12_method_9_code 1 = .ok (.getfield 13, 3) := by decide +kernel
theorem d21_4 : decode prog_12_method_9_code 4 = .ok (.areturn, 1) := by decide +kernel
theorem ef_rm_getP (m : MethodId) (x0 : Addr) : entryFrame m #[(.ref x0)] 1 = mkF m 0 #[.val (.ref x0)] [] := by first | (simp [entryFrame, mkF, argsToLocals, Value.category]; done) | rfl
def Q_rm_getP (Z : State) (a1 : Addr) (r1 : Addr) (h0 : Heap) (n0 : Nat) (v : Option Value) (h : Heap) (L : List Loc) : Prop := v = some (.ref r1) ∧ Fr n0 L ∧ h = h0
set_option maxRecDepth 65536 in
set_option maxHeartbeats 40000000 in
theorem rm_getP (l : Launch) (Z : State) (a0 : Array Value) (hw : ∀ d ∈ tables_1, d.before a0 Z = true) (ws : List Jvm.Cond) (a1 : Addr) (r1 : Addr) (h0 : Heap) (n0 : Nat) (Z0 : n0 ≤ h0.size) (F_priority_a1 : Fld Z h0 a1 "com/example/chitragupta/chitragupta/JobOptions" "priority" "Lcom/example/chitragupta/chitragupta/Priority;" (.ref r1)) :
    MetFree l (⟨"com/example/chitragupta/chitragupta/JobOptions", "priority", "()Lcom/example/chitragupta/chitragupta/Priority;"⟩ : MethodName) (head1 (Jvm.Cond.code (⟨"com/example/chitragupta/chitragupta/JobOptions", "priority", "()Lcom/example/chitragupta/chitragupta/Priority;"⟩ : MethodName) prog_12_method_9_code 1 (some (.object "com/example/chitragupta/chitragupta/Priority")) :: ws) ({ frames := 0, cells := 0, slots := 0, locals := 0 } : Room)) (fun a U => a = #[(.ref a1)] ∧ Z.Warmed39 U.vm ∧ U.heap = h0) (fun _ _ _ _ _ => True) (fun _ U o U' => ∃ v L, o = .returned v ∧ Q_rm_getP Z a1 r1 h0 n0 v U'.heap L ∧ FrameEnd U o U' L ({ frames := 0, cells := 0, slots := 0, locals := 0 } : Room).cells ({ frames := 0, cells := 0, slots := 0, locals := 0 } : Room).slots) := by
  refine MetFree.of_bodySF (plainFor_of_name pn21) hisR ?_
  intro p e s m args below meth c s₁ Bd hml0 hP hK
  obtain ⟨rfl, hZ, hh⟩ := hP
  have hx := Bd.exec
  have hby := Bd.bytes
  have hml : c.maxLocals = 1 := hml0
  have hown : s.vm.findClass "com/example/chitragupta/chitragupta/JobOptions" = some m.cls := findClass_of_methodNamed Bd.named
  have hnm := (name_of_methodNamed Bd.named Bd.method).1
  have X0 : Stand p l e ({ frames := 0, cells := 0, slots := 0, locals := 0 } : Room) s m #[(.ref a1)] below meth c s₁ [] 0 0 := Stand.of_body Bd
  have e0 : s₁.heap = h0 := by rw [← hh, Bd.state]; rfl
  have N0 := Fr.nil n0
  refine Go.start (Q := Q_rm_getP Z a1 r1 h0 n0) (ef_rm_getP m a1) ?_
  have sg1 : ∀ t, Steps p.tables e below (s₁.setTop (mkF m 1 #[.val (.ref a1)] [(.ref a1)])) t → Steps p.tables e below (s₁.setTop (mkF m 0 #[.val (.ref a1)] [])) t := by
    intro t kt
    show Steps p.tables e below (s₁.setTop (mkF m 0 #[.val (.ref a1)] [])) _
    refine XS.aloadN X0.here hx rfl (hb hby d21_0) rfl rfl ?_
    exact kt
  refine Go.adv sg1 ?_
  obtain ⟨T2, X2, e2, st2⟩ := getF X0 hx hZ hown (host := "") (Or.inl (hw _ (List.mem_of_getElem? (i := 12) rfl))) Via.refl e0 F_priority_a1 (g := (mkF m 1 #[.val (.ref a1)] [(.ref a1)])) rfl rfl (hb hby d21_1)
  refine Go.adv st2 ?_
  show Go p.tables e below s _ _ _ (T2.setTop (mkF m 4 #[.val (.ref a1)] [(.ref r1)]))
  refine Go.ret (v := (some (.ref r1))) X2 (fun h => by rw [Bd.returns] at h; cases h) Bd.notSynchronized (fun fs hr => retOut X2 hx Bd.returns rfl (Or.inr (Or.inr (Or.inr (Or.inr ⟨rfl, rfl, rfl⟩)))) (hb hby d21_4) hr) ?_ (by decide) (by decide)
  show Q_rm_getP Z a1 r1 h0 n0 (some (.ref r1)) T2.heap _
  rw [e2]
  exact ⟨rfl, N0, rfl⟩
theorem pn23 : plainName "com/example/chitragupta/chitragupta/JobOptions" = true := by first | (simp [plainName, overriddenIn]; done) | decide +kernel
theorem d23_0 : decode prog_12_method_8_code 0 = .ok (.aload_n 0, 1) := by decide +kernel
theorem d23_1 : decode prog_12_method_8_code 1 = .ok (.getfield 51, 3) := by decide +kernel
theorem d23_4 : decode prog_12_method_8_code 4 = .ok (.areturn, 1) := by decide +kernel
theorem ef_rm_getR (m : MethodId) (x0 : Addr) : entryFrame m #[(.ref x0)] 1 = mkF m 0 #[.val (.ref x0)] [] := by first | (simp [entryFrame, mkF, argsToLocals, Value.category]; done) | rfl
def Q_rm_getR (Z : State) (a1 : Addr) (h0 : Heap) (n0 : Nat) (v : Option Value) (h : Heap) (L : List Loc) : Prop := v = some .null ∧ Fr n0 L ∧ h = h0
set_option maxRecDepth 65536 in
set_option maxHeartbeats 40000000 in
theorem rm_getR (l : Launch) (Z : State) (a0 : Array Value) (hw : ∀ d ∈ tables_1, d.before a0 Z = true) (ws : List Jvm.Cond) (a1 : Addr) (h0 : Heap) (n0 : Nat) (Z0 : n0 ≤ h0.size) (F_runAt_a1 : Fld Z h0 a1 "com/example/chitragupta/chitragupta/JobOptions" "runAt" "Ljava/time/Instant;" .null) :
    MetFree l (⟨"com/example/chitragupta/chitragupta/JobOptions", "runAt", "()Ljava/time/Instant;"⟩ : MethodName) (head1 (Jvm.Cond.code (⟨"com/example/chitragupta/chitragupta/JobOptions", "runAt", "()Ljava/time/Instant;"⟩ : MethodName) prog_12_method_8_code 1 (some (.object "java/time/Instant")) :: ws) ({ frames := 0, cells := 0, slots := 0, locals := 0 } : Room)) (fun a U => a = #[(.ref a1)] ∧ Z.Warmed39 U.vm ∧ U.heap = h0) (fun _ _ _ _ _ => True) (fun _ U o U' => ∃ v L, o = .returned v ∧ Q_rm_getR Z a1 h0 n0 v U'.heap L ∧ FrameEnd U o U' L ({ frames := 0, cells := 0, slots := 0, locals := 0 } : Room).cells ({ frames := 0, cells := 0, slots := 0, locals := 0 } : Room).slots) := by
  refine MetFree.of_bodySF (plainFor_of_name pn23) hisR ?_
  intro p e s m args below meth c s₁ Bd hml0 hP hK
  obtain ⟨rfl, hZ, hh⟩ := hP
  have hx := Bd.exec
  have hby := Bd.bytes
  have hml : c.maxLocals = 1 := hml0
  have hown : s.vm.findClass "com/example/chitragupta/chitragupta/JobOptions" = some m.cls := findClass_of_methodNamed Bd.named
  have hnm := (name_of_methodNamed Bd.named Bd.method).1
  have X0 : Stand p l e ({ frames := 0, cells := 0, slots := 0, locals := 0 } : Room) s m #[(.ref a1)] below meth c s₁ [] 0 0 := Stand.of_body Bd
  have e0 : s₁.heap = h0 := by rw [← hh, Bd.state]; rfl
  have N0 := Fr.nil n0
  refine Go.start (Q := Q_rm_getR Z a1 h0 n0) (ef_rm_getR m a1) ?_
  have sg1 : ∀ t, Steps p.tables e below (s₁.setTop (mkF m 1 #[.val (.ref a1)] [(.ref a1)])) t → Steps p.tables e below (s₁.setTop (mkF m 0 #[.val (.ref a1)] [])) t := by
    intro t kt
    show Steps p.tables e below (s₁.setTop (mkF m 0 #[.val (.ref a1)] [])) _
    refine XS.aloadN X0.here hx rfl (hb hby d23_0) rfl rfl ?_
    exact kt
  refine Go.adv sg1 ?_
  obtain ⟨T2, X2, e2, st2⟩ := getF X0 hx hZ hown (host := "") (Or.inl (hw _ (List.mem_of_getElem? (i := 144) rfl))) Via.refl e0 F_runAt_a1 (g := (mkF m 1 #[.val (.ref a1)] [(.ref a1)])) rfl rfl (hb hby d23_1)
  refine Go.adv st2 ?_
  show Go p.tables e below s _ _ _ (T2.setTop (mkF m 4 #[.val (.ref a1)] [.null]))
  refine Go.ret (v := (some .null)) X2 (fun h => by rw [Bd.returns] at h; cases h) Bd.notSynchronized (fun fs hr => retOut X2 hx Bd.returns rfl (Or.inr (Or.inr (Or.inr (Or.inr ⟨rfl, rfl, rfl⟩)))) (hb hby d23_4) hr) ?_ (by decide) (by decide)
  show Q_rm_getR Z a1 h0 n0 (some .null) T2.heap _
  rw [e2]
  exact ⟨rfl, N0, rfl⟩
theorem pn20 : plainName "com/example/chitragupta/chitragupta/JobOptions" = true := by first | (simp [plainName, overriddenIn]; done) | decide +kernel
theorem d20_0 : decode prog_12_method_3_code 0 = .ok (.aload_n 0, 1) := by decide +kernel
theorem d20_1 : decode prog_12_method_3_code 1 = .ok (.aload_n 1, 1) := by decide +kernel
theorem d20_2 : decode prog_12_method_3_code 2 = .ok (.ldc 55, 2) := by decide +kernel
theorem d20_4 : decode prog_12_method_3_code 4 = .ok (.invokestatic 56, 3) := by decide +kernel
theorem d20_7 : decode prog_12_method_3_code 7 = .ok (.checkcast 8, 3) := by decide +kernel
theorem d20_10 : decode prog_12_method_3_code 10 = .ok (.putfield 13, 3) := by decide +kernel
theorem d20_13 : decode prog_12_method_3_code 13 = .ok (.aload_n 0, 1) := by decide +kernel
theorem d20_14 : decode prog_12_method_3_code 14 = .ok (.areturn, 1) := by decide +kernel
theorem ef_rm_setP (m : MethodId) (x0 : Addr) (x1 : Addr) : entryFrame m #[(.ref x0), (.ref x1)] 2 = mkF m 0 #[.val (.ref x0), .val (.ref x1)] [] := by first | (simp [entryFrame, mkF, argsToLocals, Value.category]; done) | rfl
def Q_rm_setP (Z : State) (a1 : Addr) (a2 : Addr) (u_priority : Value) (u_maxAttempts : Value) (u_backoff : Value) (u_runAt : Value) (h0 : Heap) (n0 : Nat) (v : Option Value) (h : Heap) (L : List Loc) : Prop := v = some (.ref a1) ∧ Fr n0 L ∧ Keep h0 h [a1] ∧ Exa Z h a1 "com/example/chitragupta/chitragupta/JobOptions" ∧ Fld Z h a1 "com/example/chitragupta/chitragupta/JobOptions" "priority" "Lcom/example/chitragupta/chitragupta/Priority;" (.ref a2) ∧ Fld Z h a1 "com/example/chitragupta/chitragupta/JobOptions" "maxAttempts" "I" u_maxAttempts ∧ Fld Z h a1 "com/example/chitragupta/chitragupta/JobOptions" "backoff" "Lcom/example/chitragupta/chitragupta/Backoff;" u_backoff ∧ Fld Z h a1 "com/example/chitragupta/chitragupta/JobOptions" "runAt" "Ljava/time/Instant;" u_runAt
set_option maxRecDepth 65536 in
set_option maxHeartbeats 40000000 in
theorem rm_setP (l : Launch) (Z : State) (a0 : Array Value) (hw : ∀ d ∈ tables_1, d.before a0 Z = true) (ws : List Jvm.Cond) (a1 : Addr) (a2 : Addr) (u_priority : Value) (u_maxAttempts : Value) (u_backoff : Value) (u_runAt : Value) (h0 : Heap) (n0 : Nat) (Z0 : n0 ≤ h0.size) (E_a1 : Exa Z h0 a1 "com/example/chitragupta/chitragupta/JobOptions") (g_a1 : n0 ≤ a1) (E_a2 : Exa Z h0 a2 "com/example/chitragupta/chitragupta/Priority") (F_priority_a1 : Fld Z h0 a1 "com/example/chitragupta/chitragupta/JobOptions" "priority" "Lcom/example/chitragupta/chitragupta/Priority;" u_priority) (F_maxAttempts_a1 : Fld Z h0 a1 "com/example/chitragupta/chitragupta/JobOptions" "maxAttempts" "I" u_maxAttempts) (F_backoff_a1 : Fld Z h0 a1 "com/example/chitragupta/chitragupta/JobOptions" "backoff" "Lcom/example/chitragupta/chitragupta/Backoff;" u_backoff) (F_runAt_a1 : Fld Z h0 a1 "com/example/chitragupta/chitragupta/JobOptions" "runAt" "Ljava/time/Instant;" u_runAt) :
    MetFree l (⟨"com/example/chitragupta/chitragupta/JobOptions", "priority", "(Lcom/example/chitragupta/chitragupta/Priority;)Lcom/example/chitragupta/chitragupta/JobOptions;"⟩ : MethodName) (head1 (Jvm.Cond.code (⟨"com/example/chitragupta/chitragupta/JobOptions", "priority", "(Lcom/example/chitragupta/chitragupta/Priority;)Lcom/example/chitragupta/chitragupta/JobOptions;"⟩ : MethodName) prog_12_method_3_code 2 (some (.object "com/example/chitragupta/chitragupta/JobOptions")) :: ws) ({ frames := 1, cells := 2, slots := 36, locals := 14 } : Room)) (fun a U => a = #[(.ref a1), (.ref a2)] ∧ Z.Warmed39 U.vm ∧ U.heap = h0) (fun _ _ _ _ _ => True) (fun _ U o U' => ∃ v L, o = .returned v ∧ Q_rm_setP Z a1 a2 u_priority u_maxAttempts u_backoff u_runAt h0 n0 v U'.heap L ∧ ReturnedEndW U o U' L ({ frames := 1, cells := 2, slots := 36, locals := 14 } : Room).cells ({ frames := 1, cells := 2, slots := 36, locals := 14 } : Room).slots) := by
  refine MetFree.of_bodySF (plainFor_of_name pn20) hisR ?_
  intro p e s m args below meth c s₁ Bd hml0 hP hK
  obtain ⟨rfl, hZ, hh⟩ := hP
  have hx := Bd.exec
  have hby := Bd.bytes
  have hml : c.maxLocals = 2 := hml0
  have hown : s.vm.findClass "com/example/chitragupta/chitragupta/JobOptions" = some m.cls := findClass_of_methodNamed Bd.named
  have hnm := (name_of_methodNamed Bd.named Bd.method).1
  have X0 : Stand p l e ({ frames := 1, cells := 2, slots := 36, locals := 14 } : Room) (s.setVm s.vm) m #[(.ref a1), (.ref a2)] below meth c s₁ [] 0 0 := Stand.of_body Bd
  have e0 : s₁.heap = h0 := by rw [← hh, Bd.state]; rfl
  have N0 := Fr.nil n0
  have hS0 : s.Since s.vm 0 := (State.WarmedH.refl s).since 0
  have hk0 : 0 ≤ h0.size := Nat.zero_le _
  refine GoW.start (Q := Q_rm_setP Z a1 a2 u_priority u_maxAttempts u_backoff u_runAt h0 n0) (ef_rm_setP m a1 a2) ?_
  have sg1 : ∀ t, Steps p.tables e below (s₁.setTop (mkF m 2 #[.val (.ref a1), .val (.ref a2)] [(.ref a2), (.ref a1)])) t → Steps p.tables e below (s₁.setTop (mkF m 0 #[.val (.ref a1), .val (.ref a2)] [])) t := by
    intro t kt
    show Steps p.tables e below (s₁.setTop (mkF m 0 #[.val (.ref a1), .val (.ref a2)] [])) _
    refine XS.aloadN X0.here hx rfl (hb hby d20_0) rfl rfl ?_
    show Steps p.tables e below (s₁.setTop (mkF m 1 #[.val (.ref a1), .val (.ref a2)] [(.ref a1)])) _
    refine XS.aloadN X0.here hx rfl (hb hby d20_1) rfl rfl ?_
    exact kt
  refine GoW.adv sg1 ?_
  obtain ⟨b2, T2, h2, k2, X2, e2, E2, hS2, hk2, hZ2, hown2, st2⟩ := ldcS X0 hx hZ hown (hw _ (List.mem_of_getElem? (i := 125) rfl)) (own_wS hw) e0 hS0 hk0 (g := (mkF m 2 #[.val (.ref a1), .val (.ref a2)] [(.ref a2), (.ref a1)])) rfl (hb hby d20_2) (n := 32) (by decide) (by decide) (by decide) (by decide)
  have K2 : Keep h0 h2 [a1] := (Keep.refl h0 [a1]).ext E2
  have Z2 : n0 ≤ h2.size := Nat.le_trans Z0 E2.1
  refine GoW.adv st2 ?_
  show GoW p.tables e below s _ _ _ (T2.setTop (mkF m 4 #[.val (.ref a1), .val (.ref a2)] [(.ref b2), (.ref a2), (.ref a1)]))
  obtain ⟨_, _, ⟨T3, L3, k3, n3⟩, -, X3, ⟨Lc3, hQ3, l3, y3, z3⟩, st3⟩ := Jvm.LawKit.callS X2 hx (y := (⟨"java/util/Objects", "requireNonNull", "(Ljava/lang/Object;Ljava/lang/String;)Ljava/lang/Object;"⟩ : MethodName)) hown2 (mvT hZ2 (hw _ (List.mem_of_getElem? (i := 126) rfl))) (mvT hZ2 (hw _ (List.mem_of_getElem? (i := 65) rfl))) (mvT hZ2 (hw _ (List.mem_of_getElem? (i := 66) rfl))) (mvT hZ2 (hw _ (List.mem_of_getElem? (i := 67) rfl))) (by decide) (backOf (W := 1) (rm_nonnull l Z a0 hw [] a2 b2  h2 n0 Z2 ) hZ2 (hw _ (List.mem_of_getElem? (i := 67) rfl)) (hw _ (List.mem_of_getElem? (i := 66) rfl)) (by decide) (by decide)) (g := (mkF m 4 #[.val (.ref a1), .val (.ref a2)] [(.ref b2), (.ref a2), (.ref a1)])) rfl (by rw [hml]; rfl) (argsL := [(.ref a2), (.ref b2)]) (rest := [(.ref a1)]) (lenOf pd_oLjavaslangsObjecteLjavaslangsStringecLjavaslangsObjecte rfl) rfl (by show 2 * 0 + _ ≤ _; exact Nat.le_of_eq rfl) (hb hby d20_4) (fun _ _ => ⟨rfl, e2, (by decide : 2 + 0 ≤ _), (by decide : 36 + 0 ≤ _)⟩)
  dsimp only [Pt.U, Pt.locs, Pt.cells, Pt.slots] at X3 l3 y3 z3 st3 hQ3
  subst l3 y3 z3
  obtain ⟨rfl, N3q, e3⟩ := hQ3
  have N3 := Fr.app N0 N3q
  refine GoW.adv st3 ?_
  show GoW p.tables e below s _ _ _ (T3.setTop (mkF m 7 #[.val (.ref a1), .val (.ref a2)] [(.ref a2), (.ref a1)]))
  have f4 := (E_a2.ext E2)
  obtain ⟨T5, X5, e5, st5⟩ := castY X3 hx hZ2 hown2 (hw _ (List.mem_of_getElem? (i := 127) rfl)) e3 (Ins.self f4) (g := (mkF m 7 #[.val (.ref a1), .val (.ref a2)] [(.ref a2), (.ref a1)])) rfl rfl (hb hby d20_7)
  refine GoW.adv st5 ?_
  show GoW p.tables e below s _ _ _ (T5.setTop (mkF m 10 #[.val (.ref a1), .val (.ref a2)] [(.ref a2), (.ref a1)]))
  have f6 := (F_priority_a1.ext E2)
  have f7 := (E_a1.ext E2)
  obtain ⟨T8, h8, X8, e8, W8, st8⟩ := putF X5 hx hZ2 hown2 (host := "") (Or.inl (hw _ (List.mem_of_getElem? (i := 12) rfl))) Via.refl e5 f6 f7 (Or.inl (hw _ (List.mem_of_getElem? (i := 13) rfl))) (hw _ (List.mem_of_getElem? (i := 1) rfl)) (ty := (.object "com/example/chitragupta/chitragupta/Priority")) (by decide) rfl rfl (g := (mkF m 10 #[.val (.ref a1), .val (.ref a2)] [(.ref a2), (.ref a1)])) rfl rfl (hb hby d20_10)
  have Fw8 := f6.same W8
  have K8 : Keep h0 h8 [a1] := K2.wr W8 (Or.inl (List.mem_of_getElem? (i := 0) rfl))
  have Z8 : n0 ≤ h8.size := Nat.le_trans Z2 (Keep.of_wr W8).1
  have hk8 := Nat.le_trans hk2 (Keep.of_wr W8).1
  have N8 := Fr.snoc X8 N3 g_a1
  refine GoW.adv st8 ?_
  show GoW p.tables e below s _ _ _ (T8.setTop (mkF m 13 #[.val (.ref a1), .val (.ref a2)] []))
  have sg9 : ∀ t, Steps p.tables e below (T8.setTop (mkF m 14 #[.val (.ref a1), .val (.ref a2)] [(.ref a1)])) t → Steps p.tables e below (T8.setTop (mkF m 13 #[.val (.ref a1), .val (.ref a2)] [])) t := by
    intro t kt
    show Steps p.tables e below (T8.setTop (mkF m 13 #[.val (.ref a1), .val (.ref a2)] [])) _
    refine XS.aloadN X8.here hx rfl (hb hby d20_13) rfl rfl ?_
    exact kt
  refine GoW.adv sg9 ?_
  refine GoW.ret (v := (some (.ref a1))) X8 hS2 (by rw [e8]; exact hk8) (fun h => by rw [Bd.returns] at h; cases h) Bd.notSynchronized (fun fs hr => retOut X8 hx Bd.returns rfl (Or.inr (Or.inr (Or.inr (Or.inr ⟨rfl, rfl, rfl⟩)))) (hb hby d20_14) hr) ?_ (by decide) (by decide)
  show Q_rm_setP Z a1 a2 u_priority u_maxAttempts u_backoff u_runAt h0 n0 (some (.ref a1)) T8.heap _
  rw [e8]
  have f10 := (f7.wr W8)
  have f11 := ((F_maxAttempts_a1.ext E2).other W8 (Or.inr (slot_ne (Or.inl (hw _ (List.mem_of_getElem? (i := 15) rfl))) (Or.inl (hw _ (List.mem_of_getElem? (i := 13) rfl))) (by decide) (t := .int) (t' := (.object "com/example/chitragupta/chitragupta/Priority")) (by decide) (by decide))))
  have f12 := ((F_backoff_a1.ext E2).other W8 (Or.inr (slot_ne (Or.inl (hw _ (List.mem_of_getElem? (i := 105) rfl))) (Or.inl (hw _ (List.mem_of_getElem? (i := 13) rfl))) (by decide) (t := (.object "com/example/chitragupta/chitragupta/Backoff")) (t' := (.object "com/example/chitragupta/chitragupta/Priority")) (by decide) (by decide))))
  have f13 := ((F_runAt_a1.ext E2).other W8 (Or.inr (slot_ne (Or.inl (hw _ (List.mem_of_getElem? (i := 145) rfl))) (Or.inl (hw _ (List.mem_of_getElem? (i := 13) rfl))) (by decide) (t := (.object "java/time/Instant")) (t' := (.object "com/example/chitragupta/chitragupta/Priority")) (by decide) (by decide))))
  exact ⟨rfl, N8, K8, f10, Fw8, f11, f12, f13⟩

def own_pick (x : Int32) (lo lw no hi cr : Addr) : Addr := if ((x &&& (2147483647 : Int32)) % (5 : Int32)) = (0 : Int32) then lo else if ((x &&& (2147483647 : Int32)) % (5 : Int32)) = (1 : Int32) then lw else if ((x &&& (2147483647 : Int32)) % (5 : Int32)) = (2 : Int32) then no else if ((x &&& (2147483647 : Int32)) % (5 : Int32)) = (3 : Int32) then hi else cr
theorem own_pick_all {Q : Addr → Prop} (x : Int32) {lo lw no hi cr : Addr} (h1 : Q lo) (h2 : Q lw) (h3 : Q no) (h4 : Q hi) (h5 : Q cr) : Q (own_pick x lo lw no hi cr) := by
  unfold own_pick
  split
  · exact h1
  · split
    · exact h2
    · split
      · exact h3
      · split
        · exact h4
        · exact h5
theorem pn19 : plainName "com/example/chitragupta/chitragupta/JobOptionsPriorityPinLaw" = true := by first | (simp [plainName, overriddenIn]; done) | decide +kernel
theorem d19_0 : decode method_2_code 0 = .ok (.iload_n 0, 1) := by decide +kernel
theorem d19_1 : decode method_2_code 1 = .ok (.ldc 7, 2) := by decide +kernel
theorem d19_3 : decode method_2_code 3 = .ok (.iand, 1) := by decide +kernel
theorem d19_4 : decode method_2_code 4 = .ok (.iconst 5, 1) := by decide +kernel
theorem d19_5 : decode method_2_code 5 = .ok (.irem, 1) := by decide +kernel
theorem d19_6 : decode method_2_code 6 = .ok (.istore_n 1, 1) := by decide +kernel
theorem d19_7 : decode method_2_code 7 = .ok (.iload_n 1, 1) := by decide +kernel
theorem d19_8 : decode method_2_code 8 = .ok (.ifCond .ne 7, 3) := by decide +kernel
theorem d19_11 : decode method_2_code 11 = .ok (.getstatic 8, 3) := by decide +kernel
theorem d19_14 : decode method_2_code 14 = .ok (.areturn, 1) := by decide +kernel
theorem d19_15 : decode method_2_code 15 = .ok (.iload_n 1, 1) := by decide +kernel
theorem d19_16 : decode method_2_code 16 = .ok (.iconst 1, 1) := by decide +kernel
theorem d19_17 : decode method_2_code 17 = .ok (.if_icmp .ne 7, 3) := by decide +kernel
theorem d19_20 : decode method_2_code 20 = .ok (.getstatic 14, 3) := by decide +kernel
theorem d19_23 : decode method_2_code 23 = .ok (.areturn, 1) := by decide +kernel
theorem d19_24 : decode method_2_code 24 = .ok (.iload_n 1, 1) := by decide +kernel
theorem d19_25 : decode method_2_code 25 = .ok (.iconst 2, 1) := by decide +kernel
theorem d19_26 : decode method_2_code 26 = .ok (.if_icmp .ne 7, 3) := by decide +kernel
theorem d19_29 : decode method_2_code 29 = .ok (.getstatic 17, 3) := by decide +kernel
theorem d19_32 : decode method_2_code 32 = .ok (.areturn, 1) := by decide +kernel
theorem d19_33 : decode method_2_code 33 = .ok (.iload_n 1, 1) := by decide +kernel
theorem d19_34 : decode method_2_code 34 = .ok (.iconst 3, 1) := by decide +kernel
theorem d19_35 : decode method_2_code 35 = .ok (.if_icmp .ne 7, 3) := by decide +kernel
theorem d19_38 : decode method_2_code 38 = .ok (.getstatic 20, 3) := by decide +kernel
theorem d19_41 : decode method_2_code 41 = .ok (.areturn, 1) := by decide +kernel
theorem d19_42 : decode method_2_code 42 = .ok (.getstatic 23, 3) := by decide +kernel
theorem d19_45 : decode method_2_code 45 = .ok (.areturn, 1) := by decide +kernel
theorem ef_rm_pick (m : MethodId) (x0 : Int32) : entryFrame m #[(.int x0)] 2 = mkF m 0 #[.val (.int x0), .unset] [] := by first | (simp [entryFrame, mkF, argsToLocals, Value.category]; done) | rfl
def Q_rm_pick (Z : State) (p1 : Int32) (lo : Addr) (lw : Addr) (no : Addr) (hi : Addr) (cr : Addr) (h0 : Heap) (n0 : Nat) (v : Option Value) (h : Heap) (L : List Loc) : Prop := v = some (.ref (own_pick p1 lo lw no hi cr)) ∧ Fr n0 L ∧ h = h0
set_option maxRecDepth 65536 in
set_option maxHeartbeats 40000000 in
theorem rm_pick (l : Launch) (Z : State) (a0 : Array Value) (hw : ∀ d ∈ tables_1, d.before a0 Z = true) (ws : List Jvm.Cond) (p1 : Int32) (lo : Addr) (lw : Addr) (no : Addr) (hi : Addr) (cr : Addr) (h0 : Heap) (n0 : Nat) (Z0 : n0 ≤ h0.size) (S_LOWEST : Sta Z h0 "com/example/chitragupta/chitragupta/Priority" "LOWEST" "Lcom/example/chitragupta/chitragupta/Priority;" (.ref lo)) (S_LOW : Sta Z h0 "com/example/chitragupta/chitragupta/Priority" "LOW" "Lcom/example/chitragupta/chitragupta/Priority;" (.ref lw)) (S_NORMAL : Sta Z h0 "com/example/chitragupta/chitragupta/Priority" "NORMAL" "Lcom/example/chitragupta/chitragupta/Priority;" (.ref no)) (S_HIGH : Sta Z h0 "com/example/chitragupta/chitragupta/Priority" "HIGH" "Lcom/example/chitragupta/chitragupta/Priority;" (.ref hi)) (S_CRITICAL : Sta Z h0 "com/example/chitragupta/chitragupta/Priority" "CRITICAL" "Lcom/example/chitragupta/chitragupta/Priority;" (.ref cr)) :
    MetFree l (⟨"com/example/chitragupta/chitragupta/JobOptionsPriorityPinLaw", "pick", "(I)Lcom/example/chitragupta/chitragupta/Priority;"⟩ : MethodName) (head1 (Jvm.Cond.code (⟨"com/example/chitragupta/chitragupta/JobOptionsPriorityPinLaw", "pick", "(I)Lcom/example/chitragupta/chitragupta/Priority;"⟩ : MethodName) method_2_code 2 (some (.object "com/example/chitragupta/chitragupta/Priority")) :: ws) ({ frames := 0, cells := 0, slots := 0, locals := 0 } : Room)) (fun a U => a = #[(.int p1)] ∧ Z.Warmed39 U.vm ∧ U.heap = h0) (fun _ _ _ _ _ => True) (fun _ U o U' => ∃ v L, o = .returned v ∧ Q_rm_pick Z p1 lo lw no hi cr h0 n0 v U'.heap L ∧ FrameEnd U o U' L ({ frames := 0, cells := 0, slots := 0, locals := 0 } : Room).cells ({ frames := 0, cells := 0, slots := 0, locals := 0 } : Room).slots) := by
  refine MetFree.of_bodySF (plainFor_of_name pn19) hisR ?_
  intro p e s m args below meth c s₁ Bd hml0 hP hK
  obtain ⟨rfl, hZ, hh⟩ := hP
  have hx := Bd.exec
  have hby := Bd.bytes
  have hml : c.maxLocals = 2 := hml0
  have hown : s.vm.findClass "com/example/chitragupta/chitragupta/JobOptionsPriorityPinLaw" = some m.cls := findClass_of_methodNamed Bd.named
  have hnm := (name_of_methodNamed Bd.named Bd.method).1
  have X0 : Stand p l e ({ frames := 0, cells := 0, slots := 0, locals := 0 } : Room) s m #[(.int p1)] below meth c s₁ [] 0 0 := Stand.of_body Bd
  have e0 : s₁.heap = h0 := by rw [← hh, Bd.state]; rfl
  have N0 := Fr.nil n0
  refine Go.start (Q := Q_rm_pick Z p1 lo lw no hi cr h0 n0) (ef_rm_pick m p1) ?_
  have sg1 : ∀ t, Steps p.tables e below (s₁.setTop (mkF m 7 #[.val (.int p1), .val (.int ((p1 &&& (2147483647 : Int32)) % (5 : Int32)))] [])) t → Steps p.tables e below (s₁.setTop (mkF m 0 #[.val (.int p1), .unset] [])) t := by
    intro t kt
    show Steps p.tables e below (s₁.setTop (mkF m 0 #[.val (.int p1), .unset] [])) _
    refine XS.iloadN X0.here hx rfl (hb hby d19_0) rfl ?_
    show Steps p.tables e below (s₁.setTop (mkF m 1 #[.val (.int p1), .unset] [(.int p1)])) _
    refine X0.ldcInt hx hown (mvT hZ (hw _ (List.mem_of_getElem? (i := 115) rfl))) (g := (mkF m 1 #[.val (.int p1), .unset] [(.int p1)])) rfl (hb hby d19_1) _ ?_
    show Steps p.tables e below (s₁.setTop (mkF m 3 #[.val (.int p1), .unset] [(.int (2147483647 : Int32)), (.int p1)])) _
    refine XS.iand X0.here hx rfl (hb hby d19_3) rfl ?_
    show Steps p.tables e below (s₁.setTop (mkF m 4 #[.val (.int p1), .unset] [(.int (p1 &&& (2147483647 : Int32)))])) _
    refine XS.iconst X0.here hx rfl (hb hby d19_4) ?_
    show Steps p.tables e below (s₁.setTop (mkF m 5 #[.val (.int p1), .unset] [(.int (5 : Int32)), (.int (p1 &&& (2147483647 : Int32)))])) _
    refine iremM X0 hx rfl (hb hby d19_5) rfl (by decide) ?_
    show Steps p.tables e below (s₁.setTop (mkF m 6 #[.val (.int p1), .unset] [(.int ((p1 &&& (2147483647 : Int32)) % (5 : Int32)))])) _
    refine XS.istoreN X0.here hx rfl (hb hby d19_6) rfl (l' := #[.val (.int p1), .val (.int ((p1 &&& (2147483647 : Int32)) % (5 : Int32)))]) rfl ?_
    exact kt
  refine Go.adv sg1 ?_
  generalize h_ii : ((p1 &&& (2147483647 : Int32)) % (5 : Int32)) = ii
  show Go p.tables e below s _ _ _ (s₁.setTop (mkF m 7 #[.val (.int p1), .val (.int ii)] []))
  by_cases hc0 : ii = (0 : Int32)
  · have sg2 : ∀ t, Steps p.tables e below (s₁.setTop (mkF m 11 #[.val (.int p1), .val (.int ii)] [])) t → Steps p.tables e below (s₁.setTop (mkF m 7 #[.val (.int p1), .val (.int ii)] [])) t := by
      intro t kt
      show Steps p.tables e below (s₁.setTop (mkF m 7 #[.val (.int p1), .val (.int ii)] [])) _
      refine XS.iloadN X0.here hx rfl (hb hby d19_7) rfl ?_
      show Steps p.tables e below (s₁.setTop (mkF m 8 #[.val (.int p1), .val (.int ii)] [(.int ii)])) _
      refine XS.ifNo X0.here hx rfl (hb hby d19_8) rfl ((if0 _ _).trans (teq (hc0 : ii = (0 : Int32))).2) ?_
      exact kt
    refine Go.adv sg2 ?_
    obtain ⟨T3, X3, e3, st3⟩ := getS2 X0 hx hZ hown (host := "") (Or.inl (hw _ (List.mem_of_getElem? (i := 116) rfl))) Via.refl e0 S_LOWEST (g := (mkF m 11 #[.val (.int p1), .val (.int ii)] [])) rfl (hb hby d19_11)
    refine Go.adv st3 ?_
    show Go p.tables e below s _ _ _ (T3.setTop (mkF m 14 #[.val (.int p1), .val (.int ii)] [(.ref lo)]))
    refine Go.ret (v := (some (.ref lo))) X3 (fun h => by rw [Bd.returns] at h; cases h) Bd.notSynchronized (fun fs hr => retOut X3 hx Bd.returns rfl (Or.inr (Or.inr (Or.inr (Or.inr ⟨rfl, rfl, rfl⟩)))) (hb hby d19_14) hr) ?_ (by decide) (by decide)
    show Q_rm_pick Z p1 lo lw no hi cr h0 n0 (some (.ref lo)) T3.heap _
    rw [e3]
    exact ⟨(by show some (Value.ref lo) = some (Value.ref (own_pick p1 lo lw no hi cr)); unfold own_pick; rw [h_ii, if_pos hc0]), N0, rfl⟩
  · by_cases hc1 : ii = (1 : Int32)
    · have sg4 : ∀ t, Steps p.tables e below (s₁.setTop (mkF m 20 #[.val (.int p1), .val (.int ii)] [])) t → Steps p.tables e below (s₁.setTop (mkF m 7 #[.val (.int p1), .val (.int ii)] [])) t := by
        intro t kt
        show Steps p.tables e below (s₁.setTop (mkF m 7 #[.val (.int p1), .val (.int ii)] [])) _
        refine XS.iloadN X0.here hx rfl (hb hby d19_7) rfl ?_
        show Steps p.tables e below (s₁.setTop (mkF m 8 #[.val (.int p1), .val (.int ii)] [(.int ii)])) _
        refine XS.ifYes X0.here hx rfl (pc0 := 8) (pc' := 15) rfl (hb hby d19_8) rfl ((if0 _ _).trans (feq (hc0 : ¬ (ii = (0 : Int32)))).2) (by decide) (by decide) ?_
        show Steps p.tables e below (s₁.setTop (mkF m 15 #[.val (.int p1), .val (.int ii)] [])) _
        refine XS.iloadN X0.here hx rfl (hb hby d19_15) rfl ?_
        show Steps p.tables e below (s₁.setTop (mkF m 16 #[.val (.int p1), .val (.int ii)] [(.int ii)])) _
        refine XS.iconst X0.here hx rfl (hb hby d19_16) ?_
        show Steps p.tables e below (s₁.setTop (mkF m 17 #[.val (.int p1), .val (.int ii)] [(.int (1 : Int32)), (.int ii)])) _
        refine XS.icmpNo X0.here hx rfl (hb hby d19_17) rfl (teq (hc1 : ii = (1 : Int32))).2 ?_
        exact kt
      refine Go.adv sg4 ?_
      obtain ⟨T5, X5, e5, st5⟩ := getS2 X0 hx hZ hown (host := "") (Or.inl (hw _ (List.mem_of_getElem? (i := 146) rfl))) Via.refl e0 S_LOW (g := (mkF m 20 #[.val (.int p1), .val (.int ii)] [])) rfl (hb hby d19_20)
      refine Go.adv st5 ?_
      show Go p.tables e below s _ _ _ (T5.setTop (mkF m 23 #[.val (.int p1), .val (.int ii)] [(.ref lw)]))
      refine Go.ret (v := (some (.ref lw))) X5 (fun h => by rw [Bd.returns] at h; cases h) Bd.notSynchronized (fun fs hr => retOut X5 hx Bd.returns rfl (Or.inr (Or.inr (Or.inr (Or.inr ⟨rfl, rfl, rfl⟩)))) (hb hby d19_23) hr) ?_ (by decide) (by decide)
      show Q_rm_pick Z p1 lo lw no hi cr h0 n0 (some (.ref lw)) T5.heap _
      rw [e5]
      exact ⟨(by show some (Value.ref lw) = some (Value.ref (own_pick p1 lo lw no hi cr)); unfold own_pick; rw [h_ii, if_neg hc0, if_pos hc1]), N0, rfl⟩
    · by_cases hc2 : ii = (2 : Int32)
      · have sg6 : ∀ t, Steps p.tables e below (s₁.setTop (mkF m 29 #[.val (.int p1), .val (.int ii)] [])) t → Steps p.tables e below (s₁.setTop (mkF m 7 #[.val (.int p1), .val (.int ii)] [])) t := by
          intro t kt
          show Steps p.tables e below (s₁.setTop (mkF m 7 #[.val (.int p1), .val (.int ii)] [])) _
          refine XS.iloadN X0.here hx rfl (hb hby d19_7) rfl ?_
          show Steps p.tables e below (s₁.setTop (mkF m 8 #[.val (.int p1), .val (.int ii)] [(.int ii)])) _
          refine XS.ifYes X0.here hx rfl (pc0 := 8) (pc' := 15) rfl (hb hby d19_8) rfl ((if0 _ _).trans (feq (hc0 : ¬ (ii = (0 : Int32)))).2) (by decide) (by decide) ?_
          show Steps p.tables e below (s₁.setTop (mkF m 15 #[.val (.int p1), .val (.int ii)] [])) _
          refine XS.iloadN X0.here hx rfl (hb hby d19_15) rfl ?_
          show Steps p.tables e below (s₁.setTop (mkF m 16 #[.val (.int p1), .val (.int ii)] [(.int ii)])) _
          refine XS.iconst X0.here hx rfl (hb hby d19_16) ?_
          show Steps p.tables e below (s₁.setTop (mkF m 17 #[.val (.int p1), .val (.int ii)] [(.int (1 : Int32)), (.int ii)])) _
          refine XS.icmpYes X0.here hx rfl (pc0 := 17) (pc' := 24) rfl (hb hby d19_17) rfl (feq (hc1 : ¬ (ii = (1 : Int32)))).2 (by decide) (by decide) ?_
          show Steps p.tables e below (s₁.setTop (mkF m 24 #[.val (.int p1), .val (.int ii)] [])) _
          refine XS.iloadN X0.here hx rfl (hb hby d19_24) rfl ?_
          show Steps p.tables e below (s₁.setTop (mkF m 25 #[.val (.int p1), .val (.int ii)] [(.int ii)])) _
          refine XS.iconst X0.here hx rfl (hb hby d19_25) ?_
          show Steps p.tables e below (s₁.setTop (mkF m 26 #[.val (.int p1), .val (.int ii)] [(.int (2 : Int32)), (.int ii)])) _
          refine XS.icmpNo X0.here hx rfl (hb hby d19_26) rfl (teq (hc2 : ii = (2 : Int32))).2 ?_
          exact kt
        refine Go.adv sg6 ?_
        obtain ⟨T7, X7, e7, st7⟩ := getS2 X0 hx hZ hown (host := "") (Or.inl (hw _ (List.mem_of_getElem? (i := 148) rfl))) Via.refl e0 S_NORMAL (g := (mkF m 29 #[.val (.int p1), .val (.int ii)] [])) rfl (hb hby d19_29)
        refine Go.adv st7 ?_
        show Go p.tables e below s _ _ _ (T7.setTop (mkF m 32 #[.val (.int p1), .val (.int ii)] [(.ref no)]))
        refine Go.ret (v := (some (.ref no))) X7 (fun h => by rw [Bd.returns] at h; cases h) Bd.notSynchronized (fun fs hr => retOut X7 hx Bd.returns rfl (Or.inr (Or.inr (Or.inr (Or.inr ⟨rfl, rfl, rfl⟩)))) (hb hby d19_32) hr) ?_ (by decide) (by decide)
        show Q_rm_pick Z p1 lo lw no hi cr h0 n0 (some (.ref no)) T7.heap _
        rw [e7]
        exact ⟨(by show some (Value.ref no) = some (Value.ref (own_pick p1 lo lw no hi cr)); unfold own_pick; rw [h_ii, if_neg hc0, if_neg hc1, if_pos hc2]), N0, rfl⟩
      · by_cases hc3 : ii = (3 : Int32)
        · have sg8 : ∀ t, Steps p.tables e below (s₁.setTop (mkF m 38 #[.val (.int p1), .val (.int ii)] [])) t → Steps p.tables e below (s₁.setTop (mkF m 7 #[.val (.int p1), .val (.int ii)] [])) t := by
            intro t kt
            show Steps p.tables e below (s₁.setTop (mkF m 7 #[.val (.int p1), .val (.int ii)] [])) _
            refine XS.iloadN X0.here hx rfl (hb hby d19_7) rfl ?_
            show Steps p.tables e below (s₁.setTop (mkF m 8 #[.val (.int p1), .val (.int ii)] [(.int ii)])) _
            refine XS.ifYes X0.here hx rfl (pc0 := 8) (pc' := 15) rfl (hb hby d19_8) rfl ((if0 _ _).trans (feq (hc0 : ¬ (ii = (0 : Int32)))).2) (by decide) (by decide) ?_
            show Steps p.tables e below (s₁.setTop (mkF m 15 #[.val (.int p1), .val (.int ii)] [])) _
            refine XS.iloadN X0.here hx rfl (hb hby d19_15) rfl ?_
            show Steps p.tables e below (s₁.setTop (mkF m 16 #[.val (.int p1), .val (.int ii)] [(.int ii)])) _
            refine XS.iconst X0.here hx rfl (hb hby d19_16) ?_
            show Steps p.tables e below (s₁.setTop (mkF m 17 #[.val (.int p1), .val (.int ii)] [(.int (1 : Int32)), (.int ii)])) _
            refine XS.icmpYes X0.here hx rfl (pc0 := 17) (pc' := 24) rfl (hb hby d19_17) rfl (feq (hc1 : ¬ (ii = (1 : Int32)))).2 (by decide) (by decide) ?_
            show Steps p.tables e below (s₁.setTop (mkF m 24 #[.val (.int p1), .val (.int ii)] [])) _
            refine XS.iloadN X0.here hx rfl (hb hby d19_24) rfl ?_
            show Steps p.tables e below (s₁.setTop (mkF m 25 #[.val (.int p1), .val (.int ii)] [(.int ii)])) _
            refine XS.iconst X0.here hx rfl (hb hby d19_25) ?_
            show Steps p.tables e below (s₁.setTop (mkF m 26 #[.val (.int p1), .val (.int ii)] [(.int (2 : Int32)), (.int ii)])) _
            refine XS.icmpYes X0.here hx rfl (pc0 := 26) (pc' := 33) rfl (hb hby d19_26) rfl (feq (hc2 : ¬ (ii = (2 : Int32)))).2 (by decide) (by decide) ?_
            show Steps p.tables e below (s₁.setTop (mkF m 33 #[.val (.int p1), .val (.int ii)] [])) _
            refine XS.iloadN X0.here hx rfl (hb hby d19_33) rfl ?_
            show Steps p.tables e below (s₁.setTop (mkF m 34 #[.val (.int p1), .val (.int ii)] [(.int ii)])) _
            refine XS.iconst X0.here hx rfl (hb hby d19_34) ?_
            show Steps p.tables e below (s₁.setTop (mkF m 35 #[.val (.int p1), .val (.int ii)] [(.int (3 : Int32)), (.int ii)])) _
            refine XS.icmpNo X0.here hx rfl (hb hby d19_35) rfl (teq (hc3 : ii = (3 : Int32))).2 ?_
            exact kt
          refine Go.adv sg8 ?_
          obtain ⟨T9, X9, e9, st9⟩ := getS2 X0 hx hZ hown (host := "") (Or.inl (hw _ (List.mem_of_getElem? (i := 118) rfl))) Via.refl e0 S_HIGH (g := (mkF m 38 #[.val (.int p1), .val (.int ii)] [])) rfl (hb hby d19_38)
          refine Go.adv st9 ?_
          show Go p.tables e below s _ _ _ (T9.setTop (mkF m 41 #[.val (.int p1), .val (.int ii)] [(.ref hi)]))
          refine Go.ret (v := (some (.ref hi))) X9 (fun h => by rw [Bd.returns] at h; cases h) Bd.notSynchronized (fun fs hr => retOut X9 hx Bd.returns rfl (Or.inr (Or.inr (Or.inr (Or.inr ⟨rfl, rfl, rfl⟩)))) (hb hby d19_41) hr) ?_ (by decide) (by decide)
          show Q_rm_pick Z p1 lo lw no hi cr h0 n0 (some (.ref hi)) T9.heap _
          rw [e9]
          exact ⟨(by show some (Value.ref hi) = some (Value.ref (own_pick p1 lo lw no hi cr)); unfold own_pick; rw [h_ii, if_neg hc0, if_neg hc1, if_neg hc2, if_pos hc3]), N0, rfl⟩
        · have sg10 : ∀ t, Steps p.tables e below (s₁.setTop (mkF m 42 #[.val (.int p1), .val (.int ii)] [])) t → Steps p.tables e below (s₁.setTop (mkF m 7 #[.val (.int p1), .val (.int ii)] [])) t := by
            intro t kt
            show Steps p.tables e below (s₁.setTop (mkF m 7 #[.val (.int p1), .val (.int ii)] [])) _
            refine XS.iloadN X0.here hx rfl (hb hby d19_7) rfl ?_
            show Steps p.tables e below (s₁.setTop (mkF m 8 #[.val (.int p1), .val (.int ii)] [(.int ii)])) _
            refine XS.ifYes X0.here hx rfl (pc0 := 8) (pc' := 15) rfl (hb hby d19_8) rfl ((if0 _ _).trans (feq (hc0 : ¬ (ii = (0 : Int32)))).2) (by decide) (by decide) ?_
            show Steps p.tables e below (s₁.setTop (mkF m 15 #[.val (.int p1), .val (.int ii)] [])) _
            refine XS.iloadN X0.here hx rfl (hb hby d19_15) rfl ?_
            show Steps p.tables e below (s₁.setTop (mkF m 16 #[.val (.int p1), .val (.int ii)] [(.int ii)])) _
            refine XS.iconst X0.here hx rfl (hb hby d19_16) ?_
            show Steps p.tables e below (s₁.setTop (mkF m 17 #[.val (.int p1), .val (.int ii)] [(.int (1 : Int32)), (.int ii)])) _
            refine XS.icmpYes X0.here hx rfl (pc0 := 17) (pc' := 24) rfl (hb hby d19_17) rfl (feq (hc1 : ¬ (ii = (1 : Int32)))).2 (by decide) (by decide) ?_
            show Steps p.tables e below (s₁.setTop (mkF m 24 #[.val (.int p1), .val (.int ii)] [])) _
            refine XS.iloadN X0.here hx rfl (hb hby d19_24) rfl ?_
            show Steps p.tables e below (s₁.setTop (mkF m 25 #[.val (.int p1), .val (.int ii)] [(.int ii)])) _
            refine XS.iconst X0.here hx rfl (hb hby d19_25) ?_
            show Steps p.tables e below (s₁.setTop (mkF m 26 #[.val (.int p1), .val (.int ii)] [(.int (2 : Int32)), (.int ii)])) _
            refine XS.icmpYes X0.here hx rfl (pc0 := 26) (pc' := 33) rfl (hb hby d19_26) rfl (feq (hc2 : ¬ (ii = (2 : Int32)))).2 (by decide) (by decide) ?_
            show Steps p.tables e below (s₁.setTop (mkF m 33 #[.val (.int p1), .val (.int ii)] [])) _
            refine XS.iloadN X0.here hx rfl (hb hby d19_33) rfl ?_
            show Steps p.tables e below (s₁.setTop (mkF m 34 #[.val (.int p1), .val (.int ii)] [(.int ii)])) _
            refine XS.iconst X0.here hx rfl (hb hby d19_34) ?_
            show Steps p.tables e below (s₁.setTop (mkF m 35 #[.val (.int p1), .val (.int ii)] [(.int (3 : Int32)), (.int ii)])) _
            refine XS.icmpYes X0.here hx rfl (pc0 := 35) (pc' := 42) rfl (hb hby d19_35) rfl (feq (hc3 : ¬ (ii = (3 : Int32)))).2 (by decide) (by decide) ?_
            exact kt
          refine Go.adv sg10 ?_
          obtain ⟨T11, X11, e11, st11⟩ := getS2 X0 hx hZ hown (host := "") (Or.inl (hw _ (List.mem_of_getElem? (i := 149) rfl))) Via.refl e0 S_CRITICAL (g := (mkF m 42 #[.val (.int p1), .val (.int ii)] [])) rfl (hb hby d19_42)
          refine Go.adv st11 ?_
          show Go p.tables e below s _ _ _ (T11.setTop (mkF m 45 #[.val (.int p1), .val (.int ii)] [(.ref cr)]))
          refine Go.ret (v := (some (.ref cr))) X11 (fun h => by rw [Bd.returns] at h; cases h) Bd.notSynchronized (fun fs hr => retOut X11 hx Bd.returns rfl (Or.inr (Or.inr (Or.inr (Or.inr ⟨rfl, rfl, rfl⟩)))) (hb hby d19_45) hr) ?_ (by decide) (by decide)
          show Q_rm_pick Z p1 lo lw no hi cr h0 n0 (some (.ref cr)) T11.heap _
          rw [e11]
          exact ⟨(by show some (Value.ref cr) = some (Value.ref (own_pick p1 lo lw no hi cr)); unfold own_pick; rw [h_ii, if_neg hc0, if_neg hc1, if_neg hc2, if_neg hc3]), N0, rfl⟩
theorem pn0 : plainName "com/example/chitragupta/chitragupta/JobOptionsPriorityPinLaw" = true := by first | (simp [plainName, overriddenIn]; done) | decide +kernel
theorem pd_ocV : parseMethodDescriptor "()V" = some ⟨[], none⟩ := by decide +kernel
theorem pd_ocLcomsexampleschitraguptaschitraguptasBackoffe : parseMethodDescriptor "()Lcom/example/chitragupta/chitragupta/Backoff;" = some ⟨[], some (.object "com/example/chitragupta/chitragupta/Backoff")⟩ := by decide +kernel
theorem pd_oIcLcomsexampleschitraguptaschitraguptasPrioritye : parseMethodDescriptor "(I)Lcom/example/chitragupta/chitragupta/Priority;" = some ⟨[.int], some (.object "com/example/chitragupta/chitragupta/Priority")⟩ := by decide +kernel
theorem pd_oLcomsexampleschitraguptaschitraguptasPriorityecLcomsexampleschitraguptaschitraguptasJobOptionse : parseMethodDescriptor "(Lcom/example/chitragupta/chitragupta/Priority;)Lcom/example/chitragupta/chitragupta/JobOptions;" = some ⟨[(.object "com/example/chitragupta/chitragupta/Priority")], some (.object "com/example/chitragupta/chitragupta/JobOptions")⟩ := by decide +kernel
theorem pd_ocLcomsexampleschitraguptaschitraguptasPrioritye : parseMethodDescriptor "()Lcom/example/chitragupta/chitragupta/Priority;" = some ⟨[], some (.object "com/example/chitragupta/chitragupta/Priority")⟩ := by decide +kernel
theorem pd_ocI : parseMethodDescriptor "()I" = some ⟨[], some .int⟩ := by decide +kernel
theorem pd_ocLjavastimesInstante : parseMethodDescriptor "()Ljava/time/Instant;" = some ⟨[], some (.object "java/time/Instant")⟩ := by decide +kernel
theorem ef_rm0 (m : MethodId) (x0 : Int32) (x1 : Int32) (x2 : Int32) : entryFrame m #[(.int x0), (.int x1), (.int x2)] maxLocals = mkF m 0 #[.val (.int x0), .val (.int x1), .val (.int x2), .unset, .unset, .unset, .unset, .unset, .unset, .unset, .unset] [] := by first | (simp [entryFrame, mkF, argsToLocals, Value.category, maxLocals]; done) | rfl
def Q_rm0 (Z : State) (p1 : Int32) (p2 : Int32) (p3 : Int32) (lo : Addr) (lw : Addr) (no : Addr) (hi : Addr) (cr : Addr) (ld : Addr) (h0 : Heap) (n0 : Nat) (v : Option Value) (h : Heap) (L : List Loc) : Prop := v = some (.int (1 : Int32)) ∧ Fr n0 L
set_option maxRecDepth 65536 in
set_option maxHeartbeats 40000000 in
theorem rm0 (l : Launch) (Z : State) (a0 : Array Value) (hw : ∀ d ∈ tables_1, d.before a0 Z = true) (ws : List Jvm.Cond) (p1 : Int32) (p2 : Int32) (p3 : Int32) (lo : Addr) (lw : Addr) (no : Addr) (hi : Addr) (cr : Addr) (ld : Addr) (h0 : Heap) (n0 : Nat) (Z0 : n0 ≤ h0.size) (S_LOWEST : Sta Z h0 "com/example/chitragupta/chitragupta/Priority" "LOWEST" "Lcom/example/chitragupta/chitragupta/Priority;" (.ref lo)) (S_LOW : Sta Z h0 "com/example/chitragupta/chitragupta/Priority" "LOW" "Lcom/example/chitragupta/chitragupta/Priority;" (.ref lw)) (S_NORMAL : Sta Z h0 "com/example/chitragupta/chitragupta/Priority" "NORMAL" "Lcom/example/chitragupta/chitragupta/Priority;" (.ref no)) (S_HIGH : Sta Z h0 "com/example/chitragupta/chitragupta/Priority" "HIGH" "Lcom/example/chitragupta/chitragupta/Priority;" (.ref hi)) (S_CRITICAL : Sta Z h0 "com/example/chitragupta/chitragupta/Priority" "CRITICAL" "Lcom/example/chitragupta/chitragupta/Priority;" (.ref cr)) (S_LONGEST_DURATION : Sta Z h0 "com/example/chitragupta/chitragupta/Limits" "LONGEST_DURATION" "Ljava/time/Duration;" (.ref ld)) (F_seconds_ld : Fld Z h0 ld "java/time/Duration" "seconds" "J" (.long (31536000 : Int64))) (E_lo : Exa Z h0 lo "com/example/chitragupta/chitragupta/Priority") (E_lw : Exa Z h0 lw "com/example/chitragupta/chitragupta/Priority") (E_no : Exa Z h0 no "com/example/chitragupta/chitragupta/Priority") (E_hi : Exa Z h0 hi "com/example/chitragupta/chitragupta/Priority") (E_cr : Exa Z h0 cr "com/example/chitragupta/chitragupta/Priority") (hld : ld < n0) :
    MetFree l x (head1 (Jvm.Cond.code x code maxLocals ret :: ws) room_1) (fun a U => a = #[(.int p1), (.int p2), (.int p3)] ∧ Z.Warmed39 U.vm ∧ U.heap = h0) (fun _ _ _ _ _ => True) (fun _ U o U' => ∃ v L, o = .returned v ∧ Q_rm0 Z p1 p2 p3 lo lw no hi cr ld h0 n0 v U'.heap L ∧ ReturnedEndW U o U' L room_1.cells room_1.slots) := by
  refine MetFree.of_bodySF (plainFor_of_name pn0) hisR ?_
  intro p e s m args below meth c s₁ Bd hml0 hP hK
  obtain ⟨rfl, hZ, hh⟩ := hP
  have hx := Bd.exec
  have hby := Bd.bytes
  have hml : c.maxLocals = 11 := hml0
  have hown : s.vm.findClass "com/example/chitragupta/chitragupta/JobOptionsPriorityPinLaw" = some m.cls := findClass_of_methodNamed Bd.named
  have hnm := (name_of_methodNamed Bd.named Bd.method).1
  have X0 : Stand p l e room_1 (s.setVm s.vm) m #[(.int p1), (.int p2), (.int p3)] below meth c s₁ [] 0 0 := Stand.of_body Bd
  have e0 : s₁.heap = h0 := by rw [← hh, Bd.state]; rfl
  have N0 := Fr.nil n0
  have hS0 : s.Since s.vm 0 := (State.WarmedH.refl s).since 0
  have hk0 : 0 ≤ h0.size := Nat.zero_le _
  refine GoW.start (Q := Q_rm0 Z p1 p2 p3 lo lw no hi cr ld h0 n0) (ef_rm0 m p1 p2 p3) ?_
  obtain ⟨T1, h1, X1, e1, E1, A1, D1, -, st1⟩ := newO X0 hx hZ hown (hw _ (List.mem_of_getElem? (i := 0) rfl)) (hw _ (List.mem_of_getElem? (i := 1) rfl)) (hw _ (List.mem_of_getElem? (i := 2) rfl)) e0 (g := (mkF m 0 #[.val (.int p1), .val (.int p2), .val (.int p3), .unset, .unset, .unset, .unset, .unset, .unset, .unset, .unset] [])) rfl (hb hby at_0) (by decide) (by decide)
  obtain ⟨b1, gb1⟩ : ∃ z, z = h0.size := ⟨_, rfl⟩
  rw [← gb1] at A1 D1 st1
  have g_b1 : n0 ≤ b1 := Nat.le_trans Z0 (Nat.le_of_eq gb1.symm)
  have sz_b1 : h0.size ≤ b1 := Nat.le_trans (Keep.refl h0 []).1 (Nat.le_of_eq gb1.symm)
  have ne_ld_b1 : ld ≠ b1 := Nat.ne_of_lt (Nat.lt_of_lt_of_le F_seconds_ld.lt (Nat.le_of_eq gb1.symm))
  have ne_lo_b1 : lo ≠ b1 := Nat.ne_of_lt (Nat.lt_of_lt_of_le E_lo.lt (Nat.le_of_eq gb1.symm))
  have ne_lw_b1 : lw ≠ b1 := Nat.ne_of_lt (Nat.lt_of_lt_of_le E_lw.lt (Nat.le_of_eq gb1.symm))
  have ne_no_b1 : no ≠ b1 := Nat.ne_of_lt (Nat.lt_of_lt_of_le E_no.lt (Nat.le_of_eq gb1.symm))
  have ne_hi_b1 : hi ≠ b1 := Nat.ne_of_lt (Nat.lt_of_lt_of_le E_hi.lt (Nat.le_of_eq gb1.symm))
  have ne_cr_b1 : cr ≠ b1 := Nat.ne_of_lt (Nat.lt_of_lt_of_le E_cr.lt (Nat.le_of_eq gb1.symm))
  have K1 : Keep h0 h1 [] := (Keep.refl h0 []).ext E1
  have Z1 : n0 ≤ h1.size := Nat.le_trans Z0 E1.1
  have hk1 := Nat.le_trans hk0 E1.1
  have F_priority_b1 : Fld Z h1 b1 "com/example/chitragupta/chitragupta/JobOptions" "priority" "Lcom/example/chitragupta/chitragupta/Priority;" .null := D1 (Or.inl (hw _ (List.mem_of_getElem? (i := 13) rfl))) (ty := (.object "com/example/chitragupta/chitragupta/Priority")) (by decide)
  have F_maxAttempts_b1 : Fld Z h1 b1 "com/example/chitragupta/chitragupta/JobOptions" "maxAttempts" "I" (.int (0 : Int32)) := D1 (Or.inl (hw _ (List.mem_of_getElem? (i := 15) rfl))) (ty := .int) (by decide)
  have F_backoff_b1 : Fld Z h1 b1 "com/example/chitragupta/chitragupta/JobOptions" "backoff" "Lcom/example/chitragupta/chitragupta/Backoff;" .null := D1 (Or.inl (hw _ (List.mem_of_getElem? (i := 105) rfl))) (ty := (.object "com/example/chitragupta/chitragupta/Backoff")) (by decide)
  have F_runAt_b1 : Fld Z h1 b1 "com/example/chitragupta/chitragupta/JobOptions" "runAt" "Ljava/time/Instant;" .null := D1 (Or.inl (hw _ (List.mem_of_getElem? (i := 145) rfl))) (ty := (.object "java/time/Instant")) (by decide)
  refine GoW.adv st1 ?_
  show GoW p.tables e below s _ _ _ (T1.setTop (mkF m 3 #[.val (.int p1), .val (.int p2), .val (.int p3), .unset, .unset, .unset, .unset, .unset, .unset, .unset, .unset] [(.ref b1)]))
  have sg2 : ∀ t, Steps p.tables e below (T1.setTop (mkF m 4 #[.val (.int p1), .val (.int p2), .val (.int p3), .unset, .unset, .unset, .unset, .unset, .unset, .unset, .unset] [(.ref b1), (.ref b1)])) t → Steps p.tables e below (T1.setTop (mkF m 3 #[.val (.int p1), .val (.int p2), .val (.int p3), .unset, .unset, .unset, .unset, .unset, .unset, .unset, .unset] [(.ref b1)])) t := by
    intro t kt
    show Steps p.tables e below (T1.setTop (mkF m 3 #[.val (.int p1), .val (.int p2), .val (.int p3), .unset, .unset, .unset, .unset, .unset, .unset, .unset, .unset] [(.ref b1)])) _
    refine XS.dup X1.here hx rfl (hb hby at_3) rfl rfl ?_
    exact kt
  refine GoW.adv sg2 ?_
  have f3 := (S_NORMAL.ext E1)
  have f4 := (S_LONGEST_DURATION.ext E1)
  have f5 := (F_seconds_ld.ext E1)
  have f6 := (S_LOWEST.ext E1)
  have f7 := (S_LOW.ext E1)
  have f8 := (S_HIGH.ext E1)
  have f9 := (S_CRITICAL.ext E1)
  obtain ⟨_, _, ⟨T10, L10, k10, n10⟩, -, Xr10, hSr10, hG10, ⟨Lc10, hQ10, l10, y10, z10⟩, st10⟩ := X1.specialBackS hx (y := (⟨"com/example/chitragupta/chitragupta/JobOptions", "<init>", "()V"⟩ : MethodName)) rfl hown (mvT hZ (hw _ (List.mem_of_getElem? (i := 3) rfl))) (mvT hZ (hw _ (List.mem_of_getElem? (i := 4) rfl))) (mvT hZ (hw _ (List.mem_of_getElem? (i := 5) rfl))) (by decide) (backOfS (W := 1) (rm_joinit l Z a0 hw [] b1 (.null) (.int (0 : Int32)) (.null) (.null) no ld h1 n0 Z1 f3 f4 f5 A1 g_b1 F_priority_b1 F_maxAttempts_b1 F_backoff_b1 F_runAt_b1 hld) hZ (hw _ (List.mem_of_getElem? (i := 5) rfl)) (hw _ (List.mem_of_getElem? (i := 2) rfl)) (by decide) (by decide)) (g := (mkF m 4 #[.val (.int p1), .val (.int p2), .val (.int p3), .unset, .unset, .unset, .unset, .unset, .unset, .unset, .unset] [(.ref b1), (.ref b1)])) rfl (by rw [hml]; rfl) (Steps.refl _) (a := b1) (argsL := []) (rest := [(.ref b1)]) (lenOf pd_ocV rfl) rfl (by show 2 * 0 + _ ≤ _; exact Nat.le_of_eq rfl) (hb hby at_4) (fun _ _ => ⟨rfl, e1, (by decide : 1 + 7 ≤ _), (by decide : 6 + 119 ≤ _)⟩)
  dsimp only [Pt.U, Pt.locs, Pt.cells, Pt.slots] at Xr10 l10 y10 z10 st10 hQ10 hSr10 hG10
  subst l10 y10 z10
  have X10 : Stand p l e _ (s.setVm T10.vm) m _ below meth c T10 _ _ _ := Xr10
  have hS10 : s.Since T10.vm T10.heap.size := State.Since.trans hS0 hSr10 (Nat.le_trans hk1 (by rw [← e1]; exact hG10))
  have hZ10 : Z.Warmed39 (s.setVm T10.vm).vm := State.Warmed39.trans (t := s.setVm s.vm) hZ hSr10.1
  have hown10 : (s.setVm T10.vm).vm.findClass "com/example/chitragupta/chitragupta/JobOptionsPriorityPinLaw" = some m.cls := by rw [show (s.setVm T10.vm).vm = T10.vm from rfl, hSr10.1.alike.findClass]; exact hown
  obtain ⟨b10, rfl, N10q, Kc10, p10_0, p10_1, p10_2, p10_3, p10_4⟩ := hQ10
  have N10 := Fr.app N0 N10q
  have s10_LOWEST := own_staKeep f6 Kc10 A1
  have s10_LOW := own_staKeep f7 Kc10 A1
  have s10_NORMAL := own_staKeep f3 Kc10 A1
  have s10_HIGH := own_staKeep f8 Kc10 A1
  have s10_CRITICAL := own_staKeep f9 Kc10 A1
  have s10_LONGEST_DURATION := own_staKeep f4 Kc10 A1
  have K10 : Keep h0 T10.heap [] := K1.trans Kc10 (allS (Or.inr sz_b1) all0)
  have Z10 : n0 ≤ T10.heap.size := Nat.le_trans Z1 Kc10.1
  refine GoW.tr st10 ?_
  show GoW p.tables e below s _ _ _ (T10.setTop (mkF m 7 #[.val (.int p1), .val (.int p2), .val (.int p3), .unset, .unset, .unset, .unset, .unset, .unset, .unset, .unset] [(.ref b1)]))
  have sg11 : ∀ t, Steps p.tables e below (T10.setTop (mkF m 9 #[.val (.int p1), .val (.int p2), .val (.int p3), .val (.ref b1), .unset, .unset, .unset, .unset, .unset, .unset, .unset] [(.ref b1)])) t → Steps p.tables e below (T10.setTop (mkF m 7 #[.val (.int p1), .val (.int p2), .val (.int p3), .unset, .unset, .unset, .unset, .unset, .unset, .unset, .unset] [(.ref b1)])) t := by
    intro t kt
    show Steps p.tables e below (T10.setTop (mkF m 7 #[.val (.int p1), .val (.int p2), .val (.int p3), .unset, .unset, .unset, .unset, .unset, .unset, .unset, .unset] [(.ref b1)])) _
    refine XS.astoreN X10.here hx rfl (hb hby at_7) rfl rfl (l' := #[.val (.int p1), .val (.int p2), .val (.int p3), .val (.ref b1), .unset, .unset, .unset, .unset, .unset, .unset, .unset]) rfl ?_
    show Steps p.tables e below (T10.setTop (mkF m 8 #[.val (.int p1), .val (.int p2), .val (.int p3), .val (.ref b1), .unset, .unset, .unset, .unset, .unset, .unset, .unset] [])) _
    refine XS.aloadN X10.here hx rfl (hb hby at_8) rfl rfl ?_
    exact kt
  refine GoW.adv sg11 ?_
  obtain ⟨cq12, kq12, q12a, q12b, q12c⟩ := isOf hZ10 rfl p10_0
  obtain ⟨_, _, ⟨T12, L12, k12, n12⟩, -, X12, ⟨Lc12, hQ12, l12, y12, z12⟩, st12⟩ := X10.virtualBack hx (y := (⟨"com/example/chitragupta/chitragupta/JobOptions", "backoff", "()Lcom/example/chitragupta/chitragupta/Backoff;"⟩ : MethodName)) (z := (⟨"com/example/chitragupta/chitragupta/JobOptions", "backoff", "()Lcom/example/chitragupta/chitragupta/Backoff;"⟩ : MethodName)) hown10 (mvT hZ10 (hw _ (List.mem_of_getElem? (i := 106) rfl))) (mvT hZ10 (hw _ (List.mem_of_getElem? (i := 107) rfl))) (notFace_of_selects (args := #[]) (mvT hZ10 (hw _ (List.mem_of_getElem? (i := 109) rfl)))) (mvT hZ10 (hw _ (List.mem_of_getElem? (i := 109) rfl))) (mvT hZ10 (hw _ (List.mem_of_getElem? (i := 108) rfl))) (by decide) (backOf (W := 0) (rm_getB l Z a0 hw [] b1 b10 T10.heap n0 Z10 p10_3) hZ10 (hw _ (List.mem_of_getElem? (i := 110) rfl)) (hw _ (List.mem_of_getElem? (i := 2) rfl)) (by decide) (by decide)) q12a q12c (g := (mkF m 9 #[.val (.int p1), .val (.int p2), .val (.int p3), .val (.ref b1), .unset, .unset, .unset, .unset, .unset, .unset, .unset] [(.ref b1)])) rfl (by rw [hml]; rfl) (Steps.refl _) (argsL := []) (rest := []) (lenOf pd_ocLcomsexampleschitraguptaschitraguptasBackoffe rfl) rfl (by show 2 * 0 + _ ≤ _; exact Nat.le_of_eq rfl) (hb hby at_9) (fun _ _ => ⟨rfl, rfl, (by decide : 8 + 0 ≤ _), (by decide : 125 + 0 ≤ _)⟩)
  dsimp only [Pt.U, Pt.locs, Pt.cells, Pt.slots] at X12 l12 y12 z12 st12 hQ12
  subst l12 y12 z12
  obtain ⟨rfl, N12q, e12⟩ := hQ12
  have N12 := Fr.app N10 N12q
  refine GoW.tr st12 ?_
  show GoW p.tables e below s _ _ _ (T12.setTop (mkF m 12 #[.val (.int p1), .val (.int p2), .val (.int p3), .val (.ref b1), .unset, .unset, .unset, .unset, .unset, .unset, .unset] [(.ref b10)]))
  have sg13 : ∀ t, Steps p.tables e below (T12.setTop (mkF m 15 #[.val (.int p1), .val (.int p2), .val (.int p3), .val (.ref b1), .val (.ref b10), .unset, .unset, .unset, .unset, .unset, .unset] [(.int p1)])) t → Steps p.tables e below (T12.setTop (mkF m 12 #[.val (.int p1), .val (.int p2), .val (.int p3), .val (.ref b1), .unset, .unset, .unset, .unset, .unset, .unset, .unset] [(.ref b10)])) t := by
    intro t kt
    show Steps p.tables e below (T12.setTop (mkF m 12 #[.val (.int p1), .val (.int p2), .val (.int p3), .val (.ref b1), .unset, .unset, .unset, .unset, .unset, .unset, .unset] [(.ref b10)])) _
    refine XS.astore X12.here hx rfl (hb hby at_12) rfl rfl (l' := #[.val (.int p1), .val (.int p2), .val (.int p3), .val (.ref b1), .val (.ref b10), .unset, .unset, .unset, .unset, .unset, .unset]) rfl ?_
    show Steps p.tables e below (T12.setTop (mkF m 14 #[.val (.int p1), .val (.int p2), .val (.int p3), .val (.ref b1), .val (.ref b10), .unset, .unset, .unset, .unset, .unset, .unset] [])) _
    refine XS.iloadN X12.here hx rfl (hb hby at_14) rfl ?_
    exact kt
  refine GoW.adv sg13 ?_
  obtain ⟨_, _, ⟨T14, L14, k14, n14⟩, -, X14, ⟨Lc14, hQ14, l14, y14, z14⟩, st14⟩ := Jvm.LawKit.callS X12 hx (y := (⟨"com/example/chitragupta/chitragupta/JobOptionsPriorityPinLaw", "pick", "(I)Lcom/example/chitragupta/chitragupta/Priority;"⟩ : MethodName)) hown10 (mvT hZ10 (hw _ (List.mem_of_getElem? (i := 111) rfl))) (mvT hZ10 (hw _ (List.mem_of_getElem? (i := 112) rfl))) (mvT hZ10 (hw _ (List.mem_of_getElem? (i := 113) rfl))) (mvT hZ10 (hw _ (List.mem_of_getElem? (i := 114) rfl))) (by decide) (backOf (W := 0) (rm_pick l Z a0 hw [] p1 lo lw no hi cr T10.heap n0 Z10 s10_LOWEST s10_LOW s10_NORMAL s10_HIGH s10_CRITICAL) hZ10 (hw _ (List.mem_of_getElem? (i := 114) rfl)) (hw _ (List.mem_of_getElem? (i := 113) rfl)) (by decide) (by decide)) (g := (mkF m 15 #[.val (.int p1), .val (.int p2), .val (.int p3), .val (.ref b1), .val (.ref b10), .unset, .unset, .unset, .unset, .unset, .unset] [(.int p1)])) rfl (by rw [hml]; rfl) (argsL := [(.int p1)]) (rest := []) (lenOf pd_oIcLcomsexampleschitraguptaschitraguptasPrioritye rfl) rfl (by show 2 * 0 + _ ≤ _; exact Nat.le_of_eq rfl) (hb hby at_15) (fun _ _ => ⟨rfl, e12, (by decide : 8 + 0 ≤ _), (by decide : 125 + 0 ≤ _)⟩)
  dsimp only [Pt.U, Pt.locs, Pt.cells, Pt.slots] at X14 l14 y14 z14 st14 hQ14
  subst l14 y14 z14
  obtain ⟨rfl, N14q, e14⟩ := hQ14
  have N14 := Fr.app N12 N14q
  refine GoW.adv st14 ?_
  show GoW p.tables e below s _ _ _ (T14.setTop (mkF m 18 #[.val (.int p1), .val (.int p2), .val (.int p3), .val (.ref b1), .val (.ref b10), .unset, .unset, .unset, .unset, .unset, .unset] [(.ref (own_pick p1 lo lw no hi cr))]))
  have sg15 : ∀ t, Steps p.tables e below (T14.setTop (mkF m 21 #[.val (.int p1), .val (.int p2), .val (.int p3), .val (.ref b1), .val (.ref b10), .val (.ref (own_pick p1 lo lw no hi cr)), .unset, .unset, .unset, .unset, .unset] [(.int p2)])) t → Steps p.tables e below (T14.setTop (mkF m 18 #[.val (.int p1), .val (.int p2), .val (.int p3), .val (.ref b1), .val (.ref b10), .unset, .unset, .unset, .unset, .unset, .unset] [(.ref (own_pick p1 lo lw no hi cr))])) t := by
    intro t kt
    show Steps p.tables e below (T14.setTop (mkF m 18 #[.val (.int p1), .val (.int p2), .val (.int p3), .val (.ref b1), .val (.ref b10), .unset, .unset, .unset, .unset, .unset, .unset] [(.ref (own_pick p1 lo lw no hi cr))])) _
    refine XS.astore X14.here hx rfl (hb hby at_18) rfl rfl (l' := #[.val (.int p1), .val (.int p2), .val (.int p3), .val (.ref b1), .val (.ref b10), .val (.ref (own_pick p1 lo lw no hi cr)), .unset, .unset, .unset, .unset, .unset]) rfl ?_
    show Steps p.tables e below (T14.setTop (mkF m 20 #[.val (.int p1), .val (.int p2), .val (.int p3), .val (.ref b1), .val (.ref b10), .val (.ref (own_pick p1 lo lw no hi cr)), .unset, .unset, .unset, .unset, .unset] [])) _
    refine XS.iloadN X14.here hx rfl (hb hby at_20) rfl ?_
    exact kt
  refine GoW.adv sg15 ?_
  obtain ⟨_, _, ⟨T16, L16, k16, n16⟩, -, X16, ⟨Lc16, hQ16, l16, y16, z16⟩, st16⟩ := Jvm.LawKit.callS X14 hx (y := (⟨"com/example/chitragupta/chitragupta/JobOptionsPriorityPinLaw", "pick", "(I)Lcom/example/chitragupta/chitragupta/Priority;"⟩ : MethodName)) hown10 (mvT hZ10 (hw _ (List.mem_of_getElem? (i := 111) rfl))) (mvT hZ10 (hw _ (List.mem_of_getElem? (i := 112) rfl))) (mvT hZ10 (hw _ (List.mem_of_getElem? (i := 113) rfl))) (mvT hZ10 (hw _ (List.mem_of_getElem? (i := 114) rfl))) (by decide) (backOf (W := 0) (rm_pick l Z a0 hw [] p2 lo lw no hi cr T10.heap n0 Z10 s10_LOWEST s10_LOW s10_NORMAL s10_HIGH s10_CRITICAL) hZ10 (hw _ (List.mem_of_getElem? (i := 114) rfl)) (hw _ (List.mem_of_getElem? (i := 113) rfl)) (by decide) (by decide)) (g := (mkF m 21 #[.val (.int p1), .val (.int p2), .val (.int p3), .val (.ref b1), .val (.ref b10), .val (.ref (own_pick p1 lo lw no hi cr)), .unset, .unset, .unset, .unset, .unset] [(.int p2)])) rfl (by rw [hml]; rfl) (argsL := [(.int p2)]) (rest := []) (lenOf pd_oIcLcomsexampleschitraguptaschitraguptasPrioritye rfl) rfl (by show 2 * 0 + _ ≤ _; exact Nat.le_of_eq rfl) (hb hby at_21) (fun _ _ => ⟨rfl, e14, (by decide : 8 + 0 ≤ _), (by decide : 125 + 0 ≤ _)⟩)
  dsimp only [Pt.U, Pt.locs, Pt.cells, Pt.slots] at X16 l16 y16 z16 st16 hQ16
  subst l16 y16 z16
  obtain ⟨rfl, N16q, e16⟩ := hQ16
  have N16 := Fr.app N14 N16q
  refine GoW.adv st16 ?_
  show GoW p.tables e below s _ _ _ (T16.setTop (mkF m 24 #[.val (.int p1), .val (.int p2), .val (.int p3), .val (.ref b1), .val (.ref b10), .val (.ref (own_pick p1 lo lw no hi cr)), .unset, .unset, .unset, .unset, .unset] [(.ref (own_pick p2 lo lw no hi cr))]))
  have sg17 : ∀ t, Steps p.tables e below (T16.setTop (mkF m 26 #[.val (.int p1), .val (.int p2), .val (.int p3), .val (.ref b1), .val (.ref b10), .val (.ref (own_pick p1 lo lw no hi cr)), .val (.ref (own_pick p2 lo lw no hi cr)), .unset, .unset, .unset, .unset] [])) t → Steps p.tables e below (T16.setTop (mkF m 24 #[.val (.int p1), .val (.int p2), .val (.int p3), .val (.ref b1), .val (.ref b10), .val (.ref (own_pick p1 lo lw no hi cr)), .unset, .unset, .unset, .unset, .unset] [(.ref (own_pick p2 lo lw no hi cr))])) t := by
    intro t kt
    show Steps p.tables e below (T16.setTop (mkF m 24 #[.val (.int p1), .val (.int p2), .val (.int p3), .val (.ref b1), .val (.ref b10), .val (.ref (own_pick p1 lo lw no hi cr)), .unset, .unset, .unset, .unset, .unset] [(.ref (own_pick p2 lo lw no hi cr))])) _
    refine XS.astore X16.here hx rfl (hb hby at_24) rfl rfl (l' := #[.val (.int p1), .val (.int p2), .val (.int p3), .val (.ref b1), .val (.ref b10), .val (.ref (own_pick p1 lo lw no hi cr)), .val (.ref (own_pick p2 lo lw no hi cr)), .unset, .unset, .unset, .unset]) rfl ?_
    exact kt
  refine GoW.adv sg17 ?_
  have f18 := ((E_lo.ext E1).keep Kc10)
  have f19 := ((E_lw.ext E1).keep Kc10)
  have f20 := ((E_no.ext E1).keep Kc10)
  have f21 := ((E_hi.ext E1).keep Kc10)
  have f22 := ((E_cr.ext E1).keep Kc10)
  have E_pa := own_pick_all (Q := fun z => Exa Z T10.heap z "com/example/chitragupta/chitragupta/Priority") p1 f18 f19 f20 f21 f22
  generalize h_pa : (own_pick p1 lo lw no hi cr) = pa
  show GoW p.tables e below s _ _ _ (T16.setTop (mkF m 26 #[.val (.int p1), .val (.int p2), .val (.int p3), .val (.ref b1), .val (.ref b10), .val (.ref pa), .val (.ref (own_pick p2 lo lw no hi cr)), .unset, .unset, .unset, .unset] []))
  rw [h_pa] at E_pa
  have E_pb := own_pick_all (Q := fun z => Exa Z T10.heap z "com/example/chitragupta/chitragupta/Priority") p2 f18 f19 f20 f21 f22
  generalize h_pb : (own_pick p2 lo lw no hi cr) = pb
  show GoW p.tables e below s _ _ _ (T16.setTop (mkF m 26 #[.val (.int p1), .val (.int p2), .val (.int p3), .val (.ref b1), .val (.ref b10), .val (.ref pa), .val (.ref pb), .unset, .unset, .unset, .unset] []))
  rw [h_pb] at E_pb
  by_cases hf : (p3 &&& (1 : Int32)) = (0 : Int32)
  · have sg23 : ∀ t, Steps p.tables e below (T16.setTop (mkF m 42 #[.val (.int p1), .val (.int p2), .val (.int p3), .val (.ref b1), .val (.ref b10), .val (.ref pa), .val (.ref pb), .val (.int (0 : Int32)), .unset, .unset, .unset] [(.ref pa), (.ref b1)])) t → Steps p.tables e below (T16.setTop (mkF m 26 #[.val (.int p1), .val (.int p2), .val (.int p3), .val (.ref b1), .val (.ref b10), .val (.ref pa), .val (.ref pb), .unset, .unset, .unset, .unset] [])) t := by
      intro t kt
      show Steps p.tables e below (T16.setTop (mkF m 26 #[.val (.int p1), .val (.int p2), .val (.int p3), .val (.ref b1), .val (.ref b10), .val (.ref pa), .val (.ref pb), .unset, .unset, .unset, .unset] [])) _
      refine XS.iloadN X16.here hx rfl (hb hby at_26) rfl ?_
      show Steps p.tables e below (T16.setTop (mkF m 27 #[.val (.int p1), .val (.int p2), .val (.int p3), .val (.ref b1), .val (.ref b10), .val (.ref pa), .val (.ref pb), .unset, .unset, .unset, .unset] [(.int p3)])) _
      refine XS.iconst X16.here hx rfl (hb hby at_27) ?_
      show Steps p.tables e below (T16.setTop (mkF m 28 #[.val (.int p1), .val (.int p2), .val (.int p3), .val (.ref b1), .val (.ref b10), .val (.ref pa), .val (.ref pb), .unset, .unset, .unset, .unset] [(.int (1 : Int32)), (.int p3)])) _
      refine XS.iand X16.here hx rfl (hb hby at_28) rfl ?_
      show Steps p.tables e below (T16.setTop (mkF m 29 #[.val (.int p1), .val (.int p2), .val (.int p3), .val (.ref b1), .val (.ref b10), .val (.ref pa), .val (.ref pb), .unset, .unset, .unset, .unset] [(.int (p3 &&& (1 : Int32)))])) _
      refine XS.ifYes X16.here hx rfl (pc0 := 29) (pc' := 36) rfl (hb hby at_29) rfl ((if0 _ _).trans (teq (hf : (p3 &&& (1 : Int32)) = (0 : Int32))).1) (by decide) (by decide) ?_
      show Steps p.tables e below (T16.setTop (mkF m 36 #[.val (.int p1), .val (.int p2), .val (.int p3), .val (.ref b1), .val (.ref b10), .val (.ref pa), .val (.ref pb), .unset, .unset, .unset, .unset] [])) _
      refine XS.iconst X16.here hx rfl (hb hby at_36) ?_
      show Steps p.tables e below (T16.setTop (mkF m 37 #[.val (.int p1), .val (.int p2), .val (.int p3), .val (.ref b1), .val (.ref b10), .val (.ref pa), .val (.ref pb), .unset, .unset, .unset, .unset] [(.int (0 : Int32))])) _
      refine XS.istore X16.here hx rfl (hb hby at_37) rfl (l' := #[.val (.int p1), .val (.int p2), .val (.int p3), .val (.ref b1), .val (.ref b10), .val (.ref pa), .val (.ref pb), .val (.int (0 : Int32)), .unset, .unset, .unset]) rfl ?_
      show Steps p.tables e below (T16.setTop (mkF m 39 #[.val (.int p1), .val (.int p2), .val (.int p3), .val (.ref b1), .val (.ref b10), .val (.ref pa), .val (.ref pb), .val (.int (0 : Int32)), .unset, .unset, .unset] [])) _
      refine XS.aloadN X16.here hx rfl (hb hby at_39) rfl rfl ?_
      show Steps p.tables e below (T16.setTop (mkF m 40 #[.val (.int p1), .val (.int p2), .val (.int p3), .val (.ref b1), .val (.ref b10), .val (.ref pa), .val (.ref pb), .val (.int (0 : Int32)), .unset, .unset, .unset] [(.ref b1)])) _
      refine XS.aload X16.here hx rfl (hb hby at_40) rfl rfl ?_
      exact kt
    refine GoW.adv sg23 ?_
    obtain ⟨cq24, kq24, q24a, q24b, q24c⟩ := isOf hZ10 e16 p10_0
    obtain ⟨_, _, ⟨T24, L24, k24, n24⟩, -, Xr24, hSr24, hG24, ⟨Lc24, hQ24, l24, y24, z24⟩, st24⟩ := X16.virtualBackS hx (y := (⟨"com/example/chitragupta/chitragupta/JobOptions", "priority", "(Lcom/example/chitragupta/chitragupta/Priority;)Lcom/example/chitragupta/chitragupta/JobOptions;"⟩ : MethodName)) (z := (⟨"com/example/chitragupta/chitragupta/JobOptions", "priority", "(Lcom/example/chitragupta/chitragupta/Priority;)Lcom/example/chitragupta/chitragupta/JobOptions;"⟩ : MethodName)) hown10 (mvT hZ10 (hw _ (List.mem_of_getElem? (i := 120) rfl))) (mvT hZ10 (hw _ (List.mem_of_getElem? (i := 121) rfl))) (notFace_of_selects (args := #[]) (mvT hZ10 (hw _ (List.mem_of_getElem? (i := 123) rfl)))) (mvT hZ10 (hw _ (List.mem_of_getElem? (i := 123) rfl))) (mvT hZ10 (hw _ (List.mem_of_getElem? (i := 122) rfl))) (by decide) (backOfS (W := 0) (rm_setP l Z a0 hw [] b1 pa (.ref no) (.int (3 : Int32)) (.ref b10) (.null) T10.heap n0 Z10 p10_0 g_b1 E_pa p10_1 p10_2 p10_3 p10_4) hZ10 (hw _ (List.mem_of_getElem? (i := 124) rfl)) (hw _ (List.mem_of_getElem? (i := 2) rfl)) (by decide) (by decide)) q24a q24c (g := (mkF m 42 #[.val (.int p1), .val (.int p2), .val (.int p3), .val (.ref b1), .val (.ref b10), .val (.ref pa), .val (.ref pb), .val (.int (0 : Int32)), .unset, .unset, .unset] [(.ref pa), (.ref b1)])) rfl (by rw [hml]; rfl) (Steps.refl _) (argsL := [(.ref pa)]) (rest := []) (lenOf pd_oLcomsexampleschitraguptaschitraguptasPriorityecLcomsexampleschitraguptaschitraguptasJobOptionse rfl) rfl (by show 2 * 0 + _ ≤ _; exact Nat.le_of_eq rfl) (hb hby at_42) (fun _ _ => ⟨rfl, e16, (by decide : 8 + 2 ≤ _), (by decide : 125 + 36 ≤ _)⟩)
    dsimp only [Pt.U, Pt.locs, Pt.cells, Pt.slots] at Xr24 l24 y24 z24 st24 hQ24 hSr24 hG24
    subst l24 y24 z24
    have X24 : Stand p l e _ (s.setVm T24.vm) m _ below meth c T24 _ _ _ := Xr24
    have hS24 : s.Since T24.vm T24.heap.size := State.Since.trans hS10 hSr24 (Nat.le_trans (Nat.le_refl _) (by rw [← e16]; exact hG24))
    have hZ24 : Z.Warmed39 (s.setVm T24.vm).vm := State.Warmed39.trans (t := s.setVm T10.vm) hZ10 hSr24.1
    have hown24 : (s.setVm T24.vm).vm.findClass "com/example/chitragupta/chitragupta/JobOptionsPriorityPinLaw" = some m.cls := by rw [show (s.setVm T24.vm).vm = T24.vm from rfl, hSr24.1.alike.findClass]; exact hown10
    obtain ⟨rfl, N24q, Kc24, p24_0, p24_1, p24_2, p24_3, p24_4⟩ := hQ24
    have N24 := Fr.app N16 N24q
    have s24_LOWEST := own_staKeep s10_LOWEST Kc24 p10_0
    have s24_LOW := own_staKeep s10_LOW Kc24 p10_0
    have s24_NORMAL := own_staKeep s10_NORMAL Kc24 p10_0
    have s24_HIGH := own_staKeep s10_HIGH Kc24 p10_0
    have s24_CRITICAL := own_staKeep s10_CRITICAL Kc24 p10_0
    have s24_LONGEST_DURATION := own_staKeep s10_LONGEST_DURATION Kc24 p10_0
    have K24 : Keep h0 T24.heap [] := K10.trans Kc24 (allS (Or.inr sz_b1) all0)
    have Z24 : n0 ≤ T24.heap.size := Nat.le_trans Z10 Kc24.1
    refine GoW.tr st24 ?_
    show GoW p.tables e below s _ _ _ (T24.setTop (mkF m 45 #[.val (.int p1), .val (.int p2), .val (.int p3), .val (.ref b1), .val (.ref b10), .val (.ref pa), .val (.ref pb), .val (.int (0 : Int32)), .unset, .unset, .unset] [(.ref b1)]))
    have sg25 : ∀ t, Steps p.tables e below (T24.setTop (mkF m 56 #[.val (.int p1), .val (.int p2), .val (.int p3), .val (.ref b1), .val (.ref b10), .val (.ref pa), .val (.ref pb), .val (.int (0 : Int32)), .val (.ref b1), .unset, .unset] [(.ref b1)])) t → Steps p.tables e below (T24.setTop (mkF m 45 #[.val (.int p1), .val (.int p2), .val (.int p3), .val (.ref b1), .val (.ref b10), .val (.ref pa), .val (.ref pb), .val (.int (0 : Int32)), .unset, .unset, .unset] [(.ref b1)])) t := by
      intro t kt
      show Steps p.tables e below (T24.setTop (mkF m 45 #[.val (.int p1), .val (.int p2), .val (.int p3), .val (.ref b1), .val (.ref b10), .val (.ref pa), .val (.ref pb), .val (.int (0 : Int32)), .unset, .unset, .unset] [(.ref b1)])) _
      refine XS.astore X24.here hx rfl (hb hby at_45) rfl rfl (l' := #[.val (.int p1), .val (.int p2), .val (.int p3), .val (.ref b1), .val (.ref b10), .val (.ref pa), .val (.ref pb), .val (.int (0 : Int32)), .val (.ref b1), .unset, .unset]) rfl ?_
      show Steps p.tables e below (T24.setTop (mkF m 47 #[.val (.int p1), .val (.int p2), .val (.int p3), .val (.ref b1), .val (.ref b10), .val (.ref pa), .val (.ref pb), .val (.int (0 : Int32)), .val (.ref b1), .unset, .unset] [])) _
      refine XS.aload X24.here hx rfl (hb hby at_47) rfl rfl ?_
      show Steps p.tables e below (T24.setTop (mkF m 49 #[.val (.int p1), .val (.int p2), .val (.int p3), .val (.ref b1), .val (.ref b10), .val (.ref pa), .val (.ref pb), .val (.int (0 : Int32)), .val (.ref b1), .unset, .unset] [(.ref b1)])) _
      refine XS.aloadN X24.here hx rfl (hb hby at_49) rfl rfl ?_
      show Steps p.tables e below (T24.setTop (mkF m 50 #[.val (.int p1), .val (.int p2), .val (.int p3), .val (.ref b1), .val (.ref b10), .val (.ref pa), .val (.ref pb), .val (.int (0 : Int32)), .val (.ref b1), .unset, .unset] [(.ref b1), (.ref b1)])) _
      refine Jvm.RoadKit.acmp (g := (mkF m 50 #[.val (.int p1), .val (.int p2), .val (.int p3), .val (.ref b1), .val (.ref b10), .val (.ref pa), .val (.ref pb), .val (.int (0 : Int32)), .val (.ref b1), .unset, .unset] [(.ref b1), (.ref b1)])) X24 hx rfl rfl rfl (pc0 := 50) (pc' := 55) (same := true) rfl (hb hby at_50) rfl (decide_eq_true rfl) (by decide) (by decide) ?_
      show Steps p.tables e below (T24.setTop (mkF m 55 #[.val (.int p1), .val (.int p2), .val (.int p3), .val (.ref b1), .val (.ref b10), .val (.ref pa), .val (.ref pb), .val (.int (0 : Int32)), .val (.ref b1), .unset, .unset] [])) _
      refine XS.aloadN X24.here hx rfl (hb hby at_55) rfl rfl ?_
      exact kt
    refine GoW.adv sg25 ?_
    obtain ⟨cq26, kq26, q26a, q26b, q26c⟩ := isOf hZ24 rfl p24_0
    obtain ⟨_, _, ⟨T26, L26, k26, n26⟩, -, X26, ⟨Lc26, hQ26, l26, y26, z26⟩, st26⟩ := X24.virtualBack hx (y := (⟨"com/example/chitragupta/chitragupta/JobOptions", "priority", "()Lcom/example/chitragupta/chitragupta/Priority;"⟩ : MethodName)) (z := (⟨"com/example/chitragupta/chitragupta/JobOptions", "priority", "()Lcom/example/chitragupta/chitragupta/Priority;"⟩ : MethodName)) hown24 (mvT hZ24 (hw _ (List.mem_of_getElem? (i := 129) rfl))) (mvT hZ24 (hw _ (List.mem_of_getElem? (i := 130) rfl))) (notFace_of_selects (args := #[]) (mvT hZ24 (hw _ (List.mem_of_getElem? (i := 132) rfl)))) (mvT hZ24 (hw _ (List.mem_of_getElem? (i := 132) rfl))) (mvT hZ24 (hw _ (List.mem_of_getElem? (i := 131) rfl))) (by decide) (backOf (W := 0) (rm_getP l Z a0 hw [] b1 pa T24.heap n0 Z24 p24_1) hZ24 (hw _ (List.mem_of_getElem? (i := 133) rfl)) (hw _ (List.mem_of_getElem? (i := 2) rfl)) (by decide) (by decide)) q26a q26c (g := (mkF m 56 #[.val (.int p1), .val (.int p2), .val (.int p3), .val (.ref b1), .val (.ref b10), .val (.ref pa), .val (.ref pb), .val (.int (0 : Int32)), .val (.ref b1), .unset, .unset] [(.ref b1)])) rfl (by rw [hml]; rfl) (Steps.refl _) (argsL := []) (rest := []) (lenOf pd_ocLcomsexampleschitraguptaschitraguptasPrioritye rfl) rfl (by show 2 * 0 + _ ≤ _; exact Nat.le_of_eq rfl) (hb hby at_56) (fun _ _ => ⟨rfl, rfl, (by decide : 10 + 0 ≤ _), (by decide : 161 + 0 ≤ _)⟩)
    dsimp only [Pt.U, Pt.locs, Pt.cells, Pt.slots] at X26 l26 y26 z26 st26 hQ26
    subst l26 y26 z26
    obtain ⟨rfl, N26q, e26⟩ := hQ26
    have N26 := Fr.app N24 N26q
    refine GoW.tr st26 ?_
    show GoW p.tables e below s _ _ _ (T26.setTop (mkF m 59 #[.val (.int p1), .val (.int p2), .val (.int p3), .val (.ref b1), .val (.ref b10), .val (.ref pa), .val (.ref pb), .val (.int (0 : Int32)), .val (.ref b1), .unset, .unset] [(.ref pa)]))
    have sg27 : ∀ t, Steps p.tables e below (T26.setTop (mkF m 96 #[.val (.int p1), .val (.int p2), .val (.int p3), .val (.ref b1), .val (.ref b10), .val (.ref pa), .val (.ref pb), .val (.int (0 : Int32)), .val (.ref b1), .val (.ref pa), .unset] [(.ref b1)])) t → Steps p.tables e below (T26.setTop (mkF m 59 #[.val (.int p1), .val (.int p2), .val (.int p3), .val (.ref b1), .val (.ref b10), .val (.ref pa), .val (.ref pb), .val (.int (0 : Int32)), .val (.ref b1), .unset, .unset] [(.ref pa)])) t := by
      intro t kt
      show Steps p.tables e below (T26.setTop (mkF m 59 #[.val (.int p1), .val (.int p2), .val (.int p3), .val (.ref b1), .val (.ref b10), .val (.ref pa), .val (.ref pb), .val (.int (0 : Int32)), .val (.ref b1), .unset, .unset] [(.ref pa)])) _
      refine XS.aload X26.here hx rfl (hb hby at_59) rfl rfl ?_
      show Steps p.tables e below (T26.setTop (mkF m 61 #[.val (.int p1), .val (.int p2), .val (.int p3), .val (.ref b1), .val (.ref b10), .val (.ref pa), .val (.ref pb), .val (.int (0 : Int32)), .val (.ref b1), .unset, .unset] [(.ref pa), (.ref pa)])) _
      refine Jvm.RoadKit.acmp (g := (mkF m 61 #[.val (.int p1), .val (.int p2), .val (.int p3), .val (.ref b1), .val (.ref b10), .val (.ref pa), .val (.ref pb), .val (.int (0 : Int32)), .val (.ref b1), .unset, .unset] [(.ref pa), (.ref pa)])) X26 hx rfl rfl rfl (pc0 := 61) (pc' := 66) (same := true) rfl (hb hby at_61) rfl (decide_eq_true rfl) (by decide) (by decide) ?_
      show Steps p.tables e below (T26.setTop (mkF m 66 #[.val (.int p1), .val (.int p2), .val (.int p3), .val (.ref b1), .val (.ref b10), .val (.ref pa), .val (.ref pb), .val (.int (0 : Int32)), .val (.ref b1), .unset, .unset] [])) _
      refine XS.aload X26.here hx rfl (hb hby at_66) rfl rfl ?_
      show Steps p.tables e below (T26.setTop (mkF m 68 #[.val (.int p1), .val (.int p2), .val (.int p3), .val (.ref b1), .val (.ref b10), .val (.ref pa), .val (.ref pb), .val (.int (0 : Int32)), .val (.ref b1), .unset, .unset] [(.ref pa)])) _
      refine XS.astore X26.here hx rfl (hb hby at_68) rfl rfl (l' := #[.val (.int p1), .val (.int p2), .val (.int p3), .val (.ref b1), .val (.ref b10), .val (.ref pa), .val (.ref pb), .val (.int (0 : Int32)), .val (.ref b1), .val (.ref pa), .unset]) rfl ?_
      show Steps p.tables e below (T26.setTop (mkF m 70 #[.val (.int p1), .val (.int p2), .val (.int p3), .val (.ref b1), .val (.ref b10), .val (.ref pa), .val (.ref pb), .val (.int (0 : Int32)), .val (.ref b1), .val (.ref pa), .unset] [])) _
      refine XS.iload X26.here hx rfl (hb hby at_70) rfl ?_
      show Steps p.tables e below (T26.setTop (mkF m 72 #[.val (.int p1), .val (.int p2), .val (.int p3), .val (.ref b1), .val (.ref b10), .val (.ref pa), .val (.ref pb), .val (.int (0 : Int32)), .val (.ref b1), .val (.ref pa), .unset] [(.int (0 : Int32))])) _
      refine XS.ifYes X26.here hx rfl (pc0 := 72) (pc' := 95) rfl (hb hby at_72) rfl ((if0 _ _).trans (teq (by decide : (0 : Int32) = (0 : Int32))).1) (by decide) (by decide) ?_
      show Steps p.tables e below (T26.setTop (mkF m 95 #[.val (.int p1), .val (.int p2), .val (.int p3), .val (.ref b1), .val (.ref b10), .val (.ref pa), .val (.ref pb), .val (.int (0 : Int32)), .val (.ref b1), .val (.ref pa), .unset] [])) _
      refine XS.aloadN X26.here hx rfl (hb hby at_95) rfl rfl ?_
      exact kt
    refine GoW.adv sg27 ?_
    obtain ⟨cq28, kq28, q28a, q28b, q28c⟩ := isOf hZ24 e26 p24_0
    obtain ⟨_, _, ⟨T28, L28, k28, n28⟩, -, X28, ⟨Lc28, hQ28, l28, y28, z28⟩, st28⟩ := X26.virtualBack hx (y := (⟨"com/example/chitragupta/chitragupta/JobOptions", "priority", "()Lcom/example/chitragupta/chitragupta/Priority;"⟩ : MethodName)) (z := (⟨"com/example/chitragupta/chitragupta/JobOptions", "priority", "()Lcom/example/chitragupta/chitragupta/Priority;"⟩ : MethodName)) hown24 (mvT hZ24 (hw _ (List.mem_of_getElem? (i := 129) rfl))) (mvT hZ24 (hw _ (List.mem_of_getElem? (i := 130) rfl))) (notFace_of_selects (args := #[]) (mvT hZ24 (hw _ (List.mem_of_getElem? (i := 132) rfl)))) (mvT hZ24 (hw _ (List.mem_of_getElem? (i := 132) rfl))) (mvT hZ24 (hw _ (List.mem_of_getElem? (i := 131) rfl))) (by decide) (backOf (W := 0) (rm_getP l Z a0 hw [] b1 pa T24.heap n0 Z24 p24_1) hZ24 (hw _ (List.mem_of_getElem? (i := 133) rfl)) (hw _ (List.mem_of_getElem? (i := 2) rfl)) (by decide) (by decide)) q28a q28c (g := (mkF m 96 #[.val (.int p1), .val (.int p2), .val (.int p3), .val (.ref b1), .val (.ref b10), .val (.ref pa), .val (.ref pb), .val (.int (0 : Int32)), .val (.ref b1), .val (.ref pa), .unset] [(.ref b1)])) rfl (by rw [hml]; rfl) (Steps.refl _) (argsL := []) (rest := []) (lenOf pd_ocLcomsexampleschitraguptaschitraguptasPrioritye rfl) rfl (by show 2 * 0 + _ ≤ _; exact Nat.le_of_eq rfl) (hb hby at_96) (fun _ _ => ⟨rfl, e26, (by decide : 10 + 0 ≤ _), (by decide : 161 + 0 ≤ _)⟩)
    dsimp only [Pt.U, Pt.locs, Pt.cells, Pt.slots] at X28 l28 y28 z28 st28 hQ28
    subst l28 y28 z28
    obtain ⟨rfl, N28q, e28⟩ := hQ28
    have N28 := Fr.app N26 N28q
    refine GoW.tr st28 ?_
    show GoW p.tables e below s _ _ _ (T28.setTop (mkF m 99 #[.val (.int p1), .val (.int p2), .val (.int p3), .val (.ref b1), .val (.ref b10), .val (.ref pa), .val (.ref pb), .val (.int (0 : Int32)), .val (.ref b1), .val (.ref pa), .unset] [(.ref pa)]))
    have sg29 : ∀ t, Steps p.tables e below (T28.setTop (mkF m 107 #[.val (.int p1), .val (.int p2), .val (.int p3), .val (.ref b1), .val (.ref b10), .val (.ref pa), .val (.ref pb), .val (.int (0 : Int32)), .val (.ref b1), .val (.ref pa), .unset] [(.ref b1)])) t → Steps p.tables e below (T28.setTop (mkF m 99 #[.val (.int p1), .val (.int p2), .val (.int p3), .val (.ref b1), .val (.ref b10), .val (.ref pa), .val (.ref pb), .val (.int (0 : Int32)), .val (.ref b1), .val (.ref pa), .unset] [(.ref pa)])) t := by
      intro t kt
      show Steps p.tables e below (T28.setTop (mkF m 99 #[.val (.int p1), .val (.int p2), .val (.int p3), .val (.ref b1), .val (.ref b10), .val (.ref pa), .val (.ref pb), .val (.int (0 : Int32)), .val (.ref b1), .val (.ref pa), .unset] [(.ref pa)])) _
      refine XS.aload X28.here hx rfl (hb hby at_99) rfl rfl ?_
      show Steps p.tables e below (T28.setTop (mkF m 101 #[.val (.int p1), .val (.int p2), .val (.int p3), .val (.ref b1), .val (.ref b10), .val (.ref pa), .val (.ref pb), .val (.int (0 : Int32)), .val (.ref b1), .val (.ref pa), .unset] [(.ref pa), (.ref pa)])) _
      refine Jvm.RoadKit.acmp (g := (mkF m 101 #[.val (.int p1), .val (.int p2), .val (.int p3), .val (.ref b1), .val (.ref b10), .val (.ref pa), .val (.ref pb), .val (.int (0 : Int32)), .val (.ref b1), .val (.ref pa), .unset] [(.ref pa), (.ref pa)])) X28 hx rfl rfl rfl (pc0 := 101) (pc' := 106) (same := true) rfl (hb hby at_101) rfl (decide_eq_true rfl) (by decide) (by decide) ?_
      show Steps p.tables e below (T28.setTop (mkF m 106 #[.val (.int p1), .val (.int p2), .val (.int p3), .val (.ref b1), .val (.ref b10), .val (.ref pa), .val (.ref pb), .val (.int (0 : Int32)), .val (.ref b1), .val (.ref pa), .unset] [])) _
      refine XS.aloadN X28.here hx rfl (hb hby at_106) rfl rfl ?_
      exact kt
    refine GoW.adv sg29 ?_
    obtain ⟨cq30, kq30, q30a, q30b, q30c⟩ := isOf hZ24 e28 p24_0
    obtain ⟨_, _, ⟨T30, L30, k30, n30⟩, -, X30, ⟨Lc30, hQ30, l30, y30, z30⟩, st30⟩ := X28.virtualBack hx (y := (⟨"com/example/chitragupta/chitragupta/JobOptions", "maxAttempts", "()I"⟩ : MethodName)) (z := (⟨"com/example/chitragupta/chitragupta/JobOptions", "maxAttempts", "()I"⟩ : MethodName)) hown24 (mvT hZ24 (hw _ (List.mem_of_getElem? (i := 134) rfl))) (mvT hZ24 (hw _ (List.mem_of_getElem? (i := 135) rfl))) (notFace_of_selects (args := #[]) (mvT hZ24 (hw _ (List.mem_of_getElem? (i := 137) rfl)))) (mvT hZ24 (hw _ (List.mem_of_getElem? (i := 137) rfl))) (mvT hZ24 (hw _ (List.mem_of_getElem? (i := 136) rfl))) (by decide) (backOf (W := 0) (rm_getM l Z a0 hw [] b1 (3 : Int32) T24.heap n0 Z24 p24_2) hZ24 (hw _ (List.mem_of_getElem? (i := 138) rfl)) (hw _ (List.mem_of_getElem? (i := 2) rfl)) (by decide) (by decide)) q30a q30c (g := (mkF m 107 #[.val (.int p1), .val (.int p2), .val (.int p3), .val (.ref b1), .val (.ref b10), .val (.ref pa), .val (.ref pb), .val (.int (0 : Int32)), .val (.ref b1), .val (.ref pa), .unset] [(.ref b1)])) rfl (by rw [hml]; rfl) (Steps.refl _) (argsL := []) (rest := []) (lenOf pd_ocI rfl) rfl (by show 2 * 0 + _ ≤ _; exact Nat.le_of_eq rfl) (hb hby at_107) (fun _ _ => ⟨rfl, e28, (by decide : 10 + 0 ≤ _), (by decide : 161 + 0 ≤ _)⟩)
    dsimp only [Pt.U, Pt.locs, Pt.cells, Pt.slots] at X30 l30 y30 z30 st30 hQ30
    subst l30 y30 z30
    obtain ⟨rfl, N30q, e30⟩ := hQ30
    have N30 := Fr.app N28 N30q
    refine GoW.tr st30 ?_
    show GoW p.tables e below s _ _ _ (T30.setTop (mkF m 110 #[.val (.int p1), .val (.int p2), .val (.int p3), .val (.ref b1), .val (.ref b10), .val (.ref pa), .val (.ref pb), .val (.int (0 : Int32)), .val (.ref b1), .val (.ref pa), .unset] [(.int (3 : Int32))]))
    have sg31 : ∀ t, Steps p.tables e below (T30.setTop (mkF m 117 #[.val (.int p1), .val (.int p2), .val (.int p3), .val (.ref b1), .val (.ref b10), .val (.ref pa), .val (.ref pb), .val (.int (0 : Int32)), .val (.ref b1), .val (.ref pa), .unset] [(.ref b1)])) t → Steps p.tables e below (T30.setTop (mkF m 110 #[.val (.int p1), .val (.int p2), .val (.int p3), .val (.ref b1), .val (.ref b10), .val (.ref pa), .val (.ref pb), .val (.int (0 : Int32)), .val (.ref b1), .val (.ref pa), .unset] [(.int (3 : Int32))])) t := by
      intro t kt
      show Steps p.tables e below (T30.setTop (mkF m 110 #[.val (.int p1), .val (.int p2), .val (.int p3), .val (.ref b1), .val (.ref b10), .val (.ref pa), .val (.ref pb), .val (.int (0 : Int32)), .val (.ref b1), .val (.ref pa), .unset] [(.int (3 : Int32))])) _
      refine XS.iconst X30.here hx rfl (hb hby at_110) ?_
      show Steps p.tables e below (T30.setTop (mkF m 111 #[.val (.int p1), .val (.int p2), .val (.int p3), .val (.ref b1), .val (.ref b10), .val (.ref pa), .val (.ref pb), .val (.int (0 : Int32)), .val (.ref b1), .val (.ref pa), .unset] [(.int (3 : Int32)), (.int (3 : Int32))])) _
      refine XS.icmpYes X30.here hx rfl (pc0 := 111) (pc' := 116) rfl (hb hby at_111) rfl (teq (by decide : (3 : Int32) = (3 : Int32))).1 (by decide) (by decide) ?_
      show Steps p.tables e below (T30.setTop (mkF m 116 #[.val (.int p1), .val (.int p2), .val (.int p3), .val (.ref b1), .val (.ref b10), .val (.ref pa), .val (.ref pb), .val (.int (0 : Int32)), .val (.ref b1), .val (.ref pa), .unset] [])) _
      refine XS.aloadN X30.here hx rfl (hb hby at_116) rfl rfl ?_
      exact kt
    refine GoW.adv sg31 ?_
    obtain ⟨cq32, kq32, q32a, q32b, q32c⟩ := isOf hZ24 e30 p24_0
    obtain ⟨_, _, ⟨T32, L32, k32, n32⟩, -, X32, ⟨Lc32, hQ32, l32, y32, z32⟩, st32⟩ := X30.virtualBack hx (y := (⟨"com/example/chitragupta/chitragupta/JobOptions", "backoff", "()Lcom/example/chitragupta/chitragupta/Backoff;"⟩ : MethodName)) (z := (⟨"com/example/chitragupta/chitragupta/JobOptions", "backoff", "()Lcom/example/chitragupta/chitragupta/Backoff;"⟩ : MethodName)) hown24 (mvT hZ24 (hw _ (List.mem_of_getElem? (i := 106) rfl))) (mvT hZ24 (hw _ (List.mem_of_getElem? (i := 107) rfl))) (notFace_of_selects (args := #[]) (mvT hZ24 (hw _ (List.mem_of_getElem? (i := 109) rfl)))) (mvT hZ24 (hw _ (List.mem_of_getElem? (i := 109) rfl))) (mvT hZ24 (hw _ (List.mem_of_getElem? (i := 108) rfl))) (by decide) (backOf (W := 0) (rm_getB l Z a0 hw [] b1 b10 T24.heap n0 Z24 p24_3) hZ24 (hw _ (List.mem_of_getElem? (i := 110) rfl)) (hw _ (List.mem_of_getElem? (i := 2) rfl)) (by decide) (by decide)) q32a q32c (g := (mkF m 117 #[.val (.int p1), .val (.int p2), .val (.int p3), .val (.ref b1), .val (.ref b10), .val (.ref pa), .val (.ref pb), .val (.int (0 : Int32)), .val (.ref b1), .val (.ref pa), .unset] [(.ref b1)])) rfl (by rw [hml]; rfl) (Steps.refl _) (argsL := []) (rest := []) (lenOf pd_ocLcomsexampleschitraguptaschitraguptasBackoffe rfl) rfl (by show 2 * 0 + _ ≤ _; exact Nat.le_of_eq rfl) (hb hby at_117) (fun _ _ => ⟨rfl, e30, (by decide : 10 + 0 ≤ _), (by decide : 161 + 0 ≤ _)⟩)
    dsimp only [Pt.U, Pt.locs, Pt.cells, Pt.slots] at X32 l32 y32 z32 st32 hQ32
    subst l32 y32 z32
    obtain ⟨rfl, N32q, e32⟩ := hQ32
    have N32 := Fr.app N30 N32q
    refine GoW.tr st32 ?_
    show GoW p.tables e below s _ _ _ (T32.setTop (mkF m 120 #[.val (.int p1), .val (.int p2), .val (.int p3), .val (.ref b1), .val (.ref b10), .val (.ref pa), .val (.ref pb), .val (.int (0 : Int32)), .val (.ref b1), .val (.ref pa), .unset] [(.ref b10)]))
    have sg33 : ∀ t, Steps p.tables e below (T32.setTop (mkF m 128 #[.val (.int p1), .val (.int p2), .val (.int p3), .val (.ref b1), .val (.ref b10), .val (.ref pa), .val (.ref pb), .val (.int (0 : Int32)), .val (.ref b1), .val (.ref pa), .unset] [(.ref b1)])) t → Steps p.tables e below (T32.setTop (mkF m 120 #[.val (.int p1), .val (.int p2), .val (.int p3), .val (.ref b1), .val (.ref b10), .val (.ref pa), .val (.ref pb), .val (.int (0 : Int32)), .val (.ref b1), .val (.ref pa), .unset] [(.ref b10)])) t := by
      intro t kt
      show Steps p.tables e below (T32.setTop (mkF m 120 #[.val (.int p1), .val (.int p2), .val (.int p3), .val (.ref b1), .val (.ref b10), .val (.ref pa), .val (.ref pb), .val (.int (0 : Int32)), .val (.ref b1), .val (.ref pa), .unset] [(.ref b10)])) _
      refine XS.aload X32.here hx rfl (hb hby at_120) rfl rfl ?_
      show Steps p.tables e below (T32.setTop (mkF m 122 #[.val (.int p1), .val (.int p2), .val (.int p3), .val (.ref b1), .val (.ref b10), .val (.ref pa), .val (.ref pb), .val (.int (0 : Int32)), .val (.ref b1), .val (.ref pa), .unset] [(.ref b10), (.ref b10)])) _
      refine Jvm.RoadKit.acmp (g := (mkF m 122 #[.val (.int p1), .val (.int p2), .val (.int p3), .val (.ref b1), .val (.ref b10), .val (.ref pa), .val (.ref pb), .val (.int (0 : Int32)), .val (.ref b1), .val (.ref pa), .unset] [(.ref b10), (.ref b10)])) X32 hx rfl rfl rfl (pc0 := 122) (pc' := 127) (same := true) rfl (hb hby at_122) rfl (decide_eq_true rfl) (by decide) (by decide) ?_
      show Steps p.tables e below (T32.setTop (mkF m 127 #[.val (.int p1), .val (.int p2), .val (.int p3), .val (.ref b1), .val (.ref b10), .val (.ref pa), .val (.ref pb), .val (.int (0 : Int32)), .val (.ref b1), .val (.ref pa), .unset] [])) _
      refine XS.aloadN X32.here hx rfl (hb hby at_127) rfl rfl ?_
      exact kt
    refine GoW.adv sg33 ?_
    obtain ⟨cq34, kq34, q34a, q34b, q34c⟩ := isOf hZ24 e32 p24_0
    obtain ⟨_, _, ⟨T34, L34, k34, n34⟩, -, X34, ⟨Lc34, hQ34, l34, y34, z34⟩, st34⟩ := X32.virtualBack hx (y := (⟨"com/example/chitragupta/chitragupta/JobOptions", "runAt", "()Ljava/time/Instant;"⟩ : MethodName)) (z := (⟨"com/example/chitragupta/chitragupta/JobOptions", "runAt", "()Ljava/time/Instant;"⟩ : MethodName)) hown24 (mvT hZ24 (hw _ (List.mem_of_getElem? (i := 139) rfl))) (mvT hZ24 (hw _ (List.mem_of_getElem? (i := 140) rfl))) (notFace_of_selects (args := #[]) (mvT hZ24 (hw _ (List.mem_of_getElem? (i := 142) rfl)))) (mvT hZ24 (hw _ (List.mem_of_getElem? (i := 142) rfl))) (mvT hZ24 (hw _ (List.mem_of_getElem? (i := 141) rfl))) (by decide) (backOf (W := 0) (rm_getR l Z a0 hw [] b1  T24.heap n0 Z24 p24_4) hZ24 (hw _ (List.mem_of_getElem? (i := 143) rfl)) (hw _ (List.mem_of_getElem? (i := 2) rfl)) (by decide) (by decide)) q34a q34c (g := (mkF m 128 #[.val (.int p1), .val (.int p2), .val (.int p3), .val (.ref b1), .val (.ref b10), .val (.ref pa), .val (.ref pb), .val (.int (0 : Int32)), .val (.ref b1), .val (.ref pa), .unset] [(.ref b1)])) rfl (by rw [hml]; rfl) (Steps.refl _) (argsL := []) (rest := []) (lenOf pd_ocLjavastimesInstante rfl) rfl (by show 2 * 0 + _ ≤ _; exact Nat.le_of_eq rfl) (hb hby at_128) (fun _ _ => ⟨rfl, e32, (by decide : 10 + 0 ≤ _), (by decide : 161 + 0 ≤ _)⟩)
    dsimp only [Pt.U, Pt.locs, Pt.cells, Pt.slots] at X34 l34 y34 z34 st34 hQ34
    subst l34 y34 z34
    obtain ⟨rfl, N34q, e34⟩ := hQ34
    have N34 := Fr.app N32 N34q
    refine GoW.tr st34 ?_
    show GoW p.tables e below s _ _ _ (T34.setTop (mkF m 131 #[.val (.int p1), .val (.int p2), .val (.int p3), .val (.ref b1), .val (.ref b10), .val (.ref pa), .val (.ref pb), .val (.int (0 : Int32)), .val (.ref b1), .val (.ref pa), .unset] [.null]))
    have sg35 : ∀ t, Steps p.tables e below (T34.setTop (mkF m 139 #[.val (.int p1), .val (.int p2), .val (.int p3), .val (.ref b1), .val (.ref b10), .val (.ref pa), .val (.ref pb), .val (.int (0 : Int32)), .val (.ref b1), .val (.ref pa), .unset] [(.int (1 : Int32))])) t → Steps p.tables e below (T34.setTop (mkF m 131 #[.val (.int p1), .val (.int p2), .val (.int p3), .val (.ref b1), .val (.ref b10), .val (.ref pa), .val (.ref pb), .val (.int (0 : Int32)), .val (.ref b1), .val (.ref pa), .unset] [.null])) t := by
      intro t kt
      show Steps p.tables e below (T34.setTop (mkF m 131 #[.val (.int p1), .val (.int p2), .val (.int p3), .val (.ref b1), .val (.ref b10), .val (.ref pa), .val (.ref pb), .val (.int (0 : Int32)), .val (.ref b1), .val (.ref pa), .unset] [.null])) _
      refine XS.ifnonnullNo X34.here hx rfl (hb hby at_131) rfl ?_
      show Steps p.tables e below (T34.setTop (mkF m 134 #[.val (.int p1), .val (.int p2), .val (.int p3), .val (.ref b1), .val (.ref b10), .val (.ref pa), .val (.ref pb), .val (.int (0 : Int32)), .val (.ref b1), .val (.ref pa), .unset] [])) _
      refine XS.iconst X34.here hx rfl (hb hby at_134) ?_
      show Steps p.tables e below (T34.setTop (mkF m 135 #[.val (.int p1), .val (.int p2), .val (.int p3), .val (.ref b1), .val (.ref b10), .val (.ref pa), .val (.ref pb), .val (.int (0 : Int32)), .val (.ref b1), .val (.ref pa), .unset] [(.int (1 : Int32))])) _
      refine XS.goto X34.here hx rfl (pc0 := 135) (pc' := 139) rfl (hb hby at_135) (by decide) (by decide) ?_
      exact kt
    refine GoW.adv sg35 ?_
    refine GoW.ret (v := (some (.int (1 : Int32)))) X34 hS24 (by rw [e34]; exact (Nat.le_refl _)) (fun h => by rw [Bd.returns] at h; cases h) Bd.notSynchronized (fun fs hr => retN X34 hx (t := .boolean) Bd.returns (by simp) (hb hby at_139) hr) ?_ (by decide) (by decide)
    show Q_rm0 Z p1 p2 p3 lo lw no hi cr ld h0 n0 (some (.int (1 : Int32))) T34.heap _
    rw [e34]
    exact ⟨rfl, N34⟩
  · have sg36 : ∀ t, Steps p.tables e below (T16.setTop (mkF m 42 #[.val (.int p1), .val (.int p2), .val (.int p3), .val (.ref b1), .val (.ref b10), .val (.ref pa), .val (.ref pb), .val (.int (1 : Int32)), .unset, .unset, .unset] [(.ref pa), (.ref b1)])) t → Steps p.tables e below (T16.setTop (mkF m 26 #[.val (.int p1), .val (.int p2), .val (.int p3), .val (.ref b1), .val (.ref b10), .val (.ref pa), .val (.ref pb), .unset, .unset, .unset, .unset] [])) t := by
      intro t kt
      show Steps p.tables e below (T16.setTop (mkF m 26 #[.val (.int p1), .val (.int p2), .val (.int p3), .val (.ref b1), .val (.ref b10), .val (.ref pa), .val (.ref pb), .unset, .unset, .unset, .unset] [])) _
      refine XS.iloadN X16.here hx rfl (hb hby at_26) rfl ?_
      show Steps p.tables e below (T16.setTop (mkF m 27 #[.val (.int p1), .val (.int p2), .val (.int p3), .val (.ref b1), .val (.ref b10), .val (.ref pa), .val (.ref pb), .unset, .unset, .unset, .unset] [(.int p3)])) _
      refine XS.iconst X16.here hx rfl (hb hby at_27) ?_
      show Steps p.tables e below (T16.setTop (mkF m 28 #[.val (.int p1), .val (.int p2), .val (.int p3), .val (.ref b1), .val (.ref b10), .val (.ref pa), .val (.ref pb), .unset, .unset, .unset, .unset] [(.int (1 : Int32)), (.int p3)])) _
      refine XS.iand X16.here hx rfl (hb hby at_28) rfl ?_
      show Steps p.tables e below (T16.setTop (mkF m 29 #[.val (.int p1), .val (.int p2), .val (.int p3), .val (.ref b1), .val (.ref b10), .val (.ref pa), .val (.ref pb), .unset, .unset, .unset, .unset] [(.int (p3 &&& (1 : Int32)))])) _
      refine XS.ifNo X16.here hx rfl (hb hby at_29) rfl ((if0 _ _).trans (feq (hf : ¬ ((p3 &&& (1 : Int32)) = (0 : Int32)))).1) ?_
      show Steps p.tables e below (T16.setTop (mkF m 32 #[.val (.int p1), .val (.int p2), .val (.int p3), .val (.ref b1), .val (.ref b10), .val (.ref pa), .val (.ref pb), .unset, .unset, .unset, .unset] [])) _
      refine XS.iconst X16.here hx rfl (hb hby at_32) ?_
      show Steps p.tables e below (T16.setTop (mkF m 33 #[.val (.int p1), .val (.int p2), .val (.int p3), .val (.ref b1), .val (.ref b10), .val (.ref pa), .val (.ref pb), .unset, .unset, .unset, .unset] [(.int (1 : Int32))])) _
      refine XS.goto X16.here hx rfl (pc0 := 33) (pc' := 37) rfl (hb hby at_33) (by decide) (by decide) ?_
      show Steps p.tables e below (T16.setTop (mkF m 37 #[.val (.int p1), .val (.int p2), .val (.int p3), .val (.ref b1), .val (.ref b10), .val (.ref pa), .val (.ref pb), .unset, .unset, .unset, .unset] [(.int (1 : Int32))])) _
      refine XS.istore X16.here hx rfl (hb hby at_37) rfl (l' := #[.val (.int p1), .val (.int p2), .val (.int p3), .val (.ref b1), .val (.ref b10), .val (.ref pa), .val (.ref pb), .val (.int (1 : Int32)), .unset, .unset, .unset]) rfl ?_
      show Steps p.tables e below (T16.setTop (mkF m 39 #[.val (.int p1), .val (.int p2), .val (.int p3), .val (.ref b1), .val (.ref b10), .val (.ref pa), .val (.ref pb), .val (.int (1 : Int32)), .unset, .unset, .unset] [])) _
      refine XS.aloadN X16.here hx rfl (hb hby at_39) rfl rfl ?_
      show Steps p.tables e below (T16.setTop (mkF m 40 #[.val (.int p1), .val (.int p2), .val (.int p3), .val (.ref b1), .val (.ref b10), .val (.ref pa), .val (.ref pb), .val (.int (1 : Int32)), .unset, .unset, .unset] [(.ref b1)])) _
      refine XS.aload X16.here hx rfl (hb hby at_40) rfl rfl ?_
      exact kt
    refine GoW.adv sg36 ?_
    obtain ⟨cq37, kq37, q37a, q37b, q37c⟩ := isOf hZ10 e16 p10_0
    obtain ⟨_, _, ⟨T37, L37, k37, n37⟩, -, Xr37, hSr37, hG37, ⟨Lc37, hQ37, l37, y37, z37⟩, st37⟩ := X16.virtualBackS hx (y := (⟨"com/example/chitragupta/chitragupta/JobOptions", "priority", "(Lcom/example/chitragupta/chitragupta/Priority;)Lcom/example/chitragupta/chitragupta/JobOptions;"⟩ : MethodName)) (z := (⟨"com/example/chitragupta/chitragupta/JobOptions", "priority", "(Lcom/example/chitragupta/chitragupta/Priority;)Lcom/example/chitragupta/chitragupta/JobOptions;"⟩ : MethodName)) hown10 (mvT hZ10 (hw _ (List.mem_of_getElem? (i := 120) rfl))) (mvT hZ10 (hw _ (List.mem_of_getElem? (i := 121) rfl))) (notFace_of_selects (args := #[]) (mvT hZ10 (hw _ (List.mem_of_getElem? (i := 123) rfl)))) (mvT hZ10 (hw _ (List.mem_of_getElem? (i := 123) rfl))) (mvT hZ10 (hw _ (List.mem_of_getElem? (i := 122) rfl))) (by decide) (backOfS (W := 0) (rm_setP l Z a0 hw [] b1 pa (.ref no) (.int (3 : Int32)) (.ref b10) (.null) T10.heap n0 Z10 p10_0 g_b1 E_pa p10_1 p10_2 p10_3 p10_4) hZ10 (hw _ (List.mem_of_getElem? (i := 124) rfl)) (hw _ (List.mem_of_getElem? (i := 2) rfl)) (by decide) (by decide)) q37a q37c (g := (mkF m 42 #[.val (.int p1), .val (.int p2), .val (.int p3), .val (.ref b1), .val (.ref b10), .val (.ref pa), .val (.ref pb), .val (.int (1 : Int32)), .unset, .unset, .unset] [(.ref pa), (.ref b1)])) rfl (by rw [hml]; rfl) (Steps.refl _) (argsL := [(.ref pa)]) (rest := []) (lenOf pd_oLcomsexampleschitraguptaschitraguptasPriorityecLcomsexampleschitraguptaschitraguptasJobOptionse rfl) rfl (by show 2 * 0 + _ ≤ _; exact Nat.le_of_eq rfl) (hb hby at_42) (fun _ _ => ⟨rfl, e16, (by decide : 8 + 2 ≤ _), (by decide : 125 + 36 ≤ _)⟩)
    dsimp only [Pt.U, Pt.locs, Pt.cells, Pt.slots] at Xr37 l37 y37 z37 st37 hQ37 hSr37 hG37
    subst l37 y37 z37
    have X37 : Stand p l e _ (s.setVm T37.vm) m _ below meth c T37 _ _ _ := Xr37
    have hS37 : s.Since T37.vm T37.heap.size := State.Since.trans hS10 hSr37 (Nat.le_trans (Nat.le_refl _) (by rw [← e16]; exact hG37))
    have hZ37 : Z.Warmed39 (s.setVm T37.vm).vm := State.Warmed39.trans (t := s.setVm T10.vm) hZ10 hSr37.1
    have hown37 : (s.setVm T37.vm).vm.findClass "com/example/chitragupta/chitragupta/JobOptionsPriorityPinLaw" = some m.cls := by rw [show (s.setVm T37.vm).vm = T37.vm from rfl, hSr37.1.alike.findClass]; exact hown10
    obtain ⟨rfl, N37q, Kc37, p37_0, p37_1, p37_2, p37_3, p37_4⟩ := hQ37
    have N37 := Fr.app N16 N37q
    have s37_LOWEST := own_staKeep s10_LOWEST Kc37 p10_0
    have s37_LOW := own_staKeep s10_LOW Kc37 p10_0
    have s37_NORMAL := own_staKeep s10_NORMAL Kc37 p10_0
    have s37_HIGH := own_staKeep s10_HIGH Kc37 p10_0
    have s37_CRITICAL := own_staKeep s10_CRITICAL Kc37 p10_0
    have s37_LONGEST_DURATION := own_staKeep s10_LONGEST_DURATION Kc37 p10_0
    have K37 : Keep h0 T37.heap [] := K10.trans Kc37 (allS (Or.inr sz_b1) all0)
    have Z37 : n0 ≤ T37.heap.size := Nat.le_trans Z10 Kc37.1
    refine GoW.tr st37 ?_
    show GoW p.tables e below s _ _ _ (T37.setTop (mkF m 45 #[.val (.int p1), .val (.int p2), .val (.int p3), .val (.ref b1), .val (.ref b10), .val (.ref pa), .val (.ref pb), .val (.int (1 : Int32)), .unset, .unset, .unset] [(.ref b1)]))
    have sg38 : ∀ t, Steps p.tables e below (T37.setTop (mkF m 56 #[.val (.int p1), .val (.int p2), .val (.int p3), .val (.ref b1), .val (.ref b10), .val (.ref pa), .val (.ref pb), .val (.int (1 : Int32)), .val (.ref b1), .unset, .unset] [(.ref b1)])) t → Steps p.tables e below (T37.setTop (mkF m 45 #[.val (.int p1), .val (.int p2), .val (.int p3), .val (.ref b1), .val (.ref b10), .val (.ref pa), .val (.ref pb), .val (.int (1 : Int32)), .unset, .unset, .unset] [(.ref b1)])) t := by
      intro t kt
      show Steps p.tables e below (T37.setTop (mkF m 45 #[.val (.int p1), .val (.int p2), .val (.int p3), .val (.ref b1), .val (.ref b10), .val (.ref pa), .val (.ref pb), .val (.int (1 : Int32)), .unset, .unset, .unset] [(.ref b1)])) _
      refine XS.astore X37.here hx rfl (hb hby at_45) rfl rfl (l' := #[.val (.int p1), .val (.int p2), .val (.int p3), .val (.ref b1), .val (.ref b10), .val (.ref pa), .val (.ref pb), .val (.int (1 : Int32)), .val (.ref b1), .unset, .unset]) rfl ?_
      show Steps p.tables e below (T37.setTop (mkF m 47 #[.val (.int p1), .val (.int p2), .val (.int p3), .val (.ref b1), .val (.ref b10), .val (.ref pa), .val (.ref pb), .val (.int (1 : Int32)), .val (.ref b1), .unset, .unset] [])) _
      refine XS.aload X37.here hx rfl (hb hby at_47) rfl rfl ?_
      show Steps p.tables e below (T37.setTop (mkF m 49 #[.val (.int p1), .val (.int p2), .val (.int p3), .val (.ref b1), .val (.ref b10), .val (.ref pa), .val (.ref pb), .val (.int (1 : Int32)), .val (.ref b1), .unset, .unset] [(.ref b1)])) _
      refine XS.aloadN X37.here hx rfl (hb hby at_49) rfl rfl ?_
      show Steps p.tables e below (T37.setTop (mkF m 50 #[.val (.int p1), .val (.int p2), .val (.int p3), .val (.ref b1), .val (.ref b10), .val (.ref pa), .val (.ref pb), .val (.int (1 : Int32)), .val (.ref b1), .unset, .unset] [(.ref b1), (.ref b1)])) _
      refine Jvm.RoadKit.acmp (g := (mkF m 50 #[.val (.int p1), .val (.int p2), .val (.int p3), .val (.ref b1), .val (.ref b10), .val (.ref pa), .val (.ref pb), .val (.int (1 : Int32)), .val (.ref b1), .unset, .unset] [(.ref b1), (.ref b1)])) X37 hx rfl rfl rfl (pc0 := 50) (pc' := 55) (same := true) rfl (hb hby at_50) rfl (decide_eq_true rfl) (by decide) (by decide) ?_
      show Steps p.tables e below (T37.setTop (mkF m 55 #[.val (.int p1), .val (.int p2), .val (.int p3), .val (.ref b1), .val (.ref b10), .val (.ref pa), .val (.ref pb), .val (.int (1 : Int32)), .val (.ref b1), .unset, .unset] [])) _
      refine XS.aloadN X37.here hx rfl (hb hby at_55) rfl rfl ?_
      exact kt
    refine GoW.adv sg38 ?_
    obtain ⟨cq39, kq39, q39a, q39b, q39c⟩ := isOf hZ37 rfl p37_0
    obtain ⟨_, _, ⟨T39, L39, k39, n39⟩, -, X39, ⟨Lc39, hQ39, l39, y39, z39⟩, st39⟩ := X37.virtualBack hx (y := (⟨"com/example/chitragupta/chitragupta/JobOptions", "priority", "()Lcom/example/chitragupta/chitragupta/Priority;"⟩ : MethodName)) (z := (⟨"com/example/chitragupta/chitragupta/JobOptions", "priority", "()Lcom/example/chitragupta/chitragupta/Priority;"⟩ : MethodName)) hown37 (mvT hZ37 (hw _ (List.mem_of_getElem? (i := 129) rfl))) (mvT hZ37 (hw _ (List.mem_of_getElem? (i := 130) rfl))) (notFace_of_selects (args := #[]) (mvT hZ37 (hw _ (List.mem_of_getElem? (i := 132) rfl)))) (mvT hZ37 (hw _ (List.mem_of_getElem? (i := 132) rfl))) (mvT hZ37 (hw _ (List.mem_of_getElem? (i := 131) rfl))) (by decide) (backOf (W := 0) (rm_getP l Z a0 hw [] b1 pa T37.heap n0 Z37 p37_1) hZ37 (hw _ (List.mem_of_getElem? (i := 133) rfl)) (hw _ (List.mem_of_getElem? (i := 2) rfl)) (by decide) (by decide)) q39a q39c (g := (mkF m 56 #[.val (.int p1), .val (.int p2), .val (.int p3), .val (.ref b1), .val (.ref b10), .val (.ref pa), .val (.ref pb), .val (.int (1 : Int32)), .val (.ref b1), .unset, .unset] [(.ref b1)])) rfl (by rw [hml]; rfl) (Steps.refl _) (argsL := []) (rest := []) (lenOf pd_ocLcomsexampleschitraguptaschitraguptasPrioritye rfl) rfl (by show 2 * 0 + _ ≤ _; exact Nat.le_of_eq rfl) (hb hby at_56) (fun _ _ => ⟨rfl, rfl, (by decide : 10 + 0 ≤ _), (by decide : 161 + 0 ≤ _)⟩)
    dsimp only [Pt.U, Pt.locs, Pt.cells, Pt.slots] at X39 l39 y39 z39 st39 hQ39
    subst l39 y39 z39
    obtain ⟨rfl, N39q, e39⟩ := hQ39
    have N39 := Fr.app N37 N39q
    refine GoW.tr st39 ?_
    show GoW p.tables e below s _ _ _ (T39.setTop (mkF m 59 #[.val (.int p1), .val (.int p2), .val (.int p3), .val (.ref b1), .val (.ref b10), .val (.ref pa), .val (.ref pb), .val (.int (1 : Int32)), .val (.ref b1), .unset, .unset] [(.ref pa)]))
    have sg40 : ∀ t, Steps p.tables e below (T39.setTop (mkF m 78 #[.val (.int p1), .val (.int p2), .val (.int p3), .val (.ref b1), .val (.ref b10), .val (.ref pa), .val (.ref pb), .val (.int (1 : Int32)), .val (.ref b1), .val (.ref pa), .unset] [(.ref pb), (.ref b1)])) t → Steps p.tables e below (T39.setTop (mkF m 59 #[.val (.int p1), .val (.int p2), .val (.int p3), .val (.ref b1), .val (.ref b10), .val (.ref pa), .val (.ref pb), .val (.int (1 : Int32)), .val (.ref b1), .unset, .unset] [(.ref pa)])) t := by
      intro t kt
      show Steps p.tables e below (T39.setTop (mkF m 59 #[.val (.int p1), .val (.int p2), .val (.int p3), .val (.ref b1), .val (.ref b10), .val (.ref pa), .val (.ref pb), .val (.int (1 : Int32)), .val (.ref b1), .unset, .unset] [(.ref pa)])) _
      refine XS.aload X39.here hx rfl (hb hby at_59) rfl rfl ?_
      show Steps p.tables e below (T39.setTop (mkF m 61 #[.val (.int p1), .val (.int p2), .val (.int p3), .val (.ref b1), .val (.ref b10), .val (.ref pa), .val (.ref pb), .val (.int (1 : Int32)), .val (.ref b1), .unset, .unset] [(.ref pa), (.ref pa)])) _
      refine Jvm.RoadKit.acmp (g := (mkF m 61 #[.val (.int p1), .val (.int p2), .val (.int p3), .val (.ref b1), .val (.ref b10), .val (.ref pa), .val (.ref pb), .val (.int (1 : Int32)), .val (.ref b1), .unset, .unset] [(.ref pa), (.ref pa)])) X39 hx rfl rfl rfl (pc0 := 61) (pc' := 66) (same := true) rfl (hb hby at_61) rfl (decide_eq_true rfl) (by decide) (by decide) ?_
      show Steps p.tables e below (T39.setTop (mkF m 66 #[.val (.int p1), .val (.int p2), .val (.int p3), .val (.ref b1), .val (.ref b10), .val (.ref pa), .val (.ref pb), .val (.int (1 : Int32)), .val (.ref b1), .unset, .unset] [])) _
      refine XS.aload X39.here hx rfl (hb hby at_66) rfl rfl ?_
      show Steps p.tables e below (T39.setTop (mkF m 68 #[.val (.int p1), .val (.int p2), .val (.int p3), .val (.ref b1), .val (.ref b10), .val (.ref pa), .val (.ref pb), .val (.int (1 : Int32)), .val (.ref b1), .unset, .unset] [(.ref pa)])) _
      refine XS.astore X39.here hx rfl (hb hby at_68) rfl rfl (l' := #[.val (.int p1), .val (.int p2), .val (.int p3), .val (.ref b1), .val (.ref b10), .val (.ref pa), .val (.ref pb), .val (.int (1 : Int32)), .val (.ref b1), .val (.ref pa), .unset]) rfl ?_
      show Steps p.tables e below (T39.setTop (mkF m 70 #[.val (.int p1), .val (.int p2), .val (.int p3), .val (.ref b1), .val (.ref b10), .val (.ref pa), .val (.ref pb), .val (.int (1 : Int32)), .val (.ref b1), .val (.ref pa), .unset] [])) _
      refine XS.iload X39.here hx rfl (hb hby at_70) rfl ?_
      show Steps p.tables e below (T39.setTop (mkF m 72 #[.val (.int p1), .val (.int p2), .val (.int p3), .val (.ref b1), .val (.ref b10), .val (.ref pa), .val (.ref pb), .val (.int (1 : Int32)), .val (.ref b1), .val (.ref pa), .unset] [(.int (1 : Int32))])) _
      refine XS.ifNo X39.here hx rfl (hb hby at_72) rfl ((if0 _ _).trans (feq (by decide : ¬ ((1 : Int32) = (0 : Int32)))).1) ?_
      show Steps p.tables e below (T39.setTop (mkF m 75 #[.val (.int p1), .val (.int p2), .val (.int p3), .val (.ref b1), .val (.ref b10), .val (.ref pa), .val (.ref pb), .val (.int (1 : Int32)), .val (.ref b1), .val (.ref pa), .unset] [])) _
      refine XS.aloadN X39.here hx rfl (hb hby at_75) rfl rfl ?_
      show Steps p.tables e below (T39.setTop (mkF m 76 #[.val (.int p1), .val (.int p2), .val (.int p3), .val (.ref b1), .val (.ref b10), .val (.ref pa), .val (.ref pb), .val (.int (1 : Int32)), .val (.ref b1), .val (.ref pa), .unset] [(.ref b1)])) _
      refine XS.aload X39.here hx rfl (hb hby at_76) rfl rfl ?_
      exact kt
    refine GoW.adv sg40 ?_
    have f41 := (E_pb.keep Kc37)
    obtain ⟨cq42, kq42, q42a, q42b, q42c⟩ := isOf hZ37 e39 p37_0
    obtain ⟨_, _, ⟨T42, L42, k42, n42⟩, -, Xr42, hSr42, hG42, ⟨Lc42, hQ42, l42, y42, z42⟩, st42⟩ := X39.virtualBackS hx (y := (⟨"com/example/chitragupta/chitragupta/JobOptions", "priority", "(Lcom/example/chitragupta/chitragupta/Priority;)Lcom/example/chitragupta/chitragupta/JobOptions;"⟩ : MethodName)) (z := (⟨"com/example/chitragupta/chitragupta/JobOptions", "priority", "(Lcom/example/chitragupta/chitragupta/Priority;)Lcom/example/chitragupta/chitragupta/JobOptions;"⟩ : MethodName)) hown37 (mvT hZ37 (hw _ (List.mem_of_getElem? (i := 120) rfl))) (mvT hZ37 (hw _ (List.mem_of_getElem? (i := 121) rfl))) (notFace_of_selects (args := #[]) (mvT hZ37 (hw _ (List.mem_of_getElem? (i := 123) rfl)))) (mvT hZ37 (hw _ (List.mem_of_getElem? (i := 123) rfl))) (mvT hZ37 (hw _ (List.mem_of_getElem? (i := 122) rfl))) (by decide) (backOfS (W := 0) (rm_setP l Z a0 hw [] b1 pb (.ref pa) (.int (3 : Int32)) (.ref b10) (.null) T37.heap n0 Z37 p37_0 g_b1 f41 p37_1 p37_2 p37_3 p37_4) hZ37 (hw _ (List.mem_of_getElem? (i := 124) rfl)) (hw _ (List.mem_of_getElem? (i := 2) rfl)) (by decide) (by decide)) q42a q42c (g := (mkF m 78 #[.val (.int p1), .val (.int p2), .val (.int p3), .val (.ref b1), .val (.ref b10), .val (.ref pa), .val (.ref pb), .val (.int (1 : Int32)), .val (.ref b1), .val (.ref pa), .unset] [(.ref pb), (.ref b1)])) rfl (by rw [hml]; rfl) (Steps.refl _) (argsL := [(.ref pb)]) (rest := []) (lenOf pd_oLcomsexampleschitraguptaschitraguptasPriorityecLcomsexampleschitraguptaschitraguptasJobOptionse rfl) rfl (by show 2 * 0 + _ ≤ _; exact Nat.le_of_eq rfl) (hb hby at_78) (fun _ _ => ⟨rfl, e39, (by decide : 10 + 2 ≤ _), (by decide : 161 + 36 ≤ _)⟩)
    dsimp only [Pt.U, Pt.locs, Pt.cells, Pt.slots] at Xr42 l42 y42 z42 st42 hQ42 hSr42 hG42
    subst l42 y42 z42
    have X42 : Stand p l e _ (s.setVm T42.vm) m _ below meth c T42 _ _ _ := Xr42
    have hS42 : s.Since T42.vm T42.heap.size := State.Since.trans hS37 hSr42 (Nat.le_trans (Nat.le_refl _) (by rw [← e39]; exact hG42))
    have hZ42 : Z.Warmed39 (s.setVm T42.vm).vm := State.Warmed39.trans (t := s.setVm T37.vm) hZ37 hSr42.1
    have hown42 : (s.setVm T42.vm).vm.findClass "com/example/chitragupta/chitragupta/JobOptionsPriorityPinLaw" = some m.cls := by rw [show (s.setVm T42.vm).vm = T42.vm from rfl, hSr42.1.alike.findClass]; exact hown37
    obtain ⟨rfl, N42q, Kc42, p42_0, p42_1, p42_2, p42_3, p42_4⟩ := hQ42
    have N42 := Fr.app N39 N42q
    have s42_LOWEST := own_staKeep s37_LOWEST Kc42 p37_0
    have s42_LOW := own_staKeep s37_LOW Kc42 p37_0
    have s42_NORMAL := own_staKeep s37_NORMAL Kc42 p37_0
    have s42_HIGH := own_staKeep s37_HIGH Kc42 p37_0
    have s42_CRITICAL := own_staKeep s37_CRITICAL Kc42 p37_0
    have s42_LONGEST_DURATION := own_staKeep s37_LONGEST_DURATION Kc42 p37_0
    have K42 : Keep h0 T42.heap [] := K37.trans Kc42 (allS (Or.inr sz_b1) all0)
    have Z42 : n0 ≤ T42.heap.size := Nat.le_trans Z37 Kc42.1
    refine GoW.tr st42 ?_
    show GoW p.tables e below s _ _ _ (T42.setTop (mkF m 81 #[.val (.int p1), .val (.int p2), .val (.int p3), .val (.ref b1), .val (.ref b10), .val (.ref pa), .val (.ref pb), .val (.int (1 : Int32)), .val (.ref b1), .val (.ref pa), .unset] [(.ref b1)]))
    have sg43 : ∀ t, Steps p.tables e below (T42.setTop (mkF m 96 #[.val (.int p1), .val (.int p2), .val (.int p3), .val (.ref b1), .val (.ref b10), .val (.ref pa), .val (.ref pb), .val (.int (1 : Int32)), .val (.ref b1), .val (.ref pb), .val (.ref b1)] [(.ref b1)])) t → Steps p.tables e below (T42.setTop (mkF m 81 #[.val (.int p1), .val (.int p2), .val (.int p3), .val (.ref b1), .val (.ref b10), .val (.ref pa), .val (.ref pb), .val (.int (1 : Int32)), .val (.ref b1), .val (.ref pa), .unset] [(.ref b1)])) t := by
      intro t kt
      show Steps p.tables e below (T42.setTop (mkF m 81 #[.val (.int p1), .val (.int p2), .val (.int p3), .val (.ref b1), .val (.ref b10), .val (.ref pa), .val (.ref pb), .val (.int (1 : Int32)), .val (.ref b1), .val (.ref pa), .unset] [(.ref b1)])) _
      refine XS.astore X42.here hx rfl (hb hby at_81) rfl rfl (l' := #[.val (.int p1), .val (.int p2), .val (.int p3), .val (.ref b1), .val (.ref b10), .val (.ref pa), .val (.ref pb), .val (.int (1 : Int32)), .val (.ref b1), .val (.ref pa), .val (.ref b1)]) rfl ?_
      show Steps p.tables e below (T42.setTop (mkF m 83 #[.val (.int p1), .val (.int p2), .val (.int p3), .val (.ref b1), .val (.ref b10), .val (.ref pa), .val (.ref pb), .val (.int (1 : Int32)), .val (.ref b1), .val (.ref pa), .val (.ref b1)] [])) _
      refine XS.aload X42.here hx rfl (hb hby at_83) rfl rfl ?_
      show Steps p.tables e below (T42.setTop (mkF m 85 #[.val (.int p1), .val (.int p2), .val (.int p3), .val (.ref b1), .val (.ref b10), .val (.ref pa), .val (.ref pb), .val (.int (1 : Int32)), .val (.ref b1), .val (.ref pa), .val (.ref b1)] [(.ref b1)])) _
      refine XS.aloadN X42.here hx rfl (hb hby at_85) rfl rfl ?_
      show Steps p.tables e below (T42.setTop (mkF m 86 #[.val (.int p1), .val (.int p2), .val (.int p3), .val (.ref b1), .val (.ref b10), .val (.ref pa), .val (.ref pb), .val (.int (1 : Int32)), .val (.ref b1), .val (.ref pa), .val (.ref b1)] [(.ref b1), (.ref b1)])) _
      refine Jvm.RoadKit.acmp (g := (mkF m 86 #[.val (.int p1), .val (.int p2), .val (.int p3), .val (.ref b1), .val (.ref b10), .val (.ref pa), .val (.ref pb), .val (.int (1 : Int32)), .val (.ref b1), .val (.ref pa), .val (.ref b1)] [(.ref b1), (.ref b1)])) X42 hx rfl rfl rfl (pc0 := 86) (pc' := 91) (same := true) rfl (hb hby at_86) rfl (decide_eq_true rfl) (by decide) (by decide) ?_
      show Steps p.tables e below (T42.setTop (mkF m 91 #[.val (.int p1), .val (.int p2), .val (.int p3), .val (.ref b1), .val (.ref b10), .val (.ref pa), .val (.ref pb), .val (.int (1 : Int32)), .val (.ref b1), .val (.ref pa), .val (.ref b1)] [])) _
      refine XS.aload X42.here hx rfl (hb hby at_91) rfl rfl ?_
      show Steps p.tables e below (T42.setTop (mkF m 93 #[.val (.int p1), .val (.int p2), .val (.int p3), .val (.ref b1), .val (.ref b10), .val (.ref pa), .val (.ref pb), .val (.int (1 : Int32)), .val (.ref b1), .val (.ref pa), .val (.ref b1)] [(.ref pb)])) _
      refine XS.astore X42.here hx rfl (hb hby at_93) rfl rfl (l' := #[.val (.int p1), .val (.int p2), .val (.int p3), .val (.ref b1), .val (.ref b10), .val (.ref pa), .val (.ref pb), .val (.int (1 : Int32)), .val (.ref b1), .val (.ref pb), .val (.ref b1)]) rfl ?_
      show Steps p.tables e below (T42.setTop (mkF m 95 #[.val (.int p1), .val (.int p2), .val (.int p3), .val (.ref b1), .val (.ref b10), .val (.ref pa), .val (.ref pb), .val (.int (1 : Int32)), .val (.ref b1), .val (.ref pb), .val (.ref b1)] [])) _
      refine XS.aloadN X42.here hx rfl (hb hby at_95) rfl rfl ?_
      exact kt
    refine GoW.adv sg43 ?_
    obtain ⟨cq44, kq44, q44a, q44b, q44c⟩ := isOf hZ42 rfl p42_0
    obtain ⟨_, _, ⟨T44, L44, k44, n44⟩, -, X44, ⟨Lc44, hQ44, l44, y44, z44⟩, st44⟩ := X42.virtualBack hx (y := (⟨"com/example/chitragupta/chitragupta/JobOptions", "priority", "()Lcom/example/chitragupta/chitragupta/Priority;"⟩ : MethodName)) (z := (⟨"com/example/chitragupta/chitragupta/JobOptions", "priority", "()Lcom/example/chitragupta/chitragupta/Priority;"⟩ : MethodName)) hown42 (mvT hZ42 (hw _ (List.mem_of_getElem? (i := 129) rfl))) (mvT hZ42 (hw _ (List.mem_of_getElem? (i := 130) rfl))) (notFace_of_selects (args := #[]) (mvT hZ42 (hw _ (List.mem_of_getElem? (i := 132) rfl)))) (mvT hZ42 (hw _ (List.mem_of_getElem? (i := 132) rfl))) (mvT hZ42 (hw _ (List.mem_of_getElem? (i := 131) rfl))) (by decide) (backOf (W := 0) (rm_getP l Z a0 hw [] b1 pb T42.heap n0 Z42 p42_1) hZ42 (hw _ (List.mem_of_getElem? (i := 133) rfl)) (hw _ (List.mem_of_getElem? (i := 2) rfl)) (by decide) (by decide)) q44a q44c (g := (mkF m 96 #[.val (.int p1), .val (.int p2), .val (.int p3), .val (.ref b1), .val (.ref b10), .val (.ref pa), .val (.ref pb), .val (.int (1 : Int32)), .val (.ref b1), .val (.ref pb), .val (.ref b1)] [(.ref b1)])) rfl (by rw [hml]; rfl) (Steps.refl _) (argsL := []) (rest := []) (lenOf pd_ocLcomsexampleschitraguptaschitraguptasPrioritye rfl) rfl (by show 2 * 0 + _ ≤ _; exact Nat.le_of_eq rfl) (hb hby at_96) (fun _ _ => ⟨rfl, rfl, (by decide : 12 + 0 ≤ _), (by decide : 197 + 0 ≤ _)⟩)
    dsimp only [Pt.U, Pt.locs, Pt.cells, Pt.slots] at X44 l44 y44 z44 st44 hQ44
    subst l44 y44 z44
    obtain ⟨rfl, N44q, e44⟩ := hQ44
    have N44 := Fr.app N42 N44q
    refine GoW.tr st44 ?_
    show GoW p.tables e below s _ _ _ (T44.setTop (mkF m 99 #[.val (.int p1), .val (.int p2), .val (.int p3), .val (.ref b1), .val (.ref b10), .val (.ref pa), .val (.ref pb), .val (.int (1 : Int32)), .val (.ref b1), .val (.ref pb), .val (.ref b1)] [(.ref pb)]))
    have sg45 : ∀ t, Steps p.tables e below (T44.setTop (mkF m 107 #[.val (.int p1), .val (.int p2), .val (.int p3), .val (.ref b1), .val (.ref b10), .val (.ref pa), .val (.ref pb), .val (.int (1 : Int32)), .val (.ref b1), .val (.ref pb), .val (.ref b1)] [(.ref b1)])) t → Steps p.tables e below (T44.setTop (mkF m 99 #[.val (.int p1), .val (.int p2), .val (.int p3), .val (.ref b1), .val (.ref b10), .val (.ref pa), .val (.ref pb), .val (.int (1 : Int32)), .val (.ref b1), .val (.ref pb), .val (.ref b1)] [(.ref pb)])) t := by
      intro t kt
      show Steps p.tables e below (T44.setTop (mkF m 99 #[.val (.int p1), .val (.int p2), .val (.int p3), .val (.ref b1), .val (.ref b10), .val (.ref pa), .val (.ref pb), .val (.int (1 : Int32)), .val (.ref b1), .val (.ref pb), .val (.ref b1)] [(.ref pb)])) _
      refine XS.aload X44.here hx rfl (hb hby at_99) rfl rfl ?_
      show Steps p.tables e below (T44.setTop (mkF m 101 #[.val (.int p1), .val (.int p2), .val (.int p3), .val (.ref b1), .val (.ref b10), .val (.ref pa), .val (.ref pb), .val (.int (1 : Int32)), .val (.ref b1), .val (.ref pb), .val (.ref b1)] [(.ref pb), (.ref pb)])) _
      refine Jvm.RoadKit.acmp (g := (mkF m 101 #[.val (.int p1), .val (.int p2), .val (.int p3), .val (.ref b1), .val (.ref b10), .val (.ref pa), .val (.ref pb), .val (.int (1 : Int32)), .val (.ref b1), .val (.ref pb), .val (.ref b1)] [(.ref pb), (.ref pb)])) X44 hx rfl rfl rfl (pc0 := 101) (pc' := 106) (same := true) rfl (hb hby at_101) rfl (decide_eq_true rfl) (by decide) (by decide) ?_
      show Steps p.tables e below (T44.setTop (mkF m 106 #[.val (.int p1), .val (.int p2), .val (.int p3), .val (.ref b1), .val (.ref b10), .val (.ref pa), .val (.ref pb), .val (.int (1 : Int32)), .val (.ref b1), .val (.ref pb), .val (.ref b1)] [])) _
      refine XS.aloadN X44.here hx rfl (hb hby at_106) rfl rfl ?_
      exact kt
    refine GoW.adv sg45 ?_
    obtain ⟨cq46, kq46, q46a, q46b, q46c⟩ := isOf hZ42 e44 p42_0
    obtain ⟨_, _, ⟨T46, L46, k46, n46⟩, -, X46, ⟨Lc46, hQ46, l46, y46, z46⟩, st46⟩ := X44.virtualBack hx (y := (⟨"com/example/chitragupta/chitragupta/JobOptions", "maxAttempts", "()I"⟩ : MethodName)) (z := (⟨"com/example/chitragupta/chitragupta/JobOptions", "maxAttempts", "()I"⟩ : MethodName)) hown42 (mvT hZ42 (hw _ (List.mem_of_getElem? (i := 134) rfl))) (mvT hZ42 (hw _ (List.mem_of_getElem? (i := 135) rfl))) (notFace_of_selects (args := #[]) (mvT hZ42 (hw _ (List.mem_of_getElem? (i := 137) rfl)))) (mvT hZ42 (hw _ (List.mem_of_getElem? (i := 137) rfl))) (mvT hZ42 (hw _ (List.mem_of_getElem? (i := 136) rfl))) (by decide) (backOf (W := 0) (rm_getM l Z a0 hw [] b1 (3 : Int32) T42.heap n0 Z42 p42_2) hZ42 (hw _ (List.mem_of_getElem? (i := 138) rfl)) (hw _ (List.mem_of_getElem? (i := 2) rfl)) (by decide) (by decide)) q46a q46c (g := (mkF m 107 #[.val (.int p1), .val (.int p2), .val (.int p3), .val (.ref b1), .val (.ref b10), .val (.ref pa), .val (.ref pb), .val (.int (1 : Int32)), .val (.ref b1), .val (.ref pb), .val (.ref b1)] [(.ref b1)])) rfl (by rw [hml]; rfl) (Steps.refl _) (argsL := []) (rest := []) (lenOf pd_ocI rfl) rfl (by show 2 * 0 + _ ≤ _; exact Nat.le_of_eq rfl) (hb hby at_107) (fun _ _ => ⟨rfl, e44, (by decide : 12 + 0 ≤ _), (by decide : 197 + 0 ≤ _)⟩)
    dsimp only [Pt.U, Pt.locs, Pt.cells, Pt.slots] at X46 l46 y46 z46 st46 hQ46
    subst l46 y46 z46
    obtain ⟨rfl, N46q, e46⟩ := hQ46
    have N46 := Fr.app N44 N46q
    refine GoW.tr st46 ?_
    show GoW p.tables e below s _ _ _ (T46.setTop (mkF m 110 #[.val (.int p1), .val (.int p2), .val (.int p3), .val (.ref b1), .val (.ref b10), .val (.ref pa), .val (.ref pb), .val (.int (1 : Int32)), .val (.ref b1), .val (.ref pb), .val (.ref b1)] [(.int (3 : Int32))]))
    have sg47 : ∀ t, Steps p.tables e below (T46.setTop (mkF m 117 #[.val (.int p1), .val (.int p2), .val (.int p3), .val (.ref b1), .val (.ref b10), .val (.ref pa), .val (.ref pb), .val (.int (1 : Int32)), .val (.ref b1), .val (.ref pb), .val (.ref b1)] [(.ref b1)])) t → Steps p.tables e below (T46.setTop (mkF m 110 #[.val (.int p1), .val (.int p2), .val (.int p3), .val (.ref b1), .val (.ref b10), .val (.ref pa), .val (.ref pb), .val (.int (1 : Int32)), .val (.ref b1), .val (.ref pb), .val (.ref b1)] [(.int (3 : Int32))])) t := by
      intro t kt
      show Steps p.tables e below (T46.setTop (mkF m 110 #[.val (.int p1), .val (.int p2), .val (.int p3), .val (.ref b1), .val (.ref b10), .val (.ref pa), .val (.ref pb), .val (.int (1 : Int32)), .val (.ref b1), .val (.ref pb), .val (.ref b1)] [(.int (3 : Int32))])) _
      refine XS.iconst X46.here hx rfl (hb hby at_110) ?_
      show Steps p.tables e below (T46.setTop (mkF m 111 #[.val (.int p1), .val (.int p2), .val (.int p3), .val (.ref b1), .val (.ref b10), .val (.ref pa), .val (.ref pb), .val (.int (1 : Int32)), .val (.ref b1), .val (.ref pb), .val (.ref b1)] [(.int (3 : Int32)), (.int (3 : Int32))])) _
      refine XS.icmpYes X46.here hx rfl (pc0 := 111) (pc' := 116) rfl (hb hby at_111) rfl (teq (by decide : (3 : Int32) = (3 : Int32))).1 (by decide) (by decide) ?_
      show Steps p.tables e below (T46.setTop (mkF m 116 #[.val (.int p1), .val (.int p2), .val (.int p3), .val (.ref b1), .val (.ref b10), .val (.ref pa), .val (.ref pb), .val (.int (1 : Int32)), .val (.ref b1), .val (.ref pb), .val (.ref b1)] [])) _
      refine XS.aloadN X46.here hx rfl (hb hby at_116) rfl rfl ?_
      exact kt
    refine GoW.adv sg47 ?_
    obtain ⟨cq48, kq48, q48a, q48b, q48c⟩ := isOf hZ42 e46 p42_0
    obtain ⟨_, _, ⟨T48, L48, k48, n48⟩, -, X48, ⟨Lc48, hQ48, l48, y48, z48⟩, st48⟩ := X46.virtualBack hx (y := (⟨"com/example/chitragupta/chitragupta/JobOptions", "backoff", "()Lcom/example/chitragupta/chitragupta/Backoff;"⟩ : MethodName)) (z := (⟨"com/example/chitragupta/chitragupta/JobOptions", "backoff", "()Lcom/example/chitragupta/chitragupta/Backoff;"⟩ : MethodName)) hown42 (mvT hZ42 (hw _ (List.mem_of_getElem? (i := 106) rfl))) (mvT hZ42 (hw _ (List.mem_of_getElem? (i := 107) rfl))) (notFace_of_selects (args := #[]) (mvT hZ42 (hw _ (List.mem_of_getElem? (i := 109) rfl)))) (mvT hZ42 (hw _ (List.mem_of_getElem? (i := 109) rfl))) (mvT hZ42 (hw _ (List.mem_of_getElem? (i := 108) rfl))) (by decide) (backOf (W := 0) (rm_getB l Z a0 hw [] b1 b10 T42.heap n0 Z42 p42_3) hZ42 (hw _ (List.mem_of_getElem? (i := 110) rfl)) (hw _ (List.mem_of_getElem? (i := 2) rfl)) (by decide) (by decide)) q48a q48c (g := (mkF m 117 #[.val (.int p1), .val (.int p2), .val (.int p3), .val (.ref b1), .val (.ref b10), .val (.ref pa), .val (.ref pb), .val (.int (1 : Int32)), .val (.ref b1), .val (.ref pb), .val (.ref b1)] [(.ref b1)])) rfl (by rw [hml]; rfl) (Steps.refl _) (argsL := []) (rest := []) (lenOf pd_ocLcomsexampleschitraguptaschitraguptasBackoffe rfl) rfl (by show 2 * 0 + _ ≤ _; exact Nat.le_of_eq rfl) (hb hby at_117) (fun _ _ => ⟨rfl, e46, (by decide : 12 + 0 ≤ _), (by decide : 197 + 0 ≤ _)⟩)
    dsimp only [Pt.U, Pt.locs, Pt.cells, Pt.slots] at X48 l48 y48 z48 st48 hQ48
    subst l48 y48 z48
    obtain ⟨rfl, N48q, e48⟩ := hQ48
    have N48 := Fr.app N46 N48q
    refine GoW.tr st48 ?_
    show GoW p.tables e below s _ _ _ (T48.setTop (mkF m 120 #[.val (.int p1), .val (.int p2), .val (.int p3), .val (.ref b1), .val (.ref b10), .val (.ref pa), .val (.ref pb), .val (.int (1 : Int32)), .val (.ref b1), .val (.ref pb), .val (.ref b1)] [(.ref b10)]))
    have sg49 : ∀ t, Steps p.tables e below (T48.setTop (mkF m 128 #[.val (.int p1), .val (.int p2), .val (.int p3), .val (.ref b1), .val (.ref b10), .val (.ref pa), .val (.ref pb), .val (.int (1 : Int32)), .val (.ref b1), .val (.ref pb), .val (.ref b1)] [(.ref b1)])) t → Steps p.tables e below (T48.setTop (mkF m 120 #[.val (.int p1), .val (.int p2), .val (.int p3), .val (.ref b1), .val (.ref b10), .val (.ref pa), .val (.ref pb), .val (.int (1 : Int32)), .val (.ref b1), .val (.ref pb), .val (.ref b1)] [(.ref b10)])) t := by
      intro t kt
      show Steps p.tables e below (T48.setTop (mkF m 120 #[.val (.int p1), .val (.int p2), .val (.int p3), .val (.ref b1), .val (.ref b10), .val (.ref pa), .val (.ref pb), .val (.int (1 : Int32)), .val (.ref b1), .val (.ref pb), .val (.ref b1)] [(.ref b10)])) _
      refine XS.aload X48.here hx rfl (hb hby at_120) rfl rfl ?_
      show Steps p.tables e below (T48.setTop (mkF m 122 #[.val (.int p1), .val (.int p2), .val (.int p3), .val (.ref b1), .val (.ref b10), .val (.ref pa), .val (.ref pb), .val (.int (1 : Int32)), .val (.ref b1), .val (.ref pb), .val (.ref b1)] [(.ref b10), (.ref b10)])) _
      refine Jvm.RoadKit.acmp (g := (mkF m 122 #[.val (.int p1), .val (.int p2), .val (.int p3), .val (.ref b1), .val (.ref b10), .val (.ref pa), .val (.ref pb), .val (.int (1 : Int32)), .val (.ref b1), .val (.ref pb), .val (.ref b1)] [(.ref b10), (.ref b10)])) X48 hx rfl rfl rfl (pc0 := 122) (pc' := 127) (same := true) rfl (hb hby at_122) rfl (decide_eq_true rfl) (by decide) (by decide) ?_
      show Steps p.tables e below (T48.setTop (mkF m 127 #[.val (.int p1), .val (.int p2), .val (.int p3), .val (.ref b1), .val (.ref b10), .val (.ref pa), .val (.ref pb), .val (.int (1 : Int32)), .val (.ref b1), .val (.ref pb), .val (.ref b1)] [])) _
      refine XS.aloadN X48.here hx rfl (hb hby at_127) rfl rfl ?_
      exact kt
    refine GoW.adv sg49 ?_
    obtain ⟨cq50, kq50, q50a, q50b, q50c⟩ := isOf hZ42 e48 p42_0
    obtain ⟨_, _, ⟨T50, L50, k50, n50⟩, -, X50, ⟨Lc50, hQ50, l50, y50, z50⟩, st50⟩ := X48.virtualBack hx (y := (⟨"com/example/chitragupta/chitragupta/JobOptions", "runAt", "()Ljava/time/Instant;"⟩ : MethodName)) (z := (⟨"com/example/chitragupta/chitragupta/JobOptions", "runAt", "()Ljava/time/Instant;"⟩ : MethodName)) hown42 (mvT hZ42 (hw _ (List.mem_of_getElem? (i := 139) rfl))) (mvT hZ42 (hw _ (List.mem_of_getElem? (i := 140) rfl))) (notFace_of_selects (args := #[]) (mvT hZ42 (hw _ (List.mem_of_getElem? (i := 142) rfl)))) (mvT hZ42 (hw _ (List.mem_of_getElem? (i := 142) rfl))) (mvT hZ42 (hw _ (List.mem_of_getElem? (i := 141) rfl))) (by decide) (backOf (W := 0) (rm_getR l Z a0 hw [] b1  T42.heap n0 Z42 p42_4) hZ42 (hw _ (List.mem_of_getElem? (i := 143) rfl)) (hw _ (List.mem_of_getElem? (i := 2) rfl)) (by decide) (by decide)) q50a q50c (g := (mkF m 128 #[.val (.int p1), .val (.int p2), .val (.int p3), .val (.ref b1), .val (.ref b10), .val (.ref pa), .val (.ref pb), .val (.int (1 : Int32)), .val (.ref b1), .val (.ref pb), .val (.ref b1)] [(.ref b1)])) rfl (by rw [hml]; rfl) (Steps.refl _) (argsL := []) (rest := []) (lenOf pd_ocLjavastimesInstante rfl) rfl (by show 2 * 0 + _ ≤ _; exact Nat.le_of_eq rfl) (hb hby at_128) (fun _ _ => ⟨rfl, e48, (by decide : 12 + 0 ≤ _), (by decide : 197 + 0 ≤ _)⟩)
    dsimp only [Pt.U, Pt.locs, Pt.cells, Pt.slots] at X50 l50 y50 z50 st50 hQ50
    subst l50 y50 z50
    obtain ⟨rfl, N50q, e50⟩ := hQ50
    have N50 := Fr.app N48 N50q
    refine GoW.tr st50 ?_
    show GoW p.tables e below s _ _ _ (T50.setTop (mkF m 131 #[.val (.int p1), .val (.int p2), .val (.int p3), .val (.ref b1), .val (.ref b10), .val (.ref pa), .val (.ref pb), .val (.int (1 : Int32)), .val (.ref b1), .val (.ref pb), .val (.ref b1)] [.null]))
    have sg51 : ∀ t, Steps p.tables e below (T50.setTop (mkF m 139 #[.val (.int p1), .val (.int p2), .val (.int p3), .val (.ref b1), .val (.ref b10), .val (.ref pa), .val (.ref pb), .val (.int (1 : Int32)), .val (.ref b1), .val (.ref pb), .val (.ref b1)] [(.int (1 : Int32))])) t → Steps p.tables e below (T50.setTop (mkF m 131 #[.val (.int p1), .val (.int p2), .val (.int p3), .val (.ref b1), .val (.ref b10), .val (.ref pa), .val (.ref pb), .val (.int (1 : Int32)), .val (.ref b1), .val (.ref pb), .val (.ref b1)] [.null])) t := by
      intro t kt
      show Steps p.tables e below (T50.setTop (mkF m 131 #[.val (.int p1), .val (.int p2), .val (.int p3), .val (.ref b1), .val (.ref b10), .val (.ref pa), .val (.ref pb), .val (.int (1 : Int32)), .val (.ref b1), .val (.ref pb), .val (.ref b1)] [.null])) _
      refine XS.ifnonnullNo X50.here hx rfl (hb hby at_131) rfl ?_
      show Steps p.tables e below (T50.setTop (mkF m 134 #[.val (.int p1), .val (.int p2), .val (.int p3), .val (.ref b1), .val (.ref b10), .val (.ref pa), .val (.ref pb), .val (.int (1 : Int32)), .val (.ref b1), .val (.ref pb), .val (.ref b1)] [])) _
      refine XS.iconst X50.here hx rfl (hb hby at_134) ?_
      show Steps p.tables e below (T50.setTop (mkF m 135 #[.val (.int p1), .val (.int p2), .val (.int p3), .val (.ref b1), .val (.ref b10), .val (.ref pa), .val (.ref pb), .val (.int (1 : Int32)), .val (.ref b1), .val (.ref pb), .val (.ref b1)] [(.int (1 : Int32))])) _
      refine XS.goto X50.here hx rfl (pc0 := 135) (pc' := 139) rfl (hb hby at_135) (by decide) (by decide) ?_
      exact kt
    refine GoW.adv sg51 ?_
    refine GoW.ret (v := (some (.int (1 : Int32)))) X50 hS42 (by rw [e50]; exact (Nat.le_refl _)) (fun h => by rw [Bd.returns] at h; cases h) Bd.notSynchronized (fun fs hr => retN X50 hx (t := .boolean) Bd.returns (by simp) (hb hby at_139) hr) ?_ (by decide) (by decide)
    show Q_rm0 Z p1 p2 p3 lo lw no hi cr ld h0 n0 (some (.int (1 : Int32))) T50.heap _
    rw [e50]
    exact ⟨rfl, N50⟩

theorem own_eqL {args : Array Value} {s : State} {t : Term} {z : Int64} (h : (Jvm.Cond.eq t (.long z)).value args s none s [] = some true) : t.eval args s none [] s = some (.long z) := by
  simp only [Cond.value, Term.eval] at h
  cases ht : t.eval args s none [] s with
  | none => simp [ht] at h
  | some x => cases x <;> simp [ht] at h ⊢; exact h
set_option maxRecDepth 65536 in
set_option maxHeartbeats 40000000 in
theorem comes_1 {Post : Tables → Env → Array Value → State → Outcome → State → Prop} (hpost : ∀ tb e args s v u, (limb_1_1.after args s (.returned v) u = true ∧ limb_1_2.after args s (.returned v) u = true ∧ True) → ReturnedEndW s (.returned v) u (Jvm.fieldLocs frame_1_writes args s ++ Jvm.arrayLocs frame_1_arrays args s ++ Jvm.staticLocs frame_1_statics s) 24 3200 → Post tb e args s (.returned v) u) :
    ArmFor flags0 classFile x code maxLocals ret World_1 tables_1 room_1 Calls_1 rest_1 Pre_1 Post := by
  intro l hfl _ _ p e ha hc hk s m args below hf hA hF happ hP
  obtain ⟨hcalls, hrest, hpre⟩ := hP
  obtain ⟨-, -, -, hnamed, -, -, -, hat⟩ := (Spec.applies_iff hf).mp happ
  obtain ⟨hg, hn⟩ := and_e (Cond.before_iff.mp (show (Jvm.Cond.and given_1 narrow_1).before args s = true from hpre))
  obtain ⟨g1, g2⟩ := and_e hg
  obtain ⟨g3, g4⟩ := and_e g2
  obtain ⟨g5, g6⟩ := and_e g4
  obtain ⟨w0, w1, w2, rfl⟩ : ∃ w0 w1 w2 : Value, args = #[w0, w1, w2] := by
    have hs : args.size = 3 := by simpa [Cond.value, given_1] using g1
    obtain ⟨L⟩ := args
    match L, hs with
    | [w0, w1, w2], _ => exact ⟨w0, w1, w2, rfl⟩
  have hw := fun d (hd : d ∈ tables_1) => atoms_spec (ws := Jvm.Cond.code x code maxLocals ret :: tables_1) hat d (List.mem_cons_of_mem _ hd)
  have hfit : Fit s := fun {y c} hc i hi => by
    obtain ⟨ha, rfl⟩ := Array.getElem?_eq_some_iff.mp hc
    have q := List.all_eq_true.mp ((Array.all_eq_true_iff_forall_mem.mp hF) _ (Array.getElem_mem ha)) i (List.mem_range.mpr hi)
    simpa [Array.getElem?_eq_getElem hi] using q
  obtain ⟨i0, ei0⟩ := is_v g3
  obtain rfl : w0 = (.int i0) := Option.some.inj ei0
  obtain ⟨i1, ei1⟩ := is_v g5
  obtain rfl : w1 = (.int i1) := Option.some.inj ei1
  obtain ⟨i2, ei2⟩ := is_v g6
  obtain rfl : w2 = (.int i2) := Option.some.inj ei2
  obtain ⟨n1, n2⟩ := and_e hn
  obtain ⟨pn, ev1⟩ := exa_v n1
  obtain ⟨n3, n4⟩ := and_e n2
  obtain ⟨ld, ev2⟩ := exa_v n3
  obtain ⟨n5, n6⟩ := and_e n4
  have S1 := Sta.start ev1 (Or.inr ⟨(hw _ (List.mem_of_getElem? (i := 10) rfl)), (hw _ (List.mem_of_getElem? (i := 11) rfl))⟩)
  have S2 := Sta.start ev2 (Or.inr ⟨(hw _ (List.mem_of_getElem? (i := 62) rfl)), (hw _ (List.mem_of_getElem? (i := 74) rfl))⟩)
  have F1 := Fld.start ((fld_at ev2).symm.trans (own_eqL n5))
  have E1 := Exa.start ev1 n1
  obtain ⟨m0, r0⟩ := and_e n6
  obtain ⟨lo, evx0⟩ := exa_v m0
  have Sx0 := Sta.start evx0 (Or.inr ⟨(hw _ (List.mem_of_getElem? (i := 10) rfl)), (hw _ (List.mem_of_getElem? (i := 117) rfl))⟩)
  have Ex0 := Exa.start evx0 m0
  obtain ⟨m1, r1⟩ := and_e r0
  obtain ⟨hi, evx1⟩ := exa_v m1
  have Sx1 := Sta.start evx1 (Or.inr ⟨(hw _ (List.mem_of_getElem? (i := 10) rfl)), (hw _ (List.mem_of_getElem? (i := 119) rfl))⟩)
  have Ex1 := Exa.start evx1 m1
  obtain ⟨m2, r2⟩ := and_e r1
  obtain ⟨lw, evx2⟩ := exa_v m2
  have Sx2 := Sta.start evx2 (Or.inr ⟨(hw _ (List.mem_of_getElem? (i := 10) rfl)), (hw _ (List.mem_of_getElem? (i := 147) rfl))⟩)
  have Ex2 := Exa.start evx2 m2
  obtain ⟨cr, evx3⟩ := exa_v r2
  have Sx3 := Sta.start evx3 (Or.inr ⟨(hw _ (List.mem_of_getElem? (i := 10) rfl)), (hw _ (List.mem_of_getElem? (i := 150) rfl))⟩)
  have Ex3 := Exa.start evx3 r2
  obtain ⟨n, o, h1, h2, h3, _, L, rfl, ⟨rfl, N⟩, hq⟩ := rm0 l s _ hw tables_1 i0 i1 i2 lo lw pn hi cr ld s.heap s.heap.size (Nat.le_refl _) Sx0 Sx2 S1 Sx1 Sx3 S2 F1 Ex0 Ex2 E1 Ex1 Ex3 F1.lt p e ha hc hk s m _ below hf ((Spec.applies_iff_loose hf).mp happ).1 ⟨rfl, State.Warmed39.refl s, rfl⟩ trivial
  refine ⟨n, _, h1, h2, h3, hpost _ _ _ _ _ _ ⟨Cond.after_iff.mpr rfl, Cond.after_iff.mpr (eq_i res_at (Term.int_eval (1)) rfl), trivial⟩ ⟨hq.1, hq.2.1, hq.2.2.1, (hq.2.2.2.sift fun y hy => Or.inr (N y hy)).mono (by decide) (by decide)⟩⟩
theorem main_1_1 : Claimed_1_1 := comes_1 fun _ _ _ _ _ _ h hF => ⟨h.1, hF⟩
theorem main_1_2 : Claimed_1_2 := comes_1 fun _ _ _ _ _ _ h hF => ⟨h.2.1, hF⟩
end Jvm.Pilot.@@N@@
namespace Jvm.Pilot.@@N@@
open Jvm Jvm.ClassFile Sem Op Lib Jvm.Free Jvm.Stand Jvm.Pilot.@@N@@.Jvm.D
/-! MADE BY PROGRAM (witnessworld.py) out of the Statement's table words and the real class files: 24 classes; the members and pool entries that the words name. The judged class is class 1, her method 2. -/
namespace start1
open Jvm.ClassFile
def u (s : String) : CpInfo := .utf8 (stringToUtf16 s)
/-- a pool by its gaps: so many unusable entries, then the entry; so many at the end -/
def gap : Nat → List CpInfo → List CpInfo
  | 0, r => r
  | n + 1, r => .unusable :: gap n r
def poolList (es : List (Nat × CpInfo)) (last : Nat) : List CpInfo := es.foldr (fun e r => gap e.1 (e.2 :: r)) (gap last [])
def pool (es : List (Nat × CpInfo)) (last : Nat) : Array CpInfo := ⟨poolList es last⟩
def fileOf (pool : Array CpInfo) (this : Nat) (attrs : Array Attribute := #[]) (ms : Array MethodInfo := #[]) (fl : Nat := 33) (sup : Nat := 0) (ifs : Array Nat := #[]) (fds : Array FieldInfo := #[]) : ClassFile where
  minorVersion := 0
  majorVersion := 65
  constantPool := pool
  accessFlags := fl
  thisClass := this
  superClass := sup
  interfaces := ifs
  fields := fds
  methods := ms
  attributes := attrs
def plain (name : String) (sup : Option ClassId) : Class where
  name := name
  kind := .ordinary
  loader := none
  accessFlags := 33
  super := sup
  interfaces := #[]
  cf := none
  fields := #[]
  methods := #[]
  instanceTypes := #[]
  staticTypes := #[]
  resolved := #[]
  callSites := []
  init := .initialized
  statics := none
  mirror := none

def pool0 : Array CpInfo := pool [(5, u "<init>"), (0, u "()V"), (1, .class_ 10), (1, u "java/lang/Object")] 113

def k0c0 : Code := { maxStack := 0, maxLocals := 1, code := object_method_1_code, exceptionTable := #[], attributes := #[] }
def k0m0 : Method := { name := "<init>", desc := "()V", sig := { parameters := [], returnType := none }, accessFlags := 1, code := some k0c0 }
/-- java/lang/Object -/
def k0 : Class := { plain "java/lang/Object" none with
  accessFlags := 33
  interfaces := #[]
  cf := some (fileOf pool0 8 #[] #[{ accessFlags := 1, nameIndex := 5, descriptorIndex := 6, attributes := #[] }] 33 0 #[] #[])
  fields := #[]
  methods := #[k0m0]
  instanceTypes := #[]
  staticTypes := #[]
  resolved := Array.replicate 124 none
  statics := none }

def pool1 : Array CpInfo := pool [(2, .class_ 4), (0, .nameAndType 5 6), (0, u "java/lang/Object"), (0, u "<init>"), (0, u "()V"), (0, .integer 2147483647), (0, .fieldref 9 10), (0, .class_ 11), (0, .nameAndType 12 13), (0, u "com/example/chitragupta/chitragupta/Priority"), (0, u "LOWEST"), (0, u "Lcom/example/chitragupta/chitragupta/Priority;"), (0, .fieldref 9 15), (0, .nameAndType 16 13), (0, u "LOW"), (0, .fieldref 9 18), (0, .nameAndType 19 13), (0, u "NORMAL"), (0, .fieldref 9 21), (0, .nameAndType 22 13), (0, u "HIGH"), (0, .fieldref 9 24), (0, .nameAndType 25 13), (0, u "CRITICAL"), (0, .class_ 27), (0, u "com/example/chitragupta/chitragupta/JobOptions"), (0, .methodref 26 3), (0, .methodref 26 30), (0, .nameAndType 31 32), (0, u "backoff"), (0, u "()Lcom/example/chitragupta/chitragupta/Backoff;"), (0, .methodref 34 35), (0, .class_ 36), (0, .nameAndType 37 38), (0, u "com/example/chitragupta/chitragupta/JobOptionsPriorityPinLaw"), (0, u "pick"), (0, u "(I)Lcom/example/chitragupta/chitragupta/Priority;"), (0, .methodref 26 40), (0, .nameAndType 41 42), (0, u "priority"), (0, u "(Lcom/example/chitragupta/chitragupta/Priority;)Lcom/example/chitragupta/chitragupta/JobOptions;"), (0, .methodref 26 44), (0, .nameAndType 41 45), (0, u "()Lcom/example/chitragupta/chitragupta/Priority;"), (0, .methodref 26 47), (0, .nameAndType 48 49), (0, u "maxAttempts"), (0, u "()I"), (0, .methodref 26 51), (0, .nameAndType 52 53), (0, u "runAt"), (0, u "()Ljava/time/Instant;"), (3, u "law"), (0, u "(III)Z")] 4

def k1m0 : Method := { name := "<init>", desc := "()V", sig := { parameters := [], returnType := none }, accessFlags := 2, code := none }
def k1c1 : Code := { maxStack := 2, maxLocals := 2, code := method_2_code, exceptionTable := #[], attributes := #[] }
def k1m1 : Method := { name := "pick", desc := "(I)Lcom/example/chitragupta/chitragupta/Priority;", sig := { parameters := [.int], returnType := some (.object "com/example/chitragupta/chitragupta/Priority") }, accessFlags := 10, code := some k1c1 }
def k1c2 : Code := { maxStack := 2, maxLocals := 11, code := code, exceptionTable := #[], attributes := #[] }
def k1m2 : Method := { name := "law", desc := "(III)Z", sig := { parameters := [.int, .int, .int], returnType := some .boolean }, accessFlags := 9, code := some k1c2 }
/-- com/example/chitragupta/chitragupta/JobOptionsPriorityPinLaw -/
def k1 : Class := { plain "com/example/chitragupta/chitragupta/JobOptionsPriorityPinLaw" (some 0) with
  accessFlags := 49
  interfaces := #[]
  cf := some (fileOf pool1 34 #[] #[{ accessFlags := 2, nameIndex := 5, descriptorIndex := 6, attributes := #[] }, { accessFlags := 10, nameIndex := 37, descriptorIndex := 38, attributes := #[] }, { accessFlags := 9, nameIndex := 57, descriptorIndex := 58, attributes := #[] }] 49 2 #[] #[])
  fields := #[]
  methods := #[k1m0, k1m1, k1m2]
  instanceTypes := #[]
  staticTypes := #[]
  resolved := Array.replicate 63 none
  statics := none }

def pool2 : Array CpInfo := pool [(1, .methodref 2 3), (0, .class_ 4), (0, .nameAndType 5 6), (0, u "java/lang/Object"), (0, u "<init>"), (0, u "()V"), (0, .fieldref 8 9), (0, .class_ 10), (0, .nameAndType 11 12), (0, u "com/example/chitragupta/chitragupta/Priority"), (0, u "NORMAL"), (0, u "Lcom/example/chitragupta/chitragupta/Priority;"), (0, .fieldref 14 15), (0, .class_ 16), (0, .nameAndType 17 12), (0, u "com/example/chitragupta/chitragupta/JobOptions"), (0, u "priority"), (0, .fieldref 14 19), (0, .nameAndType 20 21), (0, u "maxAttempts"), (0, u "I"), (0, .methodref 23 24), (0, .class_ 25), (0, .nameAndType 26 27), (0, u "java/time/Duration"), (0, u "ofSeconds"), (0, u "(J)Ljava/time/Duration;"), (0, .double 4611686018427387904), (1, .methodref 23 31), (0, .nameAndType 32 27), (0, u "ofHours"), (0, .methodref 34 35), (0, .class_ 36), (0, .nameAndType 37 38), (0, u "com/example/chitragupta/chitragupta/Backoff"), (0, u "exponential"), (0, u "(Ljava/time/Duration;DLjava/time/Duration;)Lcom/example/chitragupta/chitragupta/Backoff;"), (0, .fieldref 14 40), (0, .nameAndType 41 42), (0, u "backoff"), (0, u "Lcom/example/chitragupta/chitragupta/Backoff;"), (8, .fieldref 14 52), (0, .nameAndType 53 54), (0, u "runAt"), (0, u "Ljava/time/Instant;"), (0, .string 17), (0, .methodref 57 58), (0, .class_ 59), (0, .nameAndType 60 61), (0, u "java/util/Objects"), (0, u "requireNonNull"), (0, u "(Ljava/lang/Object;Ljava/lang/String;)Ljava/lang/Object;"), (18, u "idempotencyKey"), (0, u "Ljava/lang/String;"), (4, u "businessKey"), (3, u "(Lcom/example/chitragupta/chitragupta/Priority;)Lcom/example/chitragupta/chitragupta/JobOptions;"), (4, u "()Ljava/time/Instant;"), (0, u "()Lcom/example/chitragupta/chitragupta/Priority;"), (0, u "()I"), (0, u "()Lcom/example/chitragupta/chitragupta/Backoff;")] 18

def k2c0 : Code := { maxStack := 6, maxLocals := 1, code := prog_12_method_1_code, exceptionTable := #[], attributes := #[] }
def k2m0 : Method := { name := "<init>", desc := "()V", sig := { parameters := [], returnType := none }, accessFlags := 1, code := some k2c0 }
def k2c1 : Code := { maxStack := 3, maxLocals := 2, code := prog_12_method_3_code, exceptionTable := #[], attributes := #[] }
def k2m1 : Method := { name := "priority", desc := "(Lcom/example/chitragupta/chitragupta/Priority;)Lcom/example/chitragupta/chitragupta/JobOptions;", sig := { parameters := [(.object "com/example/chitragupta/chitragupta/Priority")], returnType := some (.object "com/example/chitragupta/chitragupta/JobOptions") }, accessFlags := 1, code := some k2c1 }
def k2c2 : Code := { maxStack := 1, maxLocals := 1, code := prog_12_method_8_code, exceptionTable := #[], attributes := #[] }
def k2m2 : Method := { name := "runAt", desc := "()Ljava/time/Instant;", sig := { parameters := [], returnType := some (.object "java/time/Instant") }, accessFlags := 0, code := some k2c2 }
def k2c3 : Code := { maxStack := 1, maxLocals := 1, code := prog_12_method_9_code, exceptionTable := #[], attributes := #[] }
def k2m3 : Method := { name := "priority", desc := "()Lcom/example/chitragupta/chitragupta/Priority;", sig := { parameters := [], returnType := some (.object "com/example/chitragupta/chitragupta/Priority") }, accessFlags := 0, code := some k2c3 }
def k2c4 : Code := { maxStack := 1, maxLocals := 1, code := prog_12_method_10_code, exceptionTable := #[], attributes := #[] }
def k2m4 : Method := { name := "maxAttempts", desc := "()I", sig := { parameters := [], returnType := some .int }, accessFlags := 0, code := some k2c4 }
def k2c5 : Code := { maxStack := 1, maxLocals := 1, code := prog_12_method_11_code, exceptionTable := #[], attributes := #[] }
def k2m5 : Method := { name := "backoff", desc := "()Lcom/example/chitragupta/chitragupta/Backoff;", sig := { parameters := [], returnType := some (.object "com/example/chitragupta/chitragupta/Backoff") }, accessFlags := 0, code := some k2c5 }
/-- com/example/chitragupta/chitragupta/JobOptions -/
def k2 : Class := { plain "com/example/chitragupta/chitragupta/JobOptions" (some 0) with
  accessFlags := 33
  interfaces := #[]
  cf := some (fileOf pool2 14 #[] #[{ accessFlags := 1, nameIndex := 5, descriptorIndex := 6, attributes := #[] }, { accessFlags := 1, nameIndex := 17, descriptorIndex := 90, attributes := #[] }, { accessFlags := 0, nameIndex := 53, descriptorIndex := 95, attributes := #[] }, { accessFlags := 0, nameIndex := 17, descriptorIndex := 96, attributes := #[] }, { accessFlags := 0, nameIndex := 20, descriptorIndex := 97, attributes := #[] }, { accessFlags := 0, nameIndex := 41, descriptorIndex := 98, attributes := #[] }] 33 2 #[] #[{ accessFlags := 2, nameIndex := 53, descriptorIndex := 54, attributes := #[] }, { accessFlags := 2, nameIndex := 17, descriptorIndex := 12, attributes := #[] }, { accessFlags := 2, nameIndex := 20, descriptorIndex := 21, attributes := #[] }, { accessFlags := 2, nameIndex := 41, descriptorIndex := 42, attributes := #[] }, { accessFlags := 2, nameIndex := 80, descriptorIndex := 81, attributes := #[] }, { accessFlags := 2, nameIndex := 86, descriptorIndex := 81, attributes := #[] }])
  fields := #[{ name := "runAt", type := (.object "java/time/Instant"), accessFlags := 2, slot := 0, constantValue := 0 }, { name := "priority", type := (.object "com/example/chitragupta/chitragupta/Priority"), accessFlags := 2, slot := 1, constantValue := 0 }, { name := "maxAttempts", type := .int, accessFlags := 2, slot := 2, constantValue := 0 }, { name := "backoff", type := (.object "com/example/chitragupta/chitragupta/Backoff"), accessFlags := 2, slot := 3, constantValue := 0 }, { name := "idempotencyKey", type := (.object "java/lang/String"), accessFlags := 2, slot := 4, constantValue := 0 }, { name := "businessKey", type := (.object "java/lang/String"), accessFlags := 2, slot := 5, constantValue := 0 }]
  methods := #[k2m0, k2m1, k2m2, k2m3, k2m4, k2m5]
  instanceTypes := #[(.object "java/time/Instant"), (.object "com/example/chitragupta/chitragupta/Priority"), .int, (.object "com/example/chitragupta/chitragupta/Backoff"), (.object "java/lang/String"), (.object "java/lang/String")]
  staticTypes := #[]
  resolved := Array.replicate 117 none
  statics := none }

def pool3 : Array CpInfo := pool [(1, .class_ 2), (0, u "java/lang/constant/Constable"), (0, .class_ 4), (0, u "java/lang/Object")] 6

/-- java/lang/constant/Constable -/
def k3 : Class := { plain "java/lang/constant/Constable" (some 0) with
  accessFlags := 1537
  interfaces := #[]
  cf := some (fileOf pool3 1 #[] #[] 1537 3 #[] #[])
  fields := #[]
  methods := #[]
  instanceTypes := #[]
  staticTypes := #[]
  resolved := Array.replicate 11 none
  statics := none }

def pool4 : Array CpInfo := pool [(1, .class_ 2), (0, u "java/lang/Comparable"), (0, .class_ 4), (0, u "java/lang/Object")] 7

/-- java/lang/Comparable -/
def k4 : Class := { plain "java/lang/Comparable" (some 0) with
  accessFlags := 1537
  interfaces := #[]
  cf := some (fileOf pool4 1 #[] #[] 1537 3 #[] #[])
  fields := #[]
  methods := #[]
  instanceTypes := #[]
  staticTypes := #[]
  resolved := Array.replicate 12 none
  statics := none }

def pool5 : Array CpInfo := pool [(1, .class_ 2), (0, u "java/io/Serializable"), (0, .class_ 4), (0, u "java/lang/Object")] 2

/-- java/io/Serializable -/
def k5 : Class := { plain "java/io/Serializable" (some 0) with
  accessFlags := 1537
  interfaces := #[]
  cf := some (fileOf pool5 1 #[] #[] 1537 3 #[] #[])
  fields := #[]
  methods := #[]
  instanceTypes := #[]
  staticTypes := #[]
  resolved := Array.replicate 7 none
  statics := none }

def pool6 : Array CpInfo := pool [(2, .class_ 4), (1, u "java/lang/Enum"), (0, u "name"), (0, u "Ljava/lang/String;"), (2, u "ordinal"), (0, u "I"), (1, .class_ 14), (1, u "java/lang/Object"), (4, u "hash"), (86, .class_ 108), (1, u "java/lang/Enum$EnumDesc"), (2, .class_ 112), (0, u "java/lang/constant/Constable"), (0, .class_ 114), (0, u "java/lang/Comparable"), (0, .class_ 116), (0, u "java/io/Serializable")] 87

/-- java/lang/Enum -/
def k6 : Class := { plain "java/lang/Enum" (some 0) with
  accessFlags := 1057
  interfaces := #[3, 4, 5]
  cf := some (fileOf pool6 2 #[.nestMembers #[106]] #[] 1057 12 #[111, 113, 115] #[{ accessFlags := 18, nameIndex := 5, descriptorIndex := 6, attributes := #[] }, { accessFlags := 18, nameIndex := 9, descriptorIndex := 10, attributes := #[] }, { accessFlags := 2, nameIndex := 19, descriptorIndex := 10, attributes := #[] }])
  fields := #[{ name := "name", type := (.object "java/lang/String"), accessFlags := 18, slot := 0, constantValue := 0 }, { name := "ordinal", type := .int, accessFlags := 18, slot := 1, constantValue := 0 }, { name := "hash", type := .int, accessFlags := 2, slot := 2, constantValue := 0 }]
  methods := #[]
  instanceTypes := #[(.object "java/lang/String"), .int, .int]
  staticTypes := #[]
  resolved := Array.replicate 204 none
  statics := none }

def pool7 : Array CpInfo := pool [(1, .class_ 2), (0, u "com/example/chitragupta/chitragupta/Priority"), (2, u "LOWEST"), (0, u "Lcom/example/chitragupta/chitragupta/Priority;"), (2, u "LOW"), (2, u "NORMAL"), (2, u "HIGH"), (2, u "CRITICAL"), (2, u "$VALUES"), (0, u "[Lcom/example/chitragupta/chitragupta/Priority;"), (6, .class_ 31), (1, u "java/lang/Enum"), (8, u "level"), (0, u "I")] 25

/-- com/example/chitragupta/chitragupta/Priority -/
def k7 : Class := { plain "com/example/chitragupta/chitragupta/Priority" (some 6) with
  accessFlags := 16433
  interfaces := #[]
  cf := some (fileOf pool7 1 #[] #[] 16433 29 #[] #[{ accessFlags := 16409, nameIndex := 5, descriptorIndex := 6, attributes := #[] }, { accessFlags := 16409, nameIndex := 9, descriptorIndex := 6, attributes := #[] }, { accessFlags := 16409, nameIndex := 12, descriptorIndex := 6, attributes := #[] }, { accessFlags := 16409, nameIndex := 15, descriptorIndex := 6, attributes := #[] }, { accessFlags := 16409, nameIndex := 18, descriptorIndex := 6, attributes := #[] }, { accessFlags := 18, nameIndex := 40, descriptorIndex := 41, attributes := #[] }, { accessFlags := 4122, nameIndex := 21, descriptorIndex := 22, attributes := #[] }])
  fields := #[{ name := "LOWEST", type := (.object "com/example/chitragupta/chitragupta/Priority"), accessFlags := 16409, slot := 0, constantValue := 0 }, { name := "LOW", type := (.object "com/example/chitragupta/chitragupta/Priority"), accessFlags := 16409, slot := 1, constantValue := 0 }, { name := "NORMAL", type := (.object "com/example/chitragupta/chitragupta/Priority"), accessFlags := 16409, slot := 2, constantValue := 0 }, { name := "HIGH", type := (.object "com/example/chitragupta/chitragupta/Priority"), accessFlags := 16409, slot := 3, constantValue := 0 }, { name := "CRITICAL", type := (.object "com/example/chitragupta/chitragupta/Priority"), accessFlags := 16409, slot := 4, constantValue := 0 }, { name := "level", type := .int, accessFlags := 18, slot := 3, constantValue := 0 }, { name := "$VALUES", type := (.array (.object "com/example/chitragupta/chitragupta/Priority")), accessFlags := 4122, slot := 5, constantValue := 0 }]
  methods := #[]
  instanceTypes := #[(.object "java/lang/String"), .int, .int, .int]
  staticTypes := #[(.object "com/example/chitragupta/chitragupta/Priority"), (.object "com/example/chitragupta/chitragupta/Priority"), (.object "com/example/chitragupta/chitragupta/Priority"), (.object "com/example/chitragupta/chitragupta/Priority"), (.object "com/example/chitragupta/chitragupta/Priority"), (.array (.object "com/example/chitragupta/chitragupta/Priority"))]
  resolved := Array.replicate 67 none
  statics := some 0 }

def pool8 : Array CpInfo := pool [(1, .class_ 2), (0, u "java/time/temporal/TemporalAmount"), (0, .class_ 4), (0, u "java/lang/Object")] 11

/-- java/time/temporal/TemporalAmount -/
def k8 : Class := { plain "java/time/temporal/TemporalAmount" (some 0) with
  accessFlags := 1537
  interfaces := #[]
  cf := some (fileOf pool8 1 #[] #[] 1537 3 #[] #[])
  fields := #[]
  methods := #[]
  instanceTypes := #[]
  staticTypes := #[]
  resolved := Array.replicate 16 none
  statics := none }

def pool9 : Array CpInfo := pool [(4, .methodref 5 6), (0, .class_ 7), (0, .nameAndType 8 9), (0, u "java/lang/Math"), (0, u "multiplyExact"), (0, u "(JI)J"), (0, .methodref 11 12), (0, .class_ 13), (0, .nameAndType 14 15), (0, u "java/time/Duration"), (0, u "create"), (0, u "(JI)Ljava/time/Duration;"), (18, u "ZERO"), (0, u "Ljava/time/Duration;"), (13, .class_ 51), (1, u "java/time/temporal/TemporalAmount"), (13, u "()Z"), (13, .class_ 81), (1, u "java/time/Duration$Lazy"), (35, u "seconds"), (21, u "<init>"), (7, .class_ 149), (1, u "java/lang/Long"), (7, .nameAndType 139 158), (0, u "()V"), (19, u "ofSeconds"), (20, u "(J)Ljava/time/Duration;"), (15, .methodref 11 216), (0, .nameAndType 139 217), (0, u "(JI)V"), (0, .methodref 219 157), (0, .class_ 220), (0, u "java/lang/Object"), (0, .fieldref 11 222), (0, .nameAndType 117 223), (0, u "J"), (0, .fieldref 11 225), (0, .nameAndType 226 227), (0, u "nanos"), (0, u "I"), (11, .class_ 241), (1, u "java/time/Duration$DurationUnits"), (27, .class_ 271), (1, u "java/time/Duration$1"), (91, u "BI_NANOS_PER_SECOND"), (0, u "Ljava/math/BigInteger;"), (21, u "isNegative"), (29, .methodref 147 417), (0, .nameAndType 418 419), (0, u "compare"), (0, u "(JJ)I"), (60, u "compareTo"), (0, u "(Ljava/time/Duration;)I"), (3, .class_ 486), (0, u "java/lang/Comparable"), (0, .class_ 488), (0, u "java/io/Serializable"), (0, u "serialVersionUID"), (7, u "ofHours"), (58, u "isZero")] 99

def k9c0 : Code := { maxStack := 3, maxLocals := 2, code := jdk_2316_method_2_code, exceptionTable := #[], attributes := #[] }
def k9m0 : Method := { name := "ofHours", desc := "(J)Ljava/time/Duration;", sig := { parameters := [.long], returnType := some (.object "java/time/Duration") }, accessFlags := 9, code := some k9c0 }
def k9c1 : Code := { maxStack := 3, maxLocals := 2, code := jdk_2316_method_4_code, exceptionTable := #[], attributes := #[] }
def k9m1 : Method := { name := "ofSeconds", desc := "(J)Ljava/time/Duration;", sig := { parameters := [.long], returnType := some (.object "java/time/Duration") }, accessFlags := 9, code := some k9c1 }
def k9c2 : Code := { maxStack := 5, maxLocals := 3, code := jdk_2316_method_16_code, exceptionTable := #[], attributes := #[] }
def k9m2 : Method := { name := "create", desc := "(JI)Ljava/time/Duration;", sig := { parameters := [.long, .int], returnType := some (.object "java/time/Duration") }, accessFlags := 10, code := some k9c2 }
def k9c3 : Code := { maxStack := 3, maxLocals := 4, code := jdk_2316_method_17_code, exceptionTable := #[], attributes := #[] }
def k9m3 : Method := { name := "<init>", desc := "(JI)V", sig := { parameters := [.long, .int], returnType := none }, accessFlags := 2, code := some k9c3 }
def k9c4 : Code := { maxStack := 4, maxLocals := 1, code := jdk_2316_method_21_code, exceptionTable := #[], attributes := #[] }
def k9m4 : Method := { name := "isZero", desc := "()Z", sig := { parameters := [], returnType := some .boolean }, accessFlags := 1, code := some k9c4 }
def k9c5 : Code := { maxStack := 4, maxLocals := 1, code := jdk_2316_method_22_code, exceptionTable := #[], attributes := #[] }
def k9m5 : Method := { name := "isNegative", desc := "()Z", sig := { parameters := [], returnType := some .boolean }, accessFlags := 1, code := some k9c5 }
def k9c6 : Code := { maxStack := 4, maxLocals := 3, code := jdk_2316_method_66_code, exceptionTable := #[], attributes := #[] }
def k9m6 : Method := { name := "compareTo", desc := "(Ljava/time/Duration;)I", sig := { parameters := [(.object "java/time/Duration")], returnType := some .int }, accessFlags := 1, code := some k9c6 }
/-- java/time/Duration -/
def k9 : Class := { plain "java/time/Duration" (some 0) with
  accessFlags := 49
  interfaces := #[8, 4, 5]
  cf := some (fileOf pool9 11 #[.nestMembers #[269, 239, 79]] #[{ accessFlags := 9, nameIndex := 497, descriptorIndex := 199, attributes := #[] }, { accessFlags := 9, nameIndex := 178, descriptorIndex := 199, attributes := #[] }, { accessFlags := 10, nameIndex := 14, descriptorIndex := 15, attributes := #[] }, { accessFlags := 2, nameIndex := 139, descriptorIndex := 217, attributes := #[] }, { accessFlags := 1, nameIndex := 556, descriptorIndex := 65, attributes := #[] }, { accessFlags := 1, nameIndex := 386, descriptorIndex := 65, attributes := #[] }, { accessFlags := 1, nameIndex := 480, descriptorIndex := 481, attributes := #[] }] 49 219 #[49, 485, 487] #[{ accessFlags := 25, nameIndex := 34, descriptorIndex := 35, attributes := #[] }, { accessFlags := 26, nameIndex := 489, descriptorIndex := 223, attributes := #[] }, { accessFlags := 26, nameIndex := 363, descriptorIndex := 364, attributes := #[] }, { accessFlags := 18, nameIndex := 117, descriptorIndex := 223, attributes := #[] }, { accessFlags := 18, nameIndex := 226, descriptorIndex := 227, attributes := #[] }])
  fields := #[{ name := "ZERO", type := (.object "java/time/Duration"), accessFlags := 25, slot := 0, constantValue := 0 }, { name := "serialVersionUID", type := .long, accessFlags := 26, slot := 1, constantValue := 0 }, { name := "BI_NANOS_PER_SECOND", type := (.object "java/math/BigInteger"), accessFlags := 26, slot := 2, constantValue := 0 }, { name := "seconds", type := .long, accessFlags := 18, slot := 0, constantValue := 0 }, { name := "nanos", type := .int, accessFlags := 18, slot := 1, constantValue := 0 }]
  methods := #[k9m0, k9m1, k9m2, k9m3, k9m4, k9m5, k9m6]
  instanceTypes := #[.long, .int]
  staticTypes := #[(.object "java/time/Duration"), .long, (.object "java/math/BigInteger")]
  resolved := Array.replicate 656 none
  statics := none }

def pool10 : Array CpInfo := pool [(1, .class_ 2), (0, u "java/lang/Math"), (1, .class_ 6), (1, u "java/lang/Object"), (0, u "<init>"), (0, u "()V"), (89, .class_ 100), (1, u "java/lang/Math$RandomNumberGeneratorHolder"), (17, .methodref 1 119), (0, .nameAndType 120 121), (0, u "multiplyExact"), (0, u "(JJ)J"), (0, .methodref 1 123), (0, .nameAndType 124 125), (0, u "abs"), (0, u "(J)J"), (46, u "negativeZeroFloatBits"), (0, u "J"), (2, u "negativeZeroDoubleBits"), (68, u "$assertionsDisabled"), (0, u "Z"), (91, u "twoToTheDoubleScaleDown"), (0, u "D"), (4, u "twoToTheDoubleScaleUp"), (9, u "E"), (3, u "PI"), (2, u "TAU"), (2, u "DEGREES_TO_RADIANS"), (0, u "RADIANS_TO_DEGREES"), (29, u "(JI)J")] 64

def k10m0 : Method := { name := "<init>", desc := "()V", sig := { parameters := [], returnType := none }, accessFlags := 2, code := none }
def k10c1 : Code := { maxStack := 4, maxLocals := 3, code := jdk_29_method_29_code, exceptionTable := #[], attributes := #[] }
def k10m1 : Method := { name := "multiplyExact", desc := "(JI)J", sig := { parameters := [.long, .int], returnType := some .long }, accessFlags := 9, code := some k10c1 }
def k10c2 : Code := { maxStack := 4, maxLocals := 10, code := jdk_29_method_30_code, exceptionTable := #[], attributes := #[] }
def k10m2 : Method := { name := "multiplyExact", desc := "(JJ)J", sig := { parameters := [.long, .long], returnType := some .long }, accessFlags := 9, code := some k10c2 }
def k10c3 : Code := { maxStack := 4, maxLocals := 2, code := jdk_29_method_61_code, exceptionTable := #[], attributes := #[] }
def k10m3 : Method := { name := "abs", desc := "(J)J", sig := { parameters := [.long], returnType := some .long }, accessFlags := 9, code := some k10c3 }
/-- java/lang/Math -/
def k10 : Class := { plain "java/lang/Math" (some 0) with
  accessFlags := 49
  interfaces := #[]
  cf := some (fileOf pool10 1 #[.nestMembers #[98]] #[{ accessFlags := 2, nameIndex := 7, descriptorIndex := 8, attributes := #[] }, { accessFlags := 9, nameIndex := 120, descriptorIndex := 395, attributes := #[] }, { accessFlags := 9, nameIndex := 120, descriptorIndex := 121, attributes := #[] }, { accessFlags := 9, nameIndex := 124, descriptorIndex := 125, attributes := #[] }] 49 4 #[] #[{ accessFlags := 25, nameIndex := 354, descriptorIndex := 339, attributes := #[] }, { accessFlags := 25, nameIndex := 358, descriptorIndex := 339, attributes := #[] }, { accessFlags := 25, nameIndex := 361, descriptorIndex := 339, attributes := #[] }, { accessFlags := 26, nameIndex := 364, descriptorIndex := 339, attributes := #[] }, { accessFlags := 26, nameIndex := 365, descriptorIndex := 339, attributes := #[] }, { accessFlags := 26, nameIndex := 172, descriptorIndex := 173, attributes := #[] }, { accessFlags := 26, nameIndex := 176, descriptorIndex := 173, attributes := #[] }, { accessFlags := 8, nameIndex := 344, descriptorIndex := 339, attributes := #[] }, { accessFlags := 8, nameIndex := 338, descriptorIndex := 339, attributes := #[] }, { accessFlags := 4120, nameIndex := 245, descriptorIndex := 246, attributes := #[] }])
  fields := #[{ name := "E", type := .double, accessFlags := 25, slot := 0, constantValue := 0 }, { name := "PI", type := .double, accessFlags := 25, slot := 1, constantValue := 0 }, { name := "TAU", type := .double, accessFlags := 25, slot := 2, constantValue := 0 }, { name := "DEGREES_TO_RADIANS", type := .double, accessFlags := 26, slot := 3, constantValue := 0 }, { name := "RADIANS_TO_DEGREES", type := .double, accessFlags := 26, slot := 4, constantValue := 0 }, { name := "negativeZeroFloatBits", type := .long, accessFlags := 26, slot := 5, constantValue := 0 }, { name := "negativeZeroDoubleBits", type := .long, accessFlags := 26, slot := 6, constantValue := 0 }, { name := "twoToTheDoubleScaleUp", type := .double, accessFlags := 8, slot := 7, constantValue := 0 }, { name := "twoToTheDoubleScaleDown", type := .double, accessFlags := 8, slot := 8, constantValue := 0 }, { name := "$assertionsDisabled", type := .boolean, accessFlags := 4120, slot := 9, constantValue := 0 }]
  methods := #[k10m0, k10m1, k10m2, k10m3]
  instanceTypes := #[]
  staticTypes := #[.double, .double, .double, .double, .double, .long, .long, .double, .double, .boolean]
  resolved := Array.replicate 460 none
  statics := none }

def pool11 : Array CpInfo := pool [(1, .methodref 2 3), (0, .class_ 4), (0, .nameAndType 5 6), (0, u "java/lang/Object"), (0, u "<init>"), (0, u "()V"), (0, .fieldref 8 9), (0, .class_ 10), (0, .nameAndType 11 12), (0, u "com/example/chitragupta/chitragupta/Backoff"), (0, u "initial"), (0, u "Ljava/time/Duration;"), (0, .fieldref 8 14), (0, .nameAndType 15 16), (0, u "factor"), (0, u "D"), (0, .fieldref 8 18), (0, .nameAndType 19 12), (0, u "max"), (2, .methodref 23 24), (0, .class_ 25), (0, .nameAndType 26 27), (0, u "com/example/chitragupta/chitragupta/Limits"), (0, u "requireDuration"), (0, u "(Ljava/lang/String;Ljava/time/Duration;)Ljava/time/Duration;"), (0, .methodref 8 29), (0, .nameAndType 5 30), (0, u "(Ljava/time/Duration;DLjava/time/Duration;)V"), (0, .string 32), (0, u "initial delay"), (0, .string 34), (0, u "maximum delay"), (0, .methodref 36 37), (0, .class_ 38), (0, .nameAndType 39 40), (0, u "java/time/Duration"), (0, u "isZero"), (0, u "()Z"), (9, .double 9218868437227405312), (5, .methodref 36 57), (0, .nameAndType 58 59), (0, u "compareTo"), (0, u "(Ljava/time/Duration;)I"), (27, u "exponential"), (0, u "(Ljava/time/Duration;DLjava/time/Duration;)Lcom/example/chitragupta/chitragupta/Backoff;")] 24

def k11c0 : Code := { maxStack := 3, maxLocals := 5, code := prog_2_method_1_code, exceptionTable := #[], attributes := #[] }
def k11m0 : Method := { name := "<init>", desc := "(Ljava/time/Duration;DLjava/time/Duration;)V", sig := { parameters := [(.object "java/time/Duration"), .double, (.object "java/time/Duration")], returnType := none }, accessFlags := 0, code := some k11c0 }
def k11c1 : Code := { maxStack := 6, maxLocals := 4, code := prog_2_method_3_code, exceptionTable := #[], attributes := #[] }
def k11m1 : Method := { name := "exponential", desc := "(Ljava/time/Duration;DLjava/time/Duration;)Lcom/example/chitragupta/chitragupta/Backoff;", sig := { parameters := [(.object "java/time/Duration"), .double, (.object "java/time/Duration")], returnType := some (.object "com/example/chitragupta/chitragupta/Backoff") }, accessFlags := 9, code := some k11c1 }
/-- com/example/chitragupta/chitragupta/Backoff -/
def k11 : Class := { plain "com/example/chitragupta/chitragupta/Backoff" (some 0) with
  accessFlags := 33
  interfaces := #[]
  cf := some (fileOf pool11 8 #[] #[{ accessFlags := 0, nameIndex := 5, descriptorIndex := 30, attributes := #[] }, { accessFlags := 9, nameIndex := 87, descriptorIndex := 88, attributes := #[] }] 33 2 #[] #[{ accessFlags := 18, nameIndex := 11, descriptorIndex := 12, attributes := #[] }, { accessFlags := 18, nameIndex := 15, descriptorIndex := 16, attributes := #[] }, { accessFlags := 18, nameIndex := 19, descriptorIndex := 12, attributes := #[] }])
  fields := #[{ name := "initial", type := (.object "java/time/Duration"), accessFlags := 18, slot := 0, constantValue := 0 }, { name := "factor", type := .double, accessFlags := 18, slot := 1, constantValue := 0 }, { name := "max", type := (.object "java/time/Duration"), accessFlags := 18, slot := 2, constantValue := 0 }]
  methods := #[k11m0, k11m1]
  instanceTypes := #[(.object "java/time/Duration"), .double, (.object "java/time/Duration")]
  staticTypes := #[]
  resolved := Array.replicate 113 none
  statics := none }

def pool12 : Array CpInfo := pool [(2, .class_ 4), (1, u "java/lang/CharSequence"), (42, .class_ 48), (0, u "java/lang/CharSequence$1CodePointIterator"), (10, .class_ 60), (0, u "java/lang/CharSequence$1CharIterator"), (5, .class_ 67), (0, u "java/lang/Object")] 63

/-- java/lang/CharSequence -/
def k12 : Class := { plain "java/lang/CharSequence" (some 0) with
  accessFlags := 1537
  interfaces := #[]
  cf := some (fileOf pool12 2 #[.nestMembers #[47, 59]] #[] 1537 66 #[] #[])
  fields := #[]
  methods := #[]
  instanceTypes := #[]
  staticTypes := #[]
  resolved := Array.replicate 131 none
  statics := none }

def pool13 : Array CpInfo := pool [(1, .class_ 2), (0, u "java/lang/constant/ConstantDesc"), (0, .class_ 4), (0, u "java/lang/Object")] 32

/-- java/lang/constant/ConstantDesc -/
def k13 : Class := { plain "java/lang/constant/ConstantDesc" (some 0) with
  accessFlags := 1537
  interfaces := #[]
  cf := some (fileOf pool13 1 #[] #[] 1537 3 #[] #[])
  fields := #[]
  methods := #[]
  instanceTypes := #[]
  staticTypes := #[]
  resolved := Array.replicate 37 none
  statics := none }

def pool14 : Array CpInfo := pool [(2, .class_ 4), (1, u "java/lang/Object"), (0, u "<init>"), (0, u "()V"), (3, .class_ 12), (1, u "java/lang/String"), (0, u "value"), (0, u "[B"), (2, u "coder"), (0, u "B"), (2, u "hash"), (0, u "I"), (2, u "hashIsZero"), (0, u "Z"), (13, u "COMPACT_STRINGS"), (534, .class_ 576), (0, u "java/lang/CharSequence"), (22, u "CASE_INSENSITIVE_ORDER"), (0, u "Ljava/util/Comparator;"), (500, u "serialPersistentFields"), (0, u "[Ljava/io/ObjectStreamField;"), (0, .class_ 1104), (0, u "java/lang/String$CaseInsensitiveComparator"), (1, .class_ 1107), (0, u "java/io/Serializable"), (0, .class_ 1109), (0, u "java/lang/Comparable"), (0, .class_ 1111), (0, u "java/lang/constant/Constable"), (0, .class_ 1113), (0, u "java/lang/constant/ConstantDesc"), (2, u "serialVersionUID"), (0, u "J"), (3, u "REPL"), (0, u "C"), (2, u "LATIN1"), (1, u "UTF16")] 323

def k14m0 : Method := { name := "<init>", desc := "()V", sig := { parameters := [], returnType := none }, accessFlags := 1, code := none }
/-- java/lang/String -/
def k14 : Class := { plain "java/lang/String" (some 0) with
  accessFlags := 49
  interfaces := #[5, 4, 12, 3, 13]
  cf := some (fileOf pool14 10 #[.nestMembers #[1103]] #[{ accessFlags := 1, nameIndex := 5, descriptorIndex := 6, attributes := #[] }] 49 2 #[1106, 1108, 575, 1110, 1112] #[{ accessFlags := 18, nameIndex := 13, descriptorIndex := 14, attributes := #[] }, { accessFlags := 18, nameIndex := 17, descriptorIndex := 18, attributes := #[] }, { accessFlags := 2, nameIndex := 21, descriptorIndex := 22, attributes := #[] }, { accessFlags := 2, nameIndex := 25, descriptorIndex := 26, attributes := #[] }, { accessFlags := 26, nameIndex := 1116, descriptorIndex := 1117, attributes := #[] }, { accessFlags := 24, nameIndex := 40, descriptorIndex := 26, attributes := #[] }, { accessFlags := 26, nameIndex := 1101, descriptorIndex := 1102, attributes := #[] }, { accessFlags := 26, nameIndex := 1121, descriptorIndex := 1122, attributes := #[] }, { accessFlags := 25, nameIndex := 599, descriptorIndex := 600, attributes := #[] }, { accessFlags := 24, nameIndex := 1125, descriptorIndex := 18, attributes := #[] }, { accessFlags := 24, nameIndex := 1127, descriptorIndex := 18, attributes := #[] }])
  fields := #[{ name := "value", type := (.array .byte), accessFlags := 18, slot := 0, constantValue := 0 }, { name := "coder", type := .byte, accessFlags := 18, slot := 1, constantValue := 0 }, { name := "hash", type := .int, accessFlags := 2, slot := 2, constantValue := 0 }, { name := "hashIsZero", type := .boolean, accessFlags := 2, slot := 3, constantValue := 0 }, { name := "serialVersionUID", type := .long, accessFlags := 26, slot := 0, constantValue := 0 }, { name := "COMPACT_STRINGS", type := .boolean, accessFlags := 24, slot := 1, constantValue := 0 }, { name := "serialPersistentFields", type := (.array (.object "java/io/ObjectStreamField")), accessFlags := 26, slot := 2, constantValue := 0 }, { name := "REPL", type := .char, accessFlags := 26, slot := 3, constantValue := 0 }, { name := "CASE_INSENSITIVE_ORDER", type := (.object "java/util/Comparator"), accessFlags := 25, slot := 4, constantValue := 0 }, { name := "LATIN1", type := .byte, accessFlags := 24, slot := 5, constantValue := 0 }, { name := "UTF16", type := .byte, accessFlags := 24, slot := 6, constantValue := 0 }]
  methods := #[k14m0]
  instanceTypes := #[(.array .byte), .byte, .int, .boolean]
  staticTypes := #[.long, .boolean, (.array (.object "java/io/ObjectStreamField")), .char, (.object "java/util/Comparator"), .byte, .byte]
  resolved := Array.replicate 1451 none
  statics := none }

def pool15 : Array CpInfo := pool [(2, .class_ 4), (1, u "java/lang/Object"), (0, u "<init>"), (0, u "()V"), (0, .methodref 8 9), (0, .class_ 10), (0, .nameAndType 11 12), (0, u "java/util/Objects"), (0, u "requireNonNull"), (0, u "(Ljava/lang/Object;Ljava/lang/String;)Ljava/lang/Object;"), (19, .methodref 33 34), (0, .class_ 35), (0, .nameAndType 36 37), (0, u "java/time/Duration"), (0, u "isNegative"), (0, u "()Z"), (0, .fieldref 39 40), (0, .class_ 41), (0, .nameAndType 42 43), (0, u "com/example/chitragupta/chitragupta/Limits"), (0, u "LONGEST_DURATION"), (0, u "Ljava/time/Duration;"), (0, .methodref 33 45), (0, .nameAndType 46 47), (0, u "compareTo"), (0, u "(Ljava/time/Duration;)I"), (13, u "EARLIEST_TIME"), (0, u "Ljava/time/Instant;"), (8, u "LATEST_TIME"), (24, u "SCHEDULE_NAME"), (0, u "I"), (0, u "HANDLER_NAME"), (2, u "NODE_ID"), (1, u "KEY"), (6, u "requireDuration"), (0, u "(Ljava/lang/String;Ljava/time/Duration;)Ljava/time/Duration;")] 24

def k15m0 : Method := { name := "<init>", desc := "()V", sig := { parameters := [], returnType := none }, accessFlags := 2, code := none }
def k15c1 : Code := { maxStack := 6, maxLocals := 2, code := prog_16_method_3_code, exceptionTable := #[], attributes := #[] }
def k15m1 : Method := { name := "requireDuration", desc := "(Ljava/lang/String;Ljava/time/Duration;)Ljava/time/Duration;", sig := { parameters := [(.object "java/lang/String"), (.object "java/time/Duration")], returnType := some (.object "java/time/Duration") }, accessFlags := 8, code := some k15c1 }
/-- com/example/chitragupta/chitragupta/Limits -/
def k15 : Class := { plain "com/example/chitragupta/chitragupta/Limits" (some 0) with
  accessFlags := 32
  interfaces := #[]
  cf := some (fileOf pool15 39 #[] #[{ accessFlags := 2, nameIndex := 5, descriptorIndex := 6, attributes := #[] }, { accessFlags := 8, nameIndex := 110, descriptorIndex := 111, attributes := #[] }] 32 2 #[] #[{ accessFlags := 24, nameIndex := 61, descriptorIndex := 62, attributes := #[] }, { accessFlags := 24, nameIndex := 71, descriptorIndex := 62, attributes := #[] }, { accessFlags := 24, nameIndex := 42, descriptorIndex := 43, attributes := #[] }, { accessFlags := 24, nameIndex := 98, descriptorIndex := 97, attributes := #[] }, { accessFlags := 24, nameIndex := 101, descriptorIndex := 97, attributes := #[] }, { accessFlags := 24, nameIndex := 103, descriptorIndex := 97, attributes := #[] }, { accessFlags := 24, nameIndex := 96, descriptorIndex := 97, attributes := #[] }])
  fields := #[{ name := "EARLIEST_TIME", type := (.object "java/time/Instant"), accessFlags := 24, slot := 0, constantValue := 0 }, { name := "LATEST_TIME", type := (.object "java/time/Instant"), accessFlags := 24, slot := 1, constantValue := 0 }, { name := "LONGEST_DURATION", type := (.object "java/time/Duration"), accessFlags := 24, slot := 2, constantValue := 0 }, { name := "HANDLER_NAME", type := .int, accessFlags := 24, slot := 3, constantValue := 0 }, { name := "NODE_ID", type := .int, accessFlags := 24, slot := 4, constantValue := 0 }, { name := "KEY", type := .int, accessFlags := 24, slot := 5, constantValue := 0 }, { name := "SCHEDULE_NAME", type := .int, accessFlags := 24, slot := 6, constantValue := 0 }]
  methods := #[k15m0, k15m1]
  instanceTypes := #[]
  staticTypes := #[(.object "java/time/Instant"), (.object "java/time/Instant"), (.object "java/time/Duration"), .int, .int, .int, .int]
  resolved := Array.replicate 136 none
  statics := some 1 }

def pool16 : Array CpInfo := pool [(2, .class_ 4), (1, u "java/lang/Object"), (0, u "<init>"), (0, u "()V"), (35, .class_ 44), (1, u "java/util/Objects"), (0, u "requireNonNull"), (48, u "(Ljava/lang/Object;Ljava/lang/String;)Ljava/lang/Object;")] 89

def k16m0 : Method := { name := "<init>", desc := "()V", sig := { parameters := [], returnType := none }, accessFlags := 2, code := none }
def k16c1 : Code := { maxStack := 3, maxLocals := 2, code := jdk_31_method_11_code, exceptionTable := #[], attributes := #[] }
def k16m1 : Method := { name := "requireNonNull", desc := "(Ljava/lang/Object;Ljava/lang/String;)Ljava/lang/Object;", sig := { parameters := [(.object "java/lang/Object"), (.object "java/lang/String")], returnType := some (.object "java/lang/Object") }, accessFlags := 9, code := some k16c1 }
/-- java/util/Objects -/
def k16 : Class := { plain "java/util/Objects" (some 0) with
  accessFlags := 49
  interfaces := #[]
  cf := some (fileOf pool16 42 #[] #[{ accessFlags := 2, nameIndex := 5, descriptorIndex := 6, attributes := #[] }, { accessFlags := 9, nameIndex := 45, descriptorIndex := 94, attributes := #[] }] 49 2 #[] #[])
  fields := #[]
  methods := #[k16m0, k16m1]
  instanceTypes := #[]
  staticTypes := #[]
  resolved := Array.replicate 184 none
  statics := none }

def pool17 : Array CpInfo := pool [(2, .class_ 4), (1, u "java/lang/Object"), (0, u "<init>"), (0, u "()V"), (1, .class_ 10), (1, u "java/lang/Number"), (2, .class_ 14), (0, u "java/io/Serializable"), (0, u "serialVersionUID"), (0, u "J")] 20

def k17m0 : Method := { name := "<init>", desc := "()V", sig := { parameters := [], returnType := none }, accessFlags := 1, code := none }
/-- java/lang/Number -/
def k17 : Class := { plain "java/lang/Number" (some 0) with
  accessFlags := 1057
  interfaces := #[5]
  cf := some (fileOf pool17 8 #[] #[{ accessFlags := 1, nameIndex := 5, descriptorIndex := 6, attributes := #[] }] 1057 2 #[13] #[{ accessFlags := 26, nameIndex := 15, descriptorIndex := 16, attributes := #[] }])
  fields := #[{ name := "serialVersionUID", type := .long, accessFlags := 26, slot := 0, constantValue := 0 }]
  methods := #[k17m0]
  instanceTypes := #[]
  staticTypes := #[.long]
  resolved := Array.replicate 37 none
  statics := none }

def pool18 : Array CpInfo := pool [(1, .class_ 2), (0, u "java/lang/Long"), (232, .class_ 237), (1, u "java/lang/Long$LongCache"), (33, .class_ 272), (0, u "java/lang/Number"), (2, u "value"), (0, u "J"), (27, u "compare"), (0, u "(JJ)I"), (55, u "TYPE"), (0, u "Ljava/lang/Class;"), (0, .class_ 364), (0, u "java/lang/Comparable"), (0, .class_ 366), (0, u "java/lang/constant/Constable"), (0, .class_ 368), (0, u "java/lang/constant/ConstantDesc"), (0, u "MIN_VALUE"), (1, u "MAX_VALUE"), (4, u "SIZE"), (0, u "I"), (1, u "BYTES"), (1, u "serialVersionUID")] 142

def k18c0 : Code := { maxStack := 4, maxLocals := 4, code := jdk_35_method_42_code, exceptionTable := #[], attributes := #[] }
def k18m0 : Method := { name := "compare", desc := "(JJ)I", sig := { parameters := [.long, .long], returnType := some .int }, accessFlags := 9, code := some k18c0 }
/-- java/lang/Long -/
def k18 : Class := { plain "java/lang/Long" (some 17) with
  accessFlags := 49
  interfaces := #[4, 3, 13]
  cf := some (fileOf pool18 1 #[.nestMembers #[235]] #[{ accessFlags := 9, nameIndex := 304, descriptorIndex := 305, attributes := #[] }] 49 271 #[363, 365, 367] #[{ accessFlags := 25, nameIndex := 369, descriptorIndex := 276, attributes := #[] }, { accessFlags := 25, nameIndex := 371, descriptorIndex := 276, attributes := #[] }, { accessFlags := 25, nameIndex := 361, descriptorIndex := 362, attributes := #[] }, { accessFlags := 18, nameIndex := 275, descriptorIndex := 276, attributes := #[] }, { accessFlags := 25, nameIndex := 376, descriptorIndex := 377, attributes := #[] }, { accessFlags := 25, nameIndex := 379, descriptorIndex := 377, attributes := #[] }, { accessFlags := 26, nameIndex := 381, descriptorIndex := 276, attributes := #[] }])
  fields := #[{ name := "MIN_VALUE", type := .long, accessFlags := 25, slot := 0, constantValue := 0 }, { name := "MAX_VALUE", type := .long, accessFlags := 25, slot := 1, constantValue := 0 }, { name := "TYPE", type := (.object "java/lang/Class"), accessFlags := 25, slot := 2, constantValue := 0 }, { name := "value", type := .long, accessFlags := 18, slot := 0, constantValue := 0 }, { name := "SIZE", type := .int, accessFlags := 25, slot := 3, constantValue := 0 }, { name := "BYTES", type := .int, accessFlags := 25, slot := 4, constantValue := 0 }, { name := "serialVersionUID", type := .long, accessFlags := 26, slot := 5, constantValue := 0 }]
  methods := #[k18m0]
  instanceTypes := #[.long]
  staticTypes := #[.long, .long, (.object "java/lang/Class"), .int, .int, .long]
  resolved := Array.replicate 524 none
  statics := none }

def pool19 : Array CpInfo := pool [(1, u "java/lang/Cloneable"), (0, .class_ 1), (0, u "java/lang/Object"), (0, .class_ 3)] 3

/-- java/lang/Cloneable -/
def k19 : Class := { plain "java/lang/Cloneable" (some 0) with
  accessFlags := 1537
  interfaces := #[]
  cf := some (fileOf pool19 2 #[] #[] 1537 4 #[] #[])
  fields := #[]
  methods := #[]
  instanceTypes := #[]
  staticTypes := #[]
  resolved := Array.replicate 8 none
  statics := none }

/-- the primitive byte -/
def k20 : Class := { plain "byte" none with kind := .primitive 'B', accessFlags := 0x411 }
/-- [B -/
def k21 : Class := { plain "[B" (some 0) with kind := .array 20 .byte, interfaces := #[19, 5], accessFlags := 1041 }

/-- the primitive int -/
def k22 : Class := { plain "int" none with kind := .primitive 'I', accessFlags := 0x411 }
/-- [I -/
def k23 : Class := { plain "[I" (some 0) with kind := .array 22 .int, interfaces := #[19, 5], accessFlags := 1041 }

def heap : Heap := #[{ cls := 7, slots := #[.ref 2, .ref 2, .ref 2, .ref 2, .ref 2, .null], vm := .statics 7 },
  { cls := 15, slots := #[.null, .null, .ref 3, .int 0, .int 0, .int 0, .int 0], vm := .statics 15 },
  { cls := 7, slots := #[.null, .int 2, .int 0, .int 2], vm := .none },
  { cls := 9, slots := #[.long 31536000, .int 0], vm := .none }]
def classes : Array Class := #[k0, k1, k2, k3, k4, k5, k6, k7, k8, k9, k10, k11, k12, k13, k14, k15, k16, k17, k18, k19, k20, k21, k22, k23]
def interned : List (Array UInt16 × Addr) := []
def slotsUsed : Nat := 19
def theMethod : MethodId := ⟨1, 2⟩
def args0 : Array Value := #[.int 5, .int 5, .int 5]
def aboutOver (below : List Frame) : State where
  vm := { classes := classes, interned := interned.toArray }
  heap := heap
  slotsUsed := slotsUsed
  threads := #[{ frames := .invoking theMethod args0 :: below }]
def below0 : List Frame := [.native { method := ⟨0, 0⟩, args := #[] }]
def about1 : State := aboutOver below0
def p0 : Program := .bare "" "" ""
def e0 : Env := launch0.env 0 0 0
theorem w_frames : about1.frames = Frame.invoking theMethod args0 :: below0 := rfl
set_option maxRecDepth 65536 in
theorem w_args : argsFit about1.vm theMethod args0 = true := by decide +kernel
set_option maxRecDepth 65536 in
theorem w_heap : heapFits about1 = true := by decide +kernel
set_option maxRecDepth 65536 in
theorem w_runnable : about1.curStatus? = some .runnable := by decide +kernel
set_option maxRecDepth 65536 in
theorem w_alone : about1.alone = true := by decide +kernel
set_option maxRecDepth 65536 in
theorem w_named : about1.methodNamed? x = some theMethod := by decide +kernel
set_option maxRecDepth 65536 in
theorem w_hears : about1.hears theMethod below0 = true := by decide +kernel
set_option maxRecDepth 65536 in
theorem w_ripe : about1.ripe theMethod args0 below0 = true := by decide +kernel
theorem w_running : about1.status = .running := rfl
set_option maxRecDepth 65536 in
theorem w_room : about1.hasRoom e0.platform room_1 = true :=
  launch0.hasRoom_least _ room_1 (by decide +kernel) (by decide +kernel) (by decide +kernel) (by decide +kernel) (by decide +kernel) (by decide +kernel)
theorem allAtoms_all (ts : List Jvm.Cond) (a : Array Jvm.Value) (st : Jvm.State) : (allAtoms ts).before a st = ts.all (fun c => c.before a st) := by
  induction ts with
  | nil => rfl
  | cons c t ih =>
    show (Jvm.Cond.and c (allAtoms t)).before a st = _
    rw [Jvm.Cond.before_and, ih, List.all_cons]
def words1 : List Jvm.Cond := Jvm.Cond.code x code maxLocals ret :: tables_1
/-- a 'code' word, met by the world's own term for the bytes: nothing is compared byte by byte -/
theorem code_word {y : MethodName} {bytes : ByteArray} {mx : Nat} {rt : Option FieldType} {a : Array Value} {s : State} {m : MethodId} {meth : Method} {c : Code} (h1 : s.methodNamed? y = some m) (h2 : s.vm.method? m = some meth) (h3 : meth.code = some c) (h4 : c.code = bytes)
    (h5 : (c.maxLocals == mx && c.exceptionTable.isEmpty && decide (c.maxStack ≤ mostOperands) && decide (meth.sig.returnType = rt) && !meth.locks && decide (parseMethodDescriptor y.desc = some meth.sig)) = true) : (Jvm.Cond.code y bytes mx rt).before a s = true := by
  simp only [Bool.and_eq_true, beq_iff_eq, Bool.not_eq_true', decide_eq_true_eq] at h5
  obtain ⟨⟨⟨⟨⟨g1, g2⟩, g3⟩, g4⟩, g5⟩, g6⟩ := h5
  simp [Cond.before, Cond.holds, Cond.value, h1, h2, h3, h4, g1, g2, g3, g4, g5, g6]
def isCode : Jvm.Cond → Bool
  | .code _ _ _ _ => true
  | _ => false
theorem all_split {L : List Jvm.Cond} {P : Jvm.Cond → Bool} (h1 : L.all (fun c => isCode c || P c) = true) (h2 : ∀ c ∈ L.filter isCode, P c = true) : L.all P = true := by
  refine List.all_eq_true.mpr fun c hc => ?_
  have h := List.all_eq_true.mp h1 c hc
  rcases Bool.eq_false_or_eq_true (isCode c) with hi | hi
  · exact h2 c (List.mem_filter.mpr ⟨hc, hi⟩)
  · simpa [hi] using h
set_option maxRecDepth 65536 in
theorem w_c0 : (Jvm.Cond.code x code maxLocals ret).before args0 about1 = true := code_word (m := ⟨1, 2⟩) (meth := k1m2) (c := k1c2) (by decide +kernel) rfl rfl rfl (by decide +kernel)
set_option maxRecDepth 65536 in
theorem w_c1 : (Jvm.Cond.code ({ cls := "com/example/chitragupta/chitragupta/JobOptions", name := "<init>", desc := "()V" } : Jvm.MethodName) prog_12_method_1_code (1 : Nat) (Option.none : Option Jvm.ClassFile.FieldType)).before args0 about1 = true := code_word (m := ⟨2, 0⟩) (meth := k2m0) (c := k2c0) (by decide +kernel) rfl rfl rfl (by decide +kernel)
set_option maxRecDepth 65536 in
theorem w_c2 : (Jvm.Cond.code ({ cls := "java/lang/Object", name := "<init>", desc := "()V" } : Jvm.MethodName) object_method_1_code (1 : Nat) (Option.none : Option Jvm.ClassFile.FieldType)).before args0 about1 = true := code_word (m := ⟨0, 0⟩) (meth := k0m0) (c := k0c0) (by decide +kernel) rfl rfl rfl (by decide +kernel)
set_option maxRecDepth 65536 in
theorem w_c3 : (Jvm.Cond.code ({ cls := "java/time/Duration", name := "ofSeconds", desc := "(J)Ljava/time/Duration;" } : Jvm.MethodName) jdk_2316_method_4_code (2 : Nat) (Option.some (Jvm.ClassFile.FieldType.object "java/time/Duration"))).before args0 about1 = true := code_word (m := ⟨9, 1⟩) (meth := k9m1) (c := k9c1) (by decide +kernel) rfl rfl rfl (by decide +kernel)
set_option maxRecDepth 65536 in
theorem w_c4 : (Jvm.Cond.code ({ cls := "java/time/Duration", name := "create", desc := "(JI)Ljava/time/Duration;" } : Jvm.MethodName) jdk_2316_method_16_code (3 : Nat) (Option.some (Jvm.ClassFile.FieldType.object "java/time/Duration"))).before args0 about1 = true := code_word (m := ⟨9, 2⟩) (meth := k9m2) (c := k9c2) (by decide +kernel) rfl rfl rfl (by decide +kernel)
set_option maxRecDepth 65536 in
theorem w_c5 : (Jvm.Cond.code ({ cls := "java/time/Duration", name := "<init>", desc := "(JI)V" } : Jvm.MethodName) jdk_2316_method_17_code (4 : Nat) (Option.none : Option Jvm.ClassFile.FieldType)).before args0 about1 = true := code_word (m := ⟨9, 3⟩) (meth := k9m3) (c := k9c3) (by decide +kernel) rfl rfl rfl (by decide +kernel)
set_option maxRecDepth 65536 in
theorem w_c6 : (Jvm.Cond.code ({ cls := "java/time/Duration", name := "ofHours", desc := "(J)Ljava/time/Duration;" } : Jvm.MethodName) jdk_2316_method_2_code (2 : Nat) (Option.some (Jvm.ClassFile.FieldType.object "java/time/Duration"))).before args0 about1 = true := code_word (m := ⟨9, 0⟩) (meth := k9m0) (c := k9c0) (by decide +kernel) rfl rfl rfl (by decide +kernel)
set_option maxRecDepth 65536 in
theorem w_c7 : (Jvm.Cond.code ({ cls := "java/lang/Math", name := "multiplyExact", desc := "(JI)J" } : Jvm.MethodName) jdk_29_method_29_code (3 : Nat) (Option.some Jvm.ClassFile.FieldType.long)).before args0 about1 = true := code_word (m := ⟨10, 1⟩) (meth := k10m1) (c := k10c1) (by decide +kernel) rfl rfl rfl (by decide +kernel)
set_option maxRecDepth 65536 in
theorem w_c8 : (Jvm.Cond.code ({ cls := "java/lang/Math", name := "multiplyExact", desc := "(JJ)J" } : Jvm.MethodName) jdk_29_method_30_code (10 : Nat) (Option.some Jvm.ClassFile.FieldType.long)).before args0 about1 = true := code_word (m := ⟨10, 2⟩) (meth := k10m2) (c := k10c2) (by decide +kernel) rfl rfl rfl (by decide +kernel)
set_option maxRecDepth 65536 in
theorem w_c9 : (Jvm.Cond.code ({ cls := "java/lang/Math", name := "abs", desc := "(J)J" } : Jvm.MethodName) jdk_29_method_61_code (2 : Nat) (Option.some Jvm.ClassFile.FieldType.long)).before args0 about1 = true := code_word (m := ⟨10, 3⟩) (meth := k10m3) (c := k10c3) (by decide +kernel) rfl rfl rfl (by decide +kernel)
set_option maxRecDepth 65536 in
theorem w_c10 : (Jvm.Cond.code ({ cls := "com/example/chitragupta/chitragupta/Backoff", name := "exponential", desc := "(Ljava/time/Duration;DLjava/time/Duration;)Lcom/example/chitragupta/chitragupta/Backoff;" } : Jvm.MethodName) prog_2_method_3_code (4 : Nat) (Option.some (Jvm.ClassFile.FieldType.object "com/example/chitragupta/chitragupta/Backoff"))).before args0 about1 = true := code_word (m := ⟨11, 1⟩) (meth := k11m1) (c := k11c1) (by decide +kernel) rfl rfl rfl (by decide +kernel)
set_option maxRecDepth 65536 in
theorem w_c11 : (Jvm.Cond.code ({ cls := "com/example/chitragupta/chitragupta/Limits", name := "requireDuration", desc := "(Ljava/lang/String;Ljava/time/Duration;)Ljava/time/Duration;" } : Jvm.MethodName) prog_16_method_3_code (2 : Nat) (Option.some (Jvm.ClassFile.FieldType.object "java/time/Duration"))).before args0 about1 = true := code_word (m := ⟨15, 1⟩) (meth := k15m1) (c := k15c1) (by decide +kernel) rfl rfl rfl (by decide +kernel)
set_option maxRecDepth 65536 in
theorem w_c12 : (Jvm.Cond.code ({ cls := "java/util/Objects", name := "requireNonNull", desc := "(Ljava/lang/Object;Ljava/lang/String;)Ljava/lang/Object;" } : Jvm.MethodName) jdk_31_method_11_code (2 : Nat) (Option.some (Jvm.ClassFile.FieldType.object "java/lang/Object"))).before args0 about1 = true := code_word (m := ⟨16, 1⟩) (meth := k16m1) (c := k16c1) (by decide +kernel) rfl rfl rfl (by decide +kernel)
set_option maxRecDepth 65536 in
theorem w_c13 : (Jvm.Cond.code ({ cls := "java/time/Duration", name := "isNegative", desc := "()Z" } : Jvm.MethodName) jdk_2316_method_22_code (1 : Nat) (Option.some Jvm.ClassFile.FieldType.boolean)).before args0 about1 = true := code_word (m := ⟨9, 5⟩) (meth := k9m5) (c := k9c5) (by decide +kernel) rfl rfl rfl (by decide +kernel)
set_option maxRecDepth 65536 in
theorem w_c14 : (Jvm.Cond.code ({ cls := "java/time/Duration", name := "compareTo", desc := "(Ljava/time/Duration;)I" } : Jvm.MethodName) jdk_2316_method_66_code (3 : Nat) (Option.some Jvm.ClassFile.FieldType.int)).before args0 about1 = true := code_word (m := ⟨9, 6⟩) (meth := k9m6) (c := k9c6) (by decide +kernel) rfl rfl rfl (by decide +kernel)
set_option maxRecDepth 65536 in
theorem w_c15 : (Jvm.Cond.code ({ cls := "java/lang/Long", name := "compare", desc := "(JJ)I" } : Jvm.MethodName) jdk_35_method_42_code (4 : Nat) (Option.some Jvm.ClassFile.FieldType.int)).before args0 about1 = true := code_word (m := ⟨18, 0⟩) (meth := k18m0) (c := k18c0) (by decide +kernel) rfl rfl rfl (by decide +kernel)
set_option maxRecDepth 65536 in
theorem w_c16 : (Jvm.Cond.code ({ cls := "java/time/Duration", name := "isZero", desc := "()Z" } : Jvm.MethodName) jdk_2316_method_21_code (1 : Nat) (Option.some Jvm.ClassFile.FieldType.boolean)).before args0 about1 = true := code_word (m := ⟨9, 4⟩) (meth := k9m4) (c := k9c4) (by decide +kernel) rfl rfl rfl (by decide +kernel)
set_option maxRecDepth 65536 in
theorem w_c17 : (Jvm.Cond.code ({ cls := "com/example/chitragupta/chitragupta/Backoff", name := "<init>", desc := "(Ljava/time/Duration;DLjava/time/Duration;)V" } : Jvm.MethodName) prog_2_method_1_code (5 : Nat) (Option.none : Option Jvm.ClassFile.FieldType)).before args0 about1 = true := code_word (m := ⟨11, 0⟩) (meth := k11m0) (c := k11c0) (by decide +kernel) rfl rfl rfl (by decide +kernel)
set_option maxRecDepth 65536 in
theorem w_c18 : (Jvm.Cond.code ({ cls := "com/example/chitragupta/chitragupta/JobOptions", name := "backoff", desc := "()Lcom/example/chitragupta/chitragupta/Backoff;" } : Jvm.MethodName) prog_12_method_11_code (1 : Nat) (Option.some (Jvm.ClassFile.FieldType.object "com/example/chitragupta/chitragupta/Backoff"))).before args0 about1 = true := code_word (m := ⟨2, 5⟩) (meth := k2m5) (c := k2c5) (by decide +kernel) rfl rfl rfl (by decide +kernel)
set_option maxRecDepth 65536 in
theorem w_c19 : (Jvm.Cond.code ({ cls := "com/example/chitragupta/chitragupta/JobOptionsPriorityPinLaw", name := "pick", desc := "(I)Lcom/example/chitragupta/chitragupta/Priority;" } : Jvm.MethodName) method_2_code (2 : Nat) (Option.some (Jvm.ClassFile.FieldType.object "com/example/chitragupta/chitragupta/Priority"))).before args0 about1 = true := code_word (m := ⟨1, 1⟩) (meth := k1m1) (c := k1c1) (by decide +kernel) rfl rfl rfl (by decide +kernel)
set_option maxRecDepth 65536 in
theorem w_c20 : (Jvm.Cond.code ({ cls := "com/example/chitragupta/chitragupta/JobOptions", name := "priority", desc := "(Lcom/example/chitragupta/chitragupta/Priority;)Lcom/example/chitragupta/chitragupta/JobOptions;" } : Jvm.MethodName) prog_12_method_3_code (2 : Nat) (Option.some (Jvm.ClassFile.FieldType.object "com/example/chitragupta/chitragupta/JobOptions"))).before args0 about1 = true := code_word (m := ⟨2, 1⟩) (meth := k2m1) (c := k2c1) (by decide +kernel) rfl rfl rfl (by decide +kernel)
set_option maxRecDepth 65536 in
theorem w_c21 : (Jvm.Cond.code ({ cls := "com/example/chitragupta/chitragupta/JobOptions", name := "priority", desc := "()Lcom/example/chitragupta/chitragupta/Priority;" } : Jvm.MethodName) prog_12_method_9_code (1 : Nat) (Option.some (Jvm.ClassFile.FieldType.object "com/example/chitragupta/chitragupta/Priority"))).before args0 about1 = true := code_word (m := ⟨2, 3⟩) (meth := k2m3) (c := k2c3) (by decide +kernel) rfl rfl rfl (by decide +kernel)
set_option maxRecDepth 65536 in
theorem w_c22 : (Jvm.Cond.code ({ cls := "com/example/chitragupta/chitragupta/JobOptions", name := "maxAttempts", desc := "()I" } : Jvm.MethodName) prog_12_method_10_code (1 : Nat) (Option.some Jvm.ClassFile.FieldType.int)).before args0 about1 = true := code_word (m := ⟨2, 4⟩) (meth := k2m4) (c := k2c4) (by decide +kernel) rfl rfl rfl (by decide +kernel)
set_option maxRecDepth 65536 in
theorem w_c23 : (Jvm.Cond.code ({ cls := "com/example/chitragupta/chitragupta/JobOptions", name := "runAt", desc := "()Ljava/time/Instant;" } : Jvm.MethodName) prog_12_method_8_code (1 : Nat) (Option.some (Jvm.ClassFile.FieldType.object "java/time/Instant"))).before args0 about1 = true := code_word (m := ⟨2, 2⟩) (meth := k2m2) (c := k2c2) (by decide +kernel) rfl rfl rfl (by decide +kernel)
def codes1 : List Jvm.Cond := [Jvm.Cond.code x code maxLocals ret, Jvm.Cond.code ({ cls := "com/example/chitragupta/chitragupta/JobOptions", name := "<init>", desc := "()V" } : Jvm.MethodName) prog_12_method_1_code (1 : Nat) (Option.none : Option Jvm.ClassFile.FieldType), Jvm.Cond.code ({ cls := "java/lang/Object", name := "<init>", desc := "()V" } : Jvm.MethodName) object_method_1_code (1 : Nat) (Option.none : Option Jvm.ClassFile.FieldType), Jvm.Cond.code ({ cls := "java/time/Duration", name := "ofSeconds", desc := "(J)Ljava/time/Duration;" } : Jvm.MethodName) jdk_2316_method_4_code (2 : Nat) (Option.some (Jvm.ClassFile.FieldType.object "java/time/Duration")), Jvm.Cond.code ({ cls := "java/time/Duration", name := "create", desc := "(JI)Ljava/time/Duration;" } : Jvm.MethodName) jdk_2316_method_16_code (3 : Nat) (Option.some (Jvm.ClassFile.FieldType.object "java/time/Duration")), Jvm.Cond.code ({ cls := "java/time/Duration", name := "<init>", desc := "(JI)V" } : Jvm.MethodName) jdk_2316_method_17_code (4 : Nat) (Option.none : Option Jvm.ClassFile.FieldType), Jvm.Cond.code ({ cls := "java/time/Duration", name := "ofHours", desc := "(J)Ljava/time/Duration;" } : Jvm.MethodName) jdk_2316_method_2_code (2 : Nat) (Option.some (Jvm.ClassFile.FieldType.object "java/time/Duration")), Jvm.Cond.code ({ cls := "java/lang/Math", name := "multiplyExact", desc := "(JI)J" } : Jvm.MethodName) jdk_29_method_29_code (3 : Nat) (Option.some Jvm.ClassFile.FieldType.long), Jvm.Cond.code ({ cls := "java/lang/Math", name := "multiplyExact", desc := "(JJ)J" } : Jvm.MethodName) jdk_29_method_30_code (10 : Nat) (Option.some Jvm.ClassFile.FieldType.long), Jvm.Cond.code ({ cls := "java/lang/Math", name := "abs", desc := "(J)J" } : Jvm.MethodName) jdk_29_method_61_code (2 : Nat) (Option.some Jvm.ClassFile.FieldType.long), Jvm.Cond.code ({ cls := "com/example/chitragupta/chitragupta/Backoff", name := "exponential", desc := "(Ljava/time/Duration;DLjava/time/Duration;)Lcom/example/chitragupta/chitragupta/Backoff;" } : Jvm.MethodName) prog_2_method_3_code (4 : Nat) (Option.some (Jvm.ClassFile.FieldType.object "com/example/chitragupta/chitragupta/Backoff")), Jvm.Cond.code ({ cls := "com/example/chitragupta/chitragupta/Limits", name := "requireDuration", desc := "(Ljava/lang/String;Ljava/time/Duration;)Ljava/time/Duration;" } : Jvm.MethodName) prog_16_method_3_code (2 : Nat) (Option.some (Jvm.ClassFile.FieldType.object "java/time/Duration")), Jvm.Cond.code ({ cls := "java/util/Objects", name := "requireNonNull", desc := "(Ljava/lang/Object;Ljava/lang/String;)Ljava/lang/Object;" } : Jvm.MethodName) jdk_31_method_11_code (2 : Nat) (Option.some (Jvm.ClassFile.FieldType.object "java/lang/Object")), Jvm.Cond.code ({ cls := "java/time/Duration", name := "isNegative", desc := "()Z" } : Jvm.MethodName) jdk_2316_method_22_code (1 : Nat) (Option.some Jvm.ClassFile.FieldType.boolean), Jvm.Cond.code ({ cls := "java/time/Duration", name := "compareTo", desc := "(Ljava/time/Duration;)I" } : Jvm.MethodName) jdk_2316_method_66_code (3 : Nat) (Option.some Jvm.ClassFile.FieldType.int), Jvm.Cond.code ({ cls := "java/lang/Long", name := "compare", desc := "(JJ)I" } : Jvm.MethodName) jdk_35_method_42_code (4 : Nat) (Option.some Jvm.ClassFile.FieldType.int), Jvm.Cond.code ({ cls := "java/time/Duration", name := "isZero", desc := "()Z" } : Jvm.MethodName) jdk_2316_method_21_code (1 : Nat) (Option.some Jvm.ClassFile.FieldType.boolean), Jvm.Cond.code ({ cls := "com/example/chitragupta/chitragupta/Backoff", name := "<init>", desc := "(Ljava/time/Duration;DLjava/time/Duration;)V" } : Jvm.MethodName) prog_2_method_1_code (5 : Nat) (Option.none : Option Jvm.ClassFile.FieldType), Jvm.Cond.code ({ cls := "com/example/chitragupta/chitragupta/JobOptions", name := "backoff", desc := "()Lcom/example/chitragupta/chitragupta/Backoff;" } : Jvm.MethodName) prog_12_method_11_code (1 : Nat) (Option.some (Jvm.ClassFile.FieldType.object "com/example/chitragupta/chitragupta/Backoff")), Jvm.Cond.code ({ cls := "com/example/chitragupta/chitragupta/JobOptionsPriorityPinLaw", name := "pick", desc := "(I)Lcom/example/chitragupta/chitragupta/Priority;" } : Jvm.MethodName) method_2_code (2 : Nat) (Option.some (Jvm.ClassFile.FieldType.object "com/example/chitragupta/chitragupta/Priority")), Jvm.Cond.code ({ cls := "com/example/chitragupta/chitragupta/JobOptions", name := "priority", desc := "(Lcom/example/chitragupta/chitragupta/Priority;)Lcom/example/chitragupta/chitragupta/JobOptions;" } : Jvm.MethodName) prog_12_method_3_code (2 : Nat) (Option.some (Jvm.ClassFile.FieldType.object "com/example/chitragupta/chitragupta/JobOptions")), Jvm.Cond.code ({ cls := "com/example/chitragupta/chitragupta/JobOptions", name := "priority", desc := "()Lcom/example/chitragupta/chitragupta/Priority;" } : Jvm.MethodName) prog_12_method_9_code (1 : Nat) (Option.some (Jvm.ClassFile.FieldType.object "com/example/chitragupta/chitragupta/Priority")), Jvm.Cond.code ({ cls := "com/example/chitragupta/chitragupta/JobOptions", name := "maxAttempts", desc := "()I" } : Jvm.MethodName) prog_12_method_10_code (1 : Nat) (Option.some Jvm.ClassFile.FieldType.int), Jvm.Cond.code ({ cls := "com/example/chitragupta/chitragupta/JobOptions", name := "runAt", desc := "()Ljava/time/Instant;" } : Jvm.MethodName) prog_12_method_8_code (1 : Nat) (Option.some (Jvm.ClassFile.FieldType.object "java/time/Instant"))]
set_option maxRecDepth 65536 in
theorem codes_eq : words1.filter isCode = codes1 := rfl
theorem w_codes : ∀ c ∈ words1.filter isCode, c.before args0 about1 = true := by
  rw [codes_eq]
  intro c hc
  simp only [codes1, List.mem_cons, List.not_mem_nil, or_false] at hc
  rcases hc with rfl | rfl | rfl | rfl | rfl | rfl | rfl | rfl | rfl | rfl | rfl | rfl | rfl | rfl | rfl | rfl | rfl | rfl | rfl | rfl | rfl | rfl | rfl | rfl
  · exact w_c0
  · exact w_c1
  · exact w_c2
  · exact w_c3
  · exact w_c4
  · exact w_c5
  · exact w_c6
  · exact w_c7
  · exact w_c8
  · exact w_c9
  · exact w_c10
  · exact w_c11
  · exact w_c12
  · exact w_c13
  · exact w_c14
  · exact w_c15
  · exact w_c16
  · exact w_c17
  · exact w_c18
  · exact w_c19
  · exact w_c20
  · exact w_c21
  · exact w_c22
  · exact w_c23
set_option maxRecDepth 65536 in
theorem w_t1 : (words1.take 24).all (fun c => isCode c || c.before args0 about1) = true := by decide +kernel
set_option maxRecDepth 65536 in
theorem w_t2 : ((words1.drop 24).take 24).all (fun c => isCode c || c.before args0 about1) = true := by decide +kernel
set_option maxRecDepth 65536 in
theorem w_t3 : (((words1.drop 24).drop 24).take 24).all (fun c => isCode c || c.before args0 about1) = true := by decide +kernel
set_option maxRecDepth 65536 in
theorem w_t4 : ((((words1.drop 24).drop 24).drop 24).take 24).all (fun c => isCode c || c.before args0 about1) = true := by decide +kernel
set_option maxRecDepth 65536 in
theorem w_t5 : (((((words1.drop 24).drop 24).drop 24).drop 24).take 24).all (fun c => isCode c || c.before args0 about1) = true := by decide +kernel
set_option maxRecDepth 65536 in
theorem w_t6 : ((((((words1.drop 24).drop 24).drop 24).drop 24).drop 24).take 24).all (fun c => isCode c || c.before args0 about1) = true := by decide +kernel
set_option maxRecDepth 65536 in
theorem w_t7 : ((((((words1.drop 24).drop 24).drop 24).drop 24).drop 24).drop 24).all (fun c => isCode c || c.before args0 about1) = true := by decide +kernel
theorem w_tables : (allAtoms (Jvm.Cond.code x code maxLocals ret :: tables_1)).before args0 about1 = true := by
  rw [allAtoms_all]
  show words1.all (fun c => c.before args0 about1) = true
  refine all_split ?_ w_codes
  rw [← List.take_append_drop 24 words1, List.all_append, w_t1, ← List.take_append_drop 24 (words1.drop 24), List.all_append, w_t2, ← List.take_append_drop 24 ((words1.drop 24).drop 24), List.all_append, w_t3, ← List.take_append_drop 24 (((words1.drop 24).drop 24).drop 24), List.all_append, w_t4, ← List.take_append_drop 24 ((((words1.drop 24).drop 24).drop 24).drop 24), List.all_append, w_t5, ← List.take_append_drop 24 (((((words1.drop 24).drop 24).drop 24).drop 24).drop 24), List.all_append, w_t6, w_t7]
  rfl
set_option maxRecDepth 65536 in
theorem w_case : (Jvm.Cond.and given_1 narrow_1).before args0 about1 = true := by decide +kernel
theorem w_applies : (headSpec (Jvm.Cond.code x code maxLocals ret :: tables_1) room_1).applies x e0.platform about1 = true :=
  (Spec.applies_iff w_frames).mpr ⟨w_running, w_runnable, w_alone, w_named, w_hears, w_ripe, w_room, w_tables⟩
theorem atStart : AtStart classFile x code maxLocals ret World_1 tables_1 room_1 Calls_1 rest_1 Pre_1 launch0 p0 e0 about1 theMethod args0 below0 :=
  ⟨lists_1, trivial, launch0.admits_env _ _ _, launch0.least_env, fairChoices_fair.cas, fairChoices_fair.clock, w_frames, w_args, w_heap, w_applies, trivial, trivial, w_case⟩
end start1
theorem witness_1 : WitnessClaimed_1 := ⟨start1.p0, start1.e0, start1.about1, start1.theMethod, start1.args0, start1.below0, start1.atStart⟩
end Jvm.Pilot.@@N@@
