import JvmDerived
import JvmDerived.Pilot.@@N@@Statement
import JvmDerived.Pilot.@@N@@Code
set_option linter.unusedVariables false
set_option linter.unusedSimpArgs false
@@BLOCK:NumsL.lean.txt@@
namespace Jvm.RoadKit
open Sem ClassFile Op Lib Jvm.Stand Jvm.Free Jvm.LawKit
section OwnSteps
variable {tb : Tables} [Ours tb] {e : Env} {below : List Frame} {T target : State} {m : MethodId} {c : Code} {g : JFrame}
theorem own_dloadN (h : At T m c below) (hx : tb.exec = Jvm.exec) (hg : g.method = m) {k : Fin 4} {v : UInt64} (hd : decode c.code g.pc = .ok (.dload_n k, 1)) (hl : g.locals[k.val]? = some (.val (.double v)))
    (hr : Steps tb e below (T.setTop { g with pc := g.pc + 1, stack := .double v :: g.stack }) target) : Steps tb e below (T.setTop g) target := by
  subst hg
  jvm_step h [h.top, hx, hd, hl]
  exact hr
theorem own_dload (h : At T m c below) (hx : tb.exec = Jvm.exec) (hg : g.method = m) {k : Nat} {v : UInt64} (hd : decode c.code g.pc = .ok (.dload k, 2)) (hl : g.locals[k]? = some (.val (.double v)))
    (hr : Steps tb e below (T.setTop { g with pc := g.pc + 2, stack := .double v :: g.stack }) target) : Steps tb e below (T.setTop g) target := by
  subst hg
  jvm_step h [h.top, hx, hd, hl]
  exact hr
theorem own_dstoreN (h : At T m c below) (hx : tb.exec = Jvm.exec) (hg : g.method = m) {k : Fin 4} {x : UInt64} {rest : List Value} {l' : Array Slot} (hd : decode c.code g.pc = .ok (.dstore_n k, 1)) (hs : g.stack = .double x :: rest) (hl : storeLocals g.locals k.val (.double x) = some l')
    (hr : Steps tb e below (T.setTop { g with pc := g.pc + 1, stack := rest, locals := l' }) target) : Steps tb e below (T.setTop g) target := by
  subst hg
  jvm_step h [h.top, hx, hd, hs, hl]
  exact hr
theorem own_dstore (h : At T m c below) (hx : tb.exec = Jvm.exec) (hg : g.method = m) {k : Nat} {x : UInt64} {rest : List Value} {l' : Array Slot} (hd : decode c.code g.pc = .ok (.dstore k, 2)) (hs : g.stack = .double x :: rest) (hl : storeLocals g.locals k (.double x) = some l')
    (hr : Steps tb e below (T.setTop { g with pc := g.pc + 2, stack := rest, locals := l' }) target) : Steps tb e below (T.setTop g) target := by
  subst hg
  jvm_step h [h.top, hx, hd, hs, hl]
  exact hr
theorem own_i2d (h : At T m c below) (hx : tb.exec = Jvm.exec) (hg : g.method = m) {x : Int32} {rest : List Value} (hd : decode c.code g.pc = .ok (.i2d, 1)) (hs : g.stack = .int x :: rest)
    (hr : Steps tb e below (T.setTop { g with pc := g.pc + 1, stack := .double (FP.i2d x) :: rest }) target) : Steps tb e below (T.setTop g) target := by
  subst hg
  jvm_step h [h.top, hx, hd, hs]
  exact hr
theorem own_l2d (h : At T m c below) (hx : tb.exec = Jvm.exec) (hg : g.method = m) {x : Int64} {rest : List Value} (hd : decode c.code g.pc = .ok (.l2d, 1)) (hs : g.stack = .long x :: rest)
    (hr : Steps tb e below (T.setTop { g with pc := g.pc + 1, stack := .double (FP.l2d x) :: rest }) target) : Steps tb e below (T.setTop g) target := by
  subst hg
  jvm_step h [h.top, hx, hd, hs]
  exact hr
theorem own_d2l (h : At T m c below) (hx : tb.exec = Jvm.exec) (hg : g.method = m) {x : UInt64} {rest : List Value} (hd : decode c.code g.pc = .ok (.d2l, 1)) (hs : g.stack = .double x :: rest)
    (hr : Steps tb e below (T.setTop { g with pc := g.pc + 1, stack := .long (FP.d2l x) :: rest }) target) : Steps tb e below (T.setTop g) target := by
  subst hg
  jvm_step h [h.top, hx, hd, hs]
  exact hr
theorem own_d2i (h : At T m c below) (hx : tb.exec = Jvm.exec) (hg : g.method = m) {x : UInt64} {rest : List Value} (hd : decode c.code g.pc = .ok (.d2i, 1)) (hs : g.stack = .double x :: rest)
    (hr : Steps tb e below (T.setTop { g with pc := g.pc + 1, stack := .int (FP.d2i x) :: rest }) target) : Steps tb e below (T.setTop g) target := by
  subst hg
  jvm_step h [h.top, hx, hd, hs]
  exact hr
theorem own_dneg (h : At T m c below) (hx : tb.exec = Jvm.exec) (hg : g.method = m) {x : UInt64} {rest : List Value} (hd : decode c.code g.pc = .ok (.dneg, 1)) (hs : g.stack = .double x :: rest)
    (hr : Steps tb e below (T.setTop { g with pc := g.pc + 1, stack := .double (FP.dneg x) :: rest }) target) : Steps tb e below (T.setTop g) target := by
  subst hg
  jvm_step h [h.top, hx, hd, hs]
  exact hr
theorem own_dcmp (h : At T m c below) (hx : tb.exec = Jvm.exec) (hg : g.method = m) {op : CmpOp} {x y : UInt64} {rest : List Value} (hd : decode c.code g.pc = .ok (.dcmp op, 1)) (hs : g.stack = .double y :: .double x :: rest)
    (hr : Steps tb e below (T.setTop { g with pc := g.pc + 1, stack := .int (cmpValue (FP.dcmp x y) op) :: rest }) target) : Steps tb e below (T.setTop g) target := by
  subst hg
  jvm_step h [h.top, hx, hd, hs]
  exact hr
theorem own_dconst0 (h : At T m c below) (hx : tb.exec = Jvm.exec) (hg : g.method = m) (hd : decode c.code g.pc = .ok (.dconst 0, 1))
    (hr : Steps tb e below (T.setTop { g with pc := g.pc + 1, stack := .double (0 : UInt64) :: g.stack }) target) : Steps tb e below (T.setTop g) target := by
  subst hg
  jvm_step h [h.top, hx, hd]
  exact hr
theorem own_dconst1 (h : At T m c below) (hx : tb.exec = Jvm.exec) (hg : g.method = m) (hd : decode c.code g.pc = .ok (.dconst 1, 1))
    (hr : Steps tb e below (T.setTop { g with pc := g.pc + 1, stack := .double (4607182418800017408 : UInt64) :: g.stack }) target) : Steps tb e below (T.setTop g) target := by
  subst hg
  jvm_step h [h.top, hx, hd]
  exact hr
/-- no NaN, as the steps' law asks it -/
abbrev OwnNum (x : UInt64) : Prop := x &&& 0x7fffffffffffffff ≤ 0x7ff0000000000000
theorem own_dadd (h : At T m c below) (hx : tb.exec = Jvm.exec) (hg : g.method = m) {x y : UInt64} {rest : List Value} (hd : decode c.code g.pc = .ok (.dadd, 1)) (hs : g.stack = .double y :: .double x :: rest) (hn : OwnNum (FP.dadd x y))
    (hr : Steps tb e below (T.setTop { g with pc := g.pc + 1, stack := .double (FP.dadd x y) :: rest }) target) : Steps tb e below (T.setTop g) target := by
  subst hg
  obtain ⟨gm, gpc, gl, gs, gk, ge, gr⟩ := g
  cases hs
  jvm_step h [h.top, hx, hd, Op.dadd.at_number h.top hn]
  exact hr
theorem own_dsub (h : At T m c below) (hx : tb.exec = Jvm.exec) (hg : g.method = m) {x y : UInt64} {rest : List Value} (hd : decode c.code g.pc = .ok (.dsub, 1)) (hs : g.stack = .double y :: .double x :: rest) (hn : OwnNum (FP.dsub x y))
    (hr : Steps tb e below (T.setTop { g with pc := g.pc + 1, stack := .double (FP.dsub x y) :: rest }) target) : Steps tb e below (T.setTop g) target := by
  subst hg
  obtain ⟨gm, gpc, gl, gs, gk, ge, gr⟩ := g
  cases hs
  jvm_step h [h.top, hx, hd, Op.dsub.at_number h.top hn]
  exact hr
theorem own_dmul (h : At T m c below) (hx : tb.exec = Jvm.exec) (hg : g.method = m) {x y : UInt64} {rest : List Value} (hd : decode c.code g.pc = .ok (.dmul, 1)) (hs : g.stack = .double y :: .double x :: rest) (hn : OwnNum (FP.dmul x y))
    (hr : Steps tb e below (T.setTop { g with pc := g.pc + 1, stack := .double (FP.dmul x y) :: rest }) target) : Steps tb e below (T.setTop g) target := by
  subst hg
  obtain ⟨gm, gpc, gl, gs, gk, ge, gr⟩ := g
  cases hs
  jvm_step h [h.top, hx, hd, Op.dmul.at_number h.top hn]
  exact hr
theorem own_ddiv (h : At T m c below) (hx : tb.exec = Jvm.exec) (hg : g.method = m) {x y : UInt64} {rest : List Value} (hd : decode c.code g.pc = .ok (.ddiv, 1)) (hs : g.stack = .double y :: .double x :: rest) (hn : OwnNum (FP.ddiv x y))
    (hr : Steps tb e below (T.setTop { g with pc := g.pc + 1, stack := .double (FP.ddiv x y) :: rest }) target) : Steps tb e below (T.setTop g) target := by
  subst hg
  obtain ⟨gm, gpc, gl, gs, gk, ge, gr⟩ := g
  cases hs
  jvm_step h [h.top, hx, hd, Op.ddiv.at_number h.top hn]
  exact hr
end OwnSteps
/-- the run from S ends by a return, with what Q says of its value, the heap and the places written -/
def Go (tb : Tables) (e : Env) (below : List Frame) (s : State) (k n : Nat) (Q : Option Value → Heap → List Loc → Prop) (S : State) : Prop :=
  ∃ s₂ o, Steps tb e below S s₂ ∧ s₂.status = .running ∧ Ended s₂ below o ∧ ∃ v L, o = .returned v ∧ Q v s₂.heap L ∧ FrameEnd s o s₂ L k n
theorem Go.adv {tb : Tables} {e : Env} {below : List Frame} {s : State} {k n : Nat} {Q : Option Value → Heap → List Loc → Prop} {S S' : State} (h : ∀ t, Steps tb e below S' t → Steps tb e below S t) (g : Go tb e below s k n Q S') : Go tb e below s k n Q S := by
  obtain ⟨s₂, o, h1, h2⟩ := g
  exact ⟨s₂, o, h _ h1, h2⟩
theorem Go.tr {tb : Tables} {e : Env} {below : List Frame} {s : State} {k n : Nat} {Q : Option Value → Heap → List Loc → Prop} {S S' : State} (h : Steps tb e below S S') (g : Go tb e below s k n Q S') : Go tb e below s k n Q S := by
  obtain ⟨s₂, o, h1, h2⟩ := g
  exact ⟨s₂, o, h.trans h1, h2⟩
theorem Go.start {tb : Tables} {e : Env} {below : List Frame} {s : State} {k n : Nat} {Q : Option Value → Heap → List Loc → Prop} {T : State} {g g' : JFrame} (q : g = g') (h : Go tb e below s k n Q (T.setTop g')) :
    ∃ s₂ o, Steps tb e below (T.setTop g) s₂ ∧ s₂.status = .running ∧ Ended s₂ below o ∧ ∃ v L, o = .returned v ∧ Q v s₂.heap L ∧ FrameEnd s o s₂ L k n := by
  subst q; exact h
theorem own_staKeep0 {Z : State} {h h' : Heap} {C n d : String} {w : Value} (F : Sta Z h C n d w) (K : Keep h h' []) : Sta Z h' C n d w := by
  obtain ⟨cf, i, k, f, st, cell, h1, h2, h3, h4, h5, h6, h7⟩ := F
  exact ⟨cf, i, k, f, st, cell, h1, h2, h3, h4, K.2.1 st cell h5 nin0, h6, h7⟩
theorem own_staKeep {Z : State} {h h' : Heap} {C n d D : String} {w : Value} {a : Addr} (F : Sta Z h C n d w) (K : Keep h h' [a]) (E : Exa Z h a D) : Sta Z h' C n d w := by
  obtain ⟨cf, i, k, f, st, cell, h1, h2, h3, h4, h5, h6, h7⟩ := F
  obtain ⟨c2, k2, e1, -, -, e4, -⟩ := E
  refine ⟨cf, i, k, f, st, cell, h1, h2, h3, h4, K.2.1 st cell h5 fun hm => ?_, h6, h7⟩
  cases List.mem_singleton.mp hm
  cases h5.symm.trans e1
  rw [h6] at e4; cases e4
section OwnRet
variable {p : Program} {l : Launch} {e : Env} {R : Room} {s : State} {m : MethodId} {args : Array Value} {below : List Frame} {meth : Method} {c : Code} {T : State} {locs : List Loc} {cells slots : Nat}
theorem Go.ret (X : Stand p l e R s m args below meth c T locs cells slots) {v : Option Value} (hv : meth.sig.returnType = none → v = none) (hlk : meth.locks = false) {k n : Nat} {Q : Option Value → Heap → List Loc → Prop} {S : State}
    (hs : ∀ fs, (∀ (f : JFrame) (acts : List Action), f.method = m → f.locked = none → f.entered = [] → (doReturn e (T.setTop f) acts v).1 = T.setFrames fs) → Steps p.tables e below S (T.setFrames fs))
    (hQ : Q v T.heap locs) (hk : cells ≤ k) (hn : slots ≤ n) : Go p.tables e below s k n Q S := by
  obtain ⟨fs, hr, hrun, hended, hW, hsame⟩ := X.leave (v := v) hv hlk
  exact ⟨_, _, hs fs hr, hrun, hended, _, _, rfl, hQ, ⟨_, rfl⟩, hW, hsame.mono hk hn⟩
/-- the same, where String constants may have been made: the wide frame -/
def GoW (tb : Tables) (e : Env) (below : List Frame) (s : State) (k n : Nat) (Q : Option Value → Heap → List Loc → Prop) (S : State) : Prop :=
  ∃ s₂ o, Steps tb e below S s₂ ∧ s₂.status = .running ∧ Ended s₂ below o ∧ ∃ v L, o = .returned v ∧ Q v s₂.heap L ∧ ReturnedEndW s o s₂ L k n
theorem GoW.adv {tb : Tables} {e : Env} {below : List Frame} {s : State} {k n : Nat} {Q : Option Value → Heap → List Loc → Prop} {S S' : State} (h : ∀ t, Steps tb e below S' t → Steps tb e below S t) (g : GoW tb e below s k n Q S') : GoW tb e below s k n Q S := by
  obtain ⟨s₂, o, h1, h2⟩ := g
  exact ⟨s₂, o, h _ h1, h2⟩
theorem GoW.tr {tb : Tables} {e : Env} {below : List Frame} {s : State} {k n : Nat} {Q : Option Value → Heap → List Loc → Prop} {S S' : State} (h : Steps tb e below S S') (g : GoW tb e below s k n Q S') : GoW tb e below s k n Q S := by
  obtain ⟨s₂, o, h1, h2⟩ := g
  exact ⟨s₂, o, h.trans h1, h2⟩
theorem GoW.start {tb : Tables} {e : Env} {below : List Frame} {s : State} {k n : Nat} {Q : Option Value → Heap → List Loc → Prop} {T : State} {g g' : JFrame} (q : g = g') (h : GoW tb e below s k n Q (T.setTop g')) :
    ∃ s₂ o, Steps tb e below (T.setTop g) s₂ ∧ s₂.status = .running ∧ Ended s₂ below o ∧ ∃ v L, o = .returned v ∧ Q v s₂.heap L ∧ ReturnedEndW s o s₂ L k n := by
  subst q; exact h
theorem GoW.ret {vm : Vm} (X : Stand p l e R (s.setVm vm) m args below meth c T locs cells slots) {kk : Nat} (hS : s.Since vm kk) (hkk : kk ≤ T.heap.size) {v : Option Value} (hv : meth.sig.returnType = none → v = none) (hlk : meth.locks = false) {k n : Nat} {Q : Option Value → Heap → List Loc → Prop} {S : State}
    (hs : ∀ fs, (∀ (f : JFrame) (acts : List Action), f.method = m → f.locked = none → f.entered = [] → (doReturn e (T.setTop f) acts v).1 = T.setFrames fs) → Steps p.tables e below S (T.setFrames fs))
    (hQ : Q v T.heap locs) (hk : cells ≤ k) (hn : slots ≤ n) : GoW p.tables e below s k n Q S := by
  obtain ⟨fs, hr, hrun, hended, h1, h2, h3, h4⟩ := X.leaveW hS hkk (v := v) hv hlk
  exact ⟨_, _, hs fs hr, hrun, hended, _, _, rfl, hQ, h1, h2, h3, h4.mono hk hn⟩
end OwnRet
end Jvm.RoadKit
namespace Jvm.Own
open Jvm.FP.Core
/-- a datum times 2^k -/
def sh (k : Int) : Datum → Datum
  | .nan => .nan
  | .inf s => .inf s
  | .fin s c q => .fin s c (q + k)
/-- the double a is i / 2^k -/
def Dy (k : Nat) (i : Int) (a : UInt64) : Prop := Whole i (sh k (val64 a))
theorem whole_shape {i : Int} {d : Datum} (h : Whole i d) : ∃ s c q, d = .fin s c q := by
  cases d with
  | nan => exact h.elim
  | inf => exact h.elim
  | fin s c q => exact ⟨s, c, q, rfl⟩
theorem sh_shape {k : Int} {i : Int} {d : Datum} (h : Whole i (sh k d)) : ∃ s c q, d = .fin s c q := by
  cases d with
  | nan => exact h.elim
  | inf => exact h.elim
  | fin s c q => exact ⟨s, c, q, rfl⟩
theorem units_sh (c : Nat) (q e k : Int) : inUnits c (q + k) (e + k) = inUnits c q e := by
  show c * 2 ^ (q + k - (e + k)).toNat = c * 2 ^ (q - e).toNat
  rw [show q + k - (e + k) = q - e by omega]
theorem sum_sh (k : Int) (s : Bool) (c : Nat) (q : Int) (t : Bool) (d : Nat) (r : Int) : exactSum (.fin s c (q + k)) (.fin t d (r + k)) = sh k (exactSum (.fin s c q) (.fin t d r)) := by
  have hm : min (q + k) (r + k) = min q r + k := by omega
  have hu : sumUnits s c (q + k) t d (r + k) (min q r + k) = sumUnits s c q t d r (min q r) := by
    show signed s (inUnits c (q + k) (min q r + k)) + signed t (inUnits d (r + k) (min q r + k)) = signed s (inUnits c q (min q r)) + signed t (inUnits d r (min q r))
    rw [units_sh, units_sh]
  show Datum.fin (sumSign s t (sumUnits s c (q + k) t d (r + k) (min (q + k) (r + k)))) (sumUnits s c (q + k) t d (r + k) (min (q + k) (r + k))).natAbs (min (q + k) (r + k)) = Datum.fin (sumSign s t (sumUnits s c q t d r (min q r))) (sumUnits s c q t d r (min q r)).natAbs (min q r + k)
  rw [hm, hu]
theorem round_sh {k : Nat} (hk : k ≤ 900) {i : Int} (hi : i.natAbs ≤ 2 ^ 53) {d : Datum} (h : Whole i (sh k d)) : Whole i (sh k (round b64 d)) := by
  obtain ⟨s, c, q, rfl⟩ := sh_shape h
  have h' : Whole i (.fin s c (q + k)) := h
  by_cases h0 : i = 0
  · have hc : c = 0 := (whole_zero h').mpr h0
    subst hc
    subst h0
    have e1 : round b64 (.fin s 0 q) = .fin s 0 b64.qmin := (if_pos rfl : roundRatio b64 s 0 1 q = _)
    rw [e1]
    show signed s (0 * 2 ^ (b64.qmin + k).toNat) = 0 * _
    rw [Nat.zero_mul, Int.zero_mul]
    exact signed_zero s
  · obtain ⟨c0, q0, hfit, hv⟩ := natFit good_b64 wide_b64 s (n := i.natAbs) (show _ ≤ 2 ^ 53 from hi)
    have hs := whole_sign h' h0
    have hn := whole_natAbs h'
    have hW : Whole i (.fin s i.natAbs 0) := by rw [hs]; exact whole_ofInt i
    have e1 : round b64 (.fin s i.natAbs 0) = .fin s c0 q0 := roundRatio_exact good_b64 (by decide) hfit hv
    have hW2 := whole_round good_b64 wide_b64 (show _ ≤ 2 ^ 53 from hi) hW
    rw [e1] at hW2
    have hq : -100 ≤ q0 := by
      refine Int.not_lt.mp fun hlt => ?_
      have p1 : (q0 - 0).toNat = 0 := by omega
      have p2 : 2 ^ 101 ≤ 2 ^ (0 - q0).toNat := Nat.pow_le_pow_right (by decide) (by omega)
      have p3 : 1 * 2 ^ (0 - q0).toNat ≤ i.natAbs * 2 ^ (0 - q0).toNat := Nat.mul_le_mul_right _ (by omega)
      have p4 : c0 < 2 ^ 53 := hfit.1
      rw [hv, p1, Nat.pow_zero, Nat.mul_one, Nat.mul_one, Nat.one_mul] at p3
      have p5 : (2 : Nat) ^ 53 ≤ 2 ^ 101 := Nat.pow_le_pow_right (by decide) (by decide)
      exact absurd (Nat.lt_of_le_of_lt (Nat.le_trans p2 p3) p4) (Nat.not_lt.mpr p5)
    have hfit' : Jvm.FP.Core.fits b64 (.fin s c0 (q0 - k)) := by
      obtain ⟨f1, f2, f3, f4⟩ := hfit
      refine ⟨f1, ?_, by omega, Or.inr ?_⟩
      · rw [qmin_b64]; omega
      · rcases f4 with f4 | f4
        · rw [qmin_b64] at f4; omega
        · exact f4
    have e2 : round b64 (.fin s c q) = .fin s c0 (q0 - k) := by
      show roundRatio b64 s c 1 q = _
      rw [roundRatio_congr (A' := i.natAbs) (B' := 1) (e' := -(k : Int)) (by decide) (by decide) (by
        rw [show q - -(k : Int) = q + k by omega, show -(k : Int) - q = -(q + k) by omega, Nat.mul_one, Nat.mul_one]; exact hn)]
      exact roundRatio_exact good_b64 (by decide) hfit' (by
        rw [show -(k : Int) - (q0 - k) = 0 - q0 by omega, show q0 - k - -(k : Int) = q0 - 0 by omega]; exact hv)
    rw [e2]
    show Whole i (.fin s c0 (q0 - k + k))
    rw [Int.sub_add_cancel]
    exact hW2
theorem Dy.of {i : Int} {a : UInt64} (h : DInt i a) : Dy 0 i a := by
  have h1 : Whole i (val64 a) := h
  obtain ⟨s, c, q, e⟩ := whole_shape h1
  show Whole i (sh 0 (val64 a))
  rw [e] at h1 ⊢
  show Whole i (.fin s c (q + 0))
  rw [Int.add_zero]; exact h1
theorem Dy.int {i : Int} {a : UInt64} (h : Dy 0 i a) : DInt i a := by
  have h1 : Whole i (sh 0 (val64 a)) := h
  obtain ⟨s, c, q, e⟩ := sh_shape h1
  show Whole i (val64 a)
  rw [e] at h1 ⊢
  have h2 : Whole i (.fin s c (q + 0)) := h1
  rw [Int.add_zero] at h2; exact h2
theorem Dy.fin {k : Nat} {i : Int} {a : UInt64} (h : Dy k i a) : DFin a := sh_shape h
theorem Dy.add {k : Nat} {i j : Int} {a b : UInt64} (ha : Dy k i a) (hb : Dy k j b) (hk : k ≤ 900) (h : (i + j).natAbs ≤ 2 ^ 53) : Dy k (i + j) (dadd a b) := by
  show Whole _ (sh k (val64 (dadd a b)))
  rw [val64_dadd]
  refine round_sh hk h ?_
  have ha' : Whole i (sh k (val64 a)) := ha
  have hb' : Whole j (sh k (val64 b)) := hb
  obtain ⟨s, c, q, e1⟩ := sh_shape ha'
  obtain ⟨t, d, r, e2⟩ := sh_shape hb'
  rw [e1] at ha' ⊢
  rw [e2] at hb' ⊢
  rw [← sum_sh]
  exact whole_sum ha' hb'
theorem Dy.sub {k : Nat} {i j : Int} {a b : UInt64} (ha : Dy k i a) (hb : Dy k j b) (hk : k ≤ 900) (h : (i - j).natAbs ≤ 2 ^ 53) : Dy k (i - j) (dsub a b) := by
  show Whole _ (sh k (val64 (dsub a b)))
  rw [val64_dsub]
  refine round_sh hk h ?_
  have ha' : Whole i (sh k (val64 a)) := ha
  have hb' : Whole j (sh k (val64 b)) := hb
  obtain ⟨s, c, q, e1⟩ := sh_shape ha'
  obtain ⟨t, d, r, e2⟩ := sh_shape hb'
  rw [e1] at ha' ⊢
  rw [e2] at hb' ⊢
  show Whole (i - j) (sh k (exactSum (.fin s c q) (.fin (!t) d r)))
  rw [← sum_sh]
  exact whole_sum ha' (whole_negate hb')
theorem Dy.mul {k n : Nat} {i j : Int} {a b : UInt64} (ha : Dy k i a) (hb : Dy n j b) (hk : k + n ≤ 900) (h : (i * j).natAbs ≤ 2 ^ 53) : Dy (k + n) (i * j) (dmul a b) := by
  show Whole _ (sh ((k + n : Nat) : Int) (val64 (dmul a b)))
  rw [val64_dmul]
  refine round_sh hk h ?_
  have ha' : Whole i (sh k (val64 a)) := ha
  have hb' : Whole j (sh n (val64 b)) := hb
  obtain ⟨s, c, q, e1⟩ := sh_shape ha'
  obtain ⟨t, d, r, e2⟩ := sh_shape hb'
  rw [e1] at ha' ⊢
  rw [e2] at hb' ⊢
  have hp : Whole (i * j) (.fin (s != t) (c * d) ((q + k) + (r + n))) := whole_product ha' hb'
  show Whole (i * j) (.fin (s != t) (c * d) (q + r + ((k + n : Nat) : Int)))
  rw [show q + r + ((k + n : Nat) : Int) = (q + k) + (r + n) by omega]
  exact hp
theorem Dy.cmp {k : Nat} {i j : Int} {a b : UInt64} (ha : Dy k i a) (hb : Dy k j b) : dcmp a b = some (compare i j) := by
  have ha' : Whole i (sh k (val64 a)) := ha
  have hb' : Whole j (sh k (val64 b)) := hb
  show order (val64 a) (val64 b) = _
  obtain ⟨s, c, q, e1⟩ := sh_shape ha'
  obtain ⟨t, d, r, e2⟩ := sh_shape hb'
  rw [e1] at ha' ⊢
  rw [e2] at hb' ⊢
  rw [← order_whole ha' hb']
  show some (compare (signed s (inUnits c q (min q r))) (signed t (inUnits d r (min q r)))) = some (compare (signed s (inUnits c (q + k) (min (q + k) (r + k)))) (signed t (inUnits d (r + k) (min (q + k) (r + k)))))
  rw [show min (q + (k : Int)) (r + k) = min q r + k by omega, units_sh, units_sh]
theorem whole_up {i : Int} {s : Bool} {c : Nat} {q : Int} (n : Nat) (h : Whole i (.fin s c q)) : Whole (i * ((2 ^ n : Nat) : Int)) (.fin s c (q + n)) := by
  have h1 : signed s (c * 2 ^ q.toNat) = i * ((2 ^ (-q).toNat : Nat) : Int) := h
  show signed s (c * 2 ^ (q + n).toNat) = i * ((2 ^ n : Nat) : Int) * ((2 ^ (-(q + n)).toNat : Nat) : Int)
  have p2 : ((2 ^ (-q).toNat : Nat) : Int) ≠ 0 := by
    have := Nat.two_pow_pos (-q).toNat; omega
  refine Int.eq_of_mul_eq_mul_right p2 ?_
  have hx : (q + n).toNat + (-q).toNat = q.toNat + (n + (-(q + n)).toNat) := by omega
  rw [← signed_mul, Nat.mul_assoc, ← Nat.pow_add, hx, Nat.pow_add, ← Nat.mul_assoc, signed_mul, h1, Nat.pow_add, Int.natCast_mul]
  ac_rfl
theorem Dy.up {k : Nat} {i : Int} {a : UInt64} (n : Nat) (h : Dy k i a) : Dy (k + n) (i * ((2 ^ n : Nat) : Int)) a := by
  have h1 : Whole i (sh k (val64 a)) := h
  obtain ⟨s, c, q, e⟩ := sh_shape h1
  show Whole _ (sh ((k + n : Nat) : Int) (val64 a))
  rw [e] at h1 ⊢
  have h2 : Whole i (.fin s c (q + k)) := h1
  have h3 := whole_up n h2
  show Whole _ (.fin s c (q + ((k + n : Nat) : Int)))
  rw [show q + ((k + n : Nat) : Int) = q + k + n by omega]
  exact h3
/-- divided by 2^n -/
theorem Dy.div2 {k n : Nat} {i : Int} {a b : UInt64} {mm : Nat} {r : Int} (h : Dy k i a) (hb : val64 b = .fin false (2 ^ mm) r) (hr : r + mm = n) (hk : k + n ≤ 900) (hi : i.natAbs ≤ 2 ^ 53) : Dy (k + n) i (ddiv a b) := by
  have h1 : Whole i (sh k (val64 a)) := h
  obtain ⟨s, c, q, e⟩ := sh_shape h1
  show Whole _ (sh ((k + n : Nat) : Int) (val64 (ddiv a b)))
  rw [val64_ddiv, hb]
  rw [e] at h1 ⊢
  have hp : 0 < 2 ^ mm := Nat.two_pow_pos mm
  have e1 : quotient b64 (.fin s c q) (.fin false (2 ^ mm) r) = round b64 (.fin s c (q - n)) := by
    show (if 2 ^ mm = 0 then _ else roundRatio b64 (s != false) c (2 ^ mm) (q - r)) = roundRatio b64 s c 1 (q - n)
    rw [if_neg (by omega), show (s != false) = s by cases s <;> rfl]
    refine roundRatio_congr hp (by decide) ?_
    rw [show (q - r - (q - (n : Int))).toNat = mm by omega, show (q - (n : Int) - (q - r)).toNat = 0 by omega, Nat.pow_zero, Nat.mul_one, Nat.mul_one]
  rw [e1]
  refine round_sh hk hi ?_
  have h2 : Whole i (.fin s c (q + k)) := h1
  show Whole i (.fin s c (q - n + ((k + n : Nat) : Int)))
  rw [show q - (n : Int) + ((k + n : Nat) : Int) = q + k by omega]
  exact h2
/-- the quotient of two whole numbers, as a rounded ratio -/
theorem div_ratio {i j : Int} {a b : UInt64} (ha : DInt i a) (hb : DInt j b) (hi : 0 ≤ i) (hj : 0 < j) : ∃ s, val64 (ddiv a b) = roundRatio b64 s i.natAbs j.natAbs 0 ∧ (0 < i → s = false) := by
  have ha' : Whole i (val64 a) := ha
  have hb' : Whole j (val64 b) := hb
  obtain ⟨s, c, q, e1⟩ := whole_shape ha'
  obtain ⟨t, d, r, e2⟩ := whole_shape hb'
  rw [val64_ddiv]
  rw [e1] at ha' ⊢
  rw [e2] at hb' ⊢
  have hd : d ≠ 0 := fun h => by have := (whole_zero hb').mp h; omega
  have ht : t = false := by rw [whole_sign hb' (by omega)]; exact decide_eq_false (by omega)
  have h1 := whole_natAbs ha'
  have h2 := whole_natAbs hb'
  refine ⟨s, ?_, fun h => by rw [whole_sign ha' (by omega)]; exact decide_eq_false (by omega)⟩
  subst ht
  show (if d = 0 then _ else roundRatio b64 (s != false) c d (q - r)) = _
  rw [if_neg hd, show (s != false) = s by cases s <;> rfl]
  refine roundRatio_congr (by omega) (by omega) ?_
  have hx : (q - r - 0).toNat + (-q).toNat + r.toNat = (0 - (q - r)).toNat + q.toNat + (-r).toNat := by omega
  generalize (q - r - 0).toNat = u at hx ⊢
  generalize (0 - (q - r)).toNat = v at hx ⊢
  generalize q.toNat = a1 at hx h1
  generalize (-q).toNat = a2 at hx h1
  generalize r.toNat = b1 at hx h2
  generalize (-r).toNat = b2 at hx h2
  generalize i.natAbs = I at h1 ⊢
  generalize j.natAbs = J at h2 ⊢
  refine Nat.eq_of_mul_eq_mul_right (Nat.two_pow_pos (a1 + b2)) ?_
  calc c * J * 2 ^ u * 2 ^ (a1 + b2) = (c * 2 ^ a1) * (J * 2 ^ b2) * 2 ^ u := by rw [Nat.pow_add]; ac_rfl
    _ = (I * 2 ^ a2) * (d * 2 ^ b1) * 2 ^ u := by rw [h1, ← h2]
    _ = I * d * 2 ^ (u + a2 + b1) := by simp only [Nat.pow_add]; ac_rfl
    _ = I * d * 2 ^ (v + a1 + b2) := by rw [hx]
    _ = I * d * 2 ^ v * 2 ^ (a1 + b2) := by simp only [Nat.pow_add]; ac_rfl
theorem units0 (A : Nat) : inUnits A 0 b64.qmin = A * one64 := by
  show A * 2 ^ (0 - b64.qmin).toNat = A * 2 ^ 1074
  have h1 : (0 - b64.qmin).toNat = 1074 := by decide
  rw [h1]
theorem ratio_le {s : Bool} {A B : Nat} (hB : 0 < B) {V : UInt64} (hV : DFin V) (h : A * one64 ≤ zmag b64 (val64 V) * B) : zmag b64 (roundRatio b64 s A B 0) ≤ zmag b64 (val64 V) := by
  refine zmag_roundRatio_le good_b64 hB (val64_fits V) hV.ne_nan (Int.le_refl _) (by rw [qmin_b64]; decide) ?_
  rw [units0, Int.sub_self]
  show A * one64 ≤ zmag b64 (val64 V) * 1 * B
  rw [Nat.mul_one]; exact h
theorem ratio_ge {s : Bool} {A B : Nat} (hB : 0 < B) {V : UInt64} (h : zmag b64 (val64 V) * B ≤ A * one64) : zmag b64 (val64 V) ≤ zmag b64 (roundRatio b64 s A B 0) := by
  refine zmag_roundRatio_ge good_b64 hB (val64_fits V) (Int.le_refl _) (by rw [qmin_b64]; decide) ?_
  rw [units0, Int.sub_self]
  show zmag b64 (val64 V) * 1 * B ≤ A * one64
  rw [Nat.mul_one]; exact h
/-- 1, the number next below it, and 2^-53, in units -/
theorem z_one : zmag b64 (val64 4607182418800017408) = 2 ^ 53 * 2 ^ 1021 := by decide +kernel
theorem z_pred : zmag b64 (val64 4607182418800017407) = (2 ^ 53 - 1) * 2 ^ 1021 := by decide +kernel
theorem z_tiny : zmag b64 (val64 4368491638549381120) = 2 ^ 1021 := by decide +kernel
theorem f_one : DFin 4607182418800017408 := (fin_bits _).mpr (by decide +kernel)
theorem f_pred : DFin 4607182418800017407 := (fin_bits _).mpr (by decide +kernel)
theorem one_split : one64 = 2 ^ 53 * 2 ^ 1021 := by
  show 2 ^ 1074 = _
  rw [← Nat.pow_add]
theorem zv_one : zval b64 (val64 4607182418800017408) = ((2 ^ 53 * 2 ^ 1021 : Nat) : Int) := by decide +kernel
theorem ratio_one {s : Bool} {A B : Nat} (hB : 0 < B) (h : A ≤ B) : zmag b64 (roundRatio b64 s A B 0) ≤ 2 ^ 53 * 2 ^ 1021 := by
  rw [← z_one]
  refine ratio_le hB f_one ?_
  rw [z_one, ← one_split, Nat.mul_comm]
  exact Nat.mul_le_mul_left _ h
theorem ratio_eq {s : Bool} {B : Nat} (hB : 0 < B) : zmag b64 (roundRatio b64 s B B 0) = 2 ^ 53 * 2 ^ 1021 := by
  refine Nat.le_antisymm (ratio_one hB (Nat.le_refl _)) ?_
  rw [← z_one]
  refine ratio_ge hB ?_
  rw [z_one, ← one_split, Nat.mul_comm]
  exact Nat.le_refl _
theorem ratio_lt {s : Bool} {A B : Nat} (h : A < B) (hB : B ≤ 2 ^ 53) : zmag b64 (roundRatio b64 s A B 0) < 2 ^ 53 * 2 ^ 1021 := by
  have h1 : zmag b64 (roundRatio b64 s A B 0) ≤ zmag b64 (val64 4607182418800017407) := by
    refine ratio_le (by omega) f_pred ?_
    rw [z_pred, one_split]
    have h2 : A * 2 ^ 53 ≤ (2 ^ 53 - 1) * B := by omega
    calc A * (2 ^ 53 * 2 ^ 1021) = A * 2 ^ 53 * 2 ^ 1021 := by rw [Nat.mul_assoc]
      _ ≤ (2 ^ 53 - 1) * B * 2 ^ 1021 := Nat.mul_le_mul_right _ h2
      _ = (2 ^ 53 - 1) * 2 ^ 1021 * B := Nat.mul_right_comm _ _ _
  rw [z_pred] at h1
  refine Nat.lt_of_le_of_lt h1 ?_
  exact Nat.mul_lt_mul_of_pos_right (by decide) (Nat.two_pow_pos _)
theorem ratio_pos {s : Bool} {A B : Nat} (hA : 0 < A) (hB : 0 < B) (h : B ≤ 2 ^ 53) : 0 < zmag b64 (roundRatio b64 s A B 0) := by
  have h1 : zmag b64 (val64 4368491638549381120) ≤ zmag b64 (roundRatio b64 s A B 0) := by
    refine ratio_ge hB ?_
    rw [z_tiny, one_split]
    have h2 : B ≤ A * 2 ^ 53 := Nat.le_trans h (Nat.le_mul_of_pos_left _ hA)
    calc 2 ^ 1021 * B = B * 2 ^ 1021 := Nat.mul_comm _ _
      _ ≤ A * 2 ^ 53 * 2 ^ 1021 := Nat.mul_le_mul_right _ h2
      _ = A * (2 ^ 53 * 2 ^ 1021) := by rw [Nat.mul_assoc]
  rw [z_tiny] at h1
  exact Nat.lt_of_lt_of_le (Nat.two_pow_pos _) h1
theorem ratio_zero {s : Bool} {B : Nat} : zmag b64 (roundRatio b64 s 0 B 0) = 0 := by
  have e1 : roundRatio b64 s 0 B 0 = .fin s 0 b64.qmin := if_pos rfl
  rw [e1]
  show 0 * _ = 0
  exact Nat.zero_mul _
theorem ratio_ne_nan {s : Bool} {A B : Nat} {e : Int} : roundRatio b64 s A B e ≠ .nan := roundRatio_ne_nan _ _ _ _ _
theorem zv0 : zval b64 (val64 0) = 0 := zval64_zero
theorem nn0 : val64 0 ≠ .nan := by rw [val64_zero]; exact Datum.noConfusion
theorem nn1 : val64 4607182418800017408 ≠ .nan := f_one.ne_nan
/-- a quotient of two whole numbers i ≤ j stands to 1 and to 0 as i stands to j and to 0 -/
theorem div_cmp {i j : Int} {a b : UInt64} (ha : DInt i a) (hb : DInt j b) (hi : 0 ≤ i) (hij : i ≤ j) (hj : 0 < j) (hJ : j ≤ 2 ^ 53) :
    dcmp (ddiv a b) 4607182418800017408 = some (if i = j then .eq else .lt) ∧ dcmp (ddiv a b) 0 = some (if i = 0 then .eq else .gt) ∧ dcmp 0 (ddiv a b) = some (if i = 0 then .eq else .lt) := by
  obtain ⟨s, hv, hs⟩ := div_ratio ha hb hi hj
  have nn : val64 (ddiv a b) ≠ .nan := by rw [hv]; exact ratio_ne_nan
  have hB : 0 < j.natAbs := by omega
  have hz : zval b64 (val64 (ddiv a b)) = ((zmag b64 (roundRatio b64 s i.natAbs j.natAbs 0) : Nat) : Int) := by
    rw [hv]
    show signed (sgn (roundRatio b64 s i.natAbs j.natAbs 0)) _ = _
    rw [sgn_roundRatio]
    by_cases h0 : 0 < i
    · rw [hs h0]; rfl
    · rw [show i.natAbs = 0 by omega, ratio_zero]; exact signed_zero s
  have hlt : ¬ i = j → zmag b64 (roundRatio b64 s i.natAbs j.natAbs 0) < 2 ^ 53 * 2 ^ 1021 := fun h => ratio_lt (by omega) (by omega)
  have heq : i = j → zmag b64 (roundRatio b64 s i.natAbs j.natAbs 0) = 2 ^ 53 * 2 ^ 1021 := fun h => by rw [h]; exact ratio_eq hB
  have hp : ¬ i = 0 → 0 < zmag b64 (roundRatio b64 s i.natAbs j.natAbs 0) := fun h => ratio_pos (by omega) hB (by omega)
  have hzero : i = 0 → zmag b64 (roundRatio b64 s i.natAbs j.natAbs 0) = 0 := fun h => by rw [show i.natAbs = 0 by omega]; exact ratio_zero
  generalize zmag b64 (roundRatio b64 s i.natAbs j.natAbs 0) = w at *
  have z1 := zv_one
  generalize 2 ^ 53 * 2 ^ 1021 = o1 at *
  refine ⟨?_, ?_, ?_⟩
  · by_cases h : i = j
    · rw [if_pos h]; exact dcmp_eq.mpr ⟨nn, nn1, by rw [hz, z1, heq h]⟩
    · rw [if_neg h]; exact dcmp_lt.mpr ⟨nn, nn1, by rw [hz, z1]; have := hlt h; omega⟩
  · by_cases h : i = 0
    · rw [if_pos h]; exact dcmp_eq.mpr ⟨nn, nn0, by rw [hz, zv0, hzero h]; rfl⟩
    · rw [if_neg h]; exact dcmp_gt.mpr ⟨nn, nn0, by rw [hz, zv0]; have := hp h; omega⟩
  · by_cases h : i = 0
    · rw [if_pos h]; exact dcmp_eq.mpr ⟨nn0, nn, by rw [hz, zv0, hzero h]; rfl⟩
    · rw [if_neg h]; exact dcmp_lt.mpr ⟨nn0, nn, by rw [hz, zv0]; have := hp h; omega⟩
/-- two quotients of one ratio compare as equal -/
theorem div_same {i j i' j' : Int} {a b a' b' : UInt64} (ha : DInt i a) (hb : DInt j b) (ha' : DInt i' a') (hb' : DInt j' b') (hi : 0 ≤ i) (hj : 0 < j) (hi' : 0 ≤ i') (hj' : 0 < j') (h : i * j' = i' * j) :
    dcmp (ddiv a b) (ddiv a' b') = some .eq := by
  obtain ⟨s, hv, hs⟩ := div_ratio ha hb hi hj
  obtain ⟨s', hv', hs'⟩ := div_ratio ha' hb' hi' hj'
  have nn : val64 (ddiv a b) ≠ .nan := by rw [hv]; exact ratio_ne_nan
  have nn' : val64 (ddiv a' b') ≠ .nan := by rw [hv']; exact ratio_ne_nan
  refine dcmp_eq.mpr ⟨nn, nn', ?_⟩
  rw [hv, hv']
  by_cases h0 : i = 0
  · have h1 : i' = 0 := by
      rw [h0, Int.zero_mul] at h
      rcases Int.mul_eq_zero.mp h.symm with h | h
      · exact h
      · omega
    rw [h0, h1]
    have e1 : ∀ (t : Bool) (B : Nat), zval b64 (roundRatio b64 t 0 B 0) = 0 := fun t B => by
      show signed _ (zmag b64 (roundRatio b64 t 0 B 0)) = 0
      rw [ratio_zero]; exact signed_zero _
    exact (e1 _ _).trans (e1 _ _).symm
  · have h1 : 0 < i' := by
      rcases Int.lt_or_eq_of_le hi' with h2 | h2
      · exact h2
      · exfalso
        rw [← h2, Int.zero_mul] at h
        rcases Int.mul_eq_zero.mp h with h | h <;> omega
    rw [hs (by omega), hs' h1]
    congr 1
    refine roundRatio_congr (by omega) (by omega) ?_
    have := congrArg Int.natAbs h
    rw [Int.natAbs_mul, Int.natAbs_mul] at this
    rw [this]
/-- a quotient that is whole -/
theorem div_int {i j k : Int} {a b : UInt64} (ha : DInt i a) (hb : DInt j b) (hi : 0 < i) (hj : 0 < j) (h : i = k * j) (hk : k.natAbs ≤ 2 ^ 53) : DInt k (ddiv a b) := by
  obtain ⟨s, hv, hs⟩ := div_ratio ha hb (by omega) hj
  obtain rfl := hs hi
  have hk0 : 0 < k := by
    refine Int.not_le.mp fun hn => ?_
    have := Int.mul_nonneg (show 0 ≤ -k by omega) (Int.le_of_lt hj)
    rw [Int.neg_mul] at this
    omega
  obtain ⟨c, q, hfit, hq⟩ := natFit good_b64 wide_b64 false (n := k.natAbs) (show _ ≤ 2 ^ 53 from hk)
  show Whole k (val64 (ddiv a b))
  rw [hv]
  have hn : i.natAbs = k.natAbs * j.natAbs := by rw [h, Int.natAbs_mul]
  have e1 : roundRatio b64 false i.natAbs j.natAbs 0 = .fin false c q := roundRatio_exact good_b64 (by omega) hfit (by
    rw [hn, Nat.mul_right_comm, hq]; rw [Nat.mul_one]; ac_rfl)
  have e2 : round b64 (.fin false k.natAbs 0) = .fin false c q := roundRatio_exact good_b64 (by decide) hfit hq
  have hW : Whole k (.fin false k.natAbs 0) := by
    have := whole_ofInt k
    have e3 : ofInt k = .fin false k.natAbs 0 := by
      show Datum.fin (decide (k < 0)) k.natAbs 0 = _
      rw [decide_eq_false (by omega)]
    rw [e3] at this; exact this
  have := whole_round good_b64 wide_b64 (show _ ≤ 2 ^ 53 from hk) hW
  rw [e2] at this
  rw [e1]; exact this
/-- no NaN, as the steps ask it -/
theorem num_of {x : UInt64} (h : DFin x) : x &&& 0x7fffffffffffffff ≤ 0x7ff0000000000000 := by
  have h1 := (fin_bits x).mp h
  rw [UInt64.le_iff_toNat_le, mask_toNat]
  show x.toNat % 2 ^ 63 ≤ 9218868437227405312
  omega
theorem num_nan {x : UInt64} (h : dIsNaN x = false) : x &&& 0x7fffffffffffffff ≤ 0x7ff0000000000000 := by
  have h1 := (ne_nan x).mp ((notNaN_iff x).mp h)
  rw [UInt64.le_iff_toNat_le, mask_toNat]
  show x.toNat % 2 ^ 63 ≤ 9218868437227405312
  exact h1
theorem cv_eq {x y : UInt64} {op : ClassFile.CmpOp} (h : dcmp x y = some .eq) : Jvm.Op.cmpValue (Jvm.FP.dcmp x y) op = 0 := by
  show Jvm.Op.cmpValue (dcmp x y) op = 0
  rw [h]; rfl
theorem cv_lt {x y : UInt64} {op : ClassFile.CmpOp} (h : dcmp x y = some .lt) : Jvm.Op.cmpValue (Jvm.FP.dcmp x y) op = -1 := by
  show Jvm.Op.cmpValue (dcmp x y) op = -1
  rw [h]; rfl
theorem cv_gt {x y : UInt64} {op : ClassFile.CmpOp} (h : dcmp x y = some .gt) : Jvm.Op.cmpValue (Jvm.FP.dcmp x y) op = 1 := by
  show Jvm.Op.cmpValue (dcmp x y) op = 1
  rw [h]; rfl
end Jvm.Own
namespace Jvm.Pilot.@@N@@
open Jvm Jvm.ClassFile Sem Op Lib Jvm.Free Jvm.Stand Jvm.LawKit Jvm.RoadKit Bundle Jvm.Pilot.@@N@@.Jvm.D

def own_min (x y : Int32) : Int32 := if y < x then y else x
theorem own_min_a {x y : Int32} (h : y < x) : own_min x y = y := if_pos h
theorem own_min_b {x y : Int32} (h : ¬ y < x) : own_min x y = x := if_neg h
def own_max (x y : Int32) : Int32 := if x < y then y else x
theorem own_max_a {x y : Int32} (h : x < y) : own_max x y = y := if_pos h
theorem own_max_b {x y : Int32} (h : ¬ x < y) : own_max x y = x := if_neg h
theorem own_mm {x y : Int32} {B : Int} (hx : -B ≤ x.toInt ∧ x.toInt ≤ B) (hy : -B ≤ y.toInt ∧ y.toInt ≤ B) : (-B ≤ (own_min x y).toInt ∧ (own_min x y).toInt ≤ B) ∧ (-B ≤ (own_max x y).toInt ∧ (own_max x y).toInt ≤ B) ∧ (own_min x y).toInt ≤ (own_max x y).toInt := by
  by_cases h : y < x
  · have h2 : ¬ x < y := by rw [Int32.lt_iff_toInt_lt] at h ⊢; omega
    rw [own_min_a h, own_max_b h2]; rw [Int32.lt_iff_toInt_lt] at h; exact ⟨hy, hx, by omega⟩
  · by_cases h2 : x < y
    · rw [own_min_b h, own_max_a h2]; rw [Int32.lt_iff_toInt_lt] at h; exact ⟨hx, hy, by omega⟩
    · rw [own_min_b h, own_max_b h2]; exact ⟨hx, hx, by omega⟩
def OwnIn (d : UInt64) (p : Int32) : Prop := ¬ ((cmpValue (FP.dcmp d (FP.i2d (-p))) .l) < (0 : Int32)) ∧ ¬ ((0 : Int32) < (cmpValue (FP.dcmp d (FP.i2d p)) .g))
def OwnBox (d1 d2 d3 d4 : UInt64) : Prop := OwnIn d1 (180 : Int32) ∧ OwnIn d2 (90 : Int32) ∧ OwnIn d3 (180 : Int32) ∧ OwnIn d4 (90 : Int32) ∧ ¬ ((0 : Int32) < (cmpValue (FP.dcmp d2 d4) .l))
theorem own_cv {x y : UInt64} {op : CmpOp} {i j : Int} (h : FP.Core.dcmp x y = some (compare i j)) : (cmpValue (FP.dcmp x y) op < (0 : Int32) ↔ i < j) ∧ ((0 : Int32) < cmpValue (FP.dcmp x y) op ↔ j < i) := by
  rcases Int.lt_trichotomy i j with q | q | q
  · rw [(FP.Core.compare_lt_iff i j).mpr q] at h
    rw [Own.cv_lt h]
    exact ⟨⟨fun _ => q, fun _ => by decide⟩, ⟨fun z => absurd z (by decide), fun z => by omega⟩⟩
  · rw [(FP.Core.compare_eq_iff i j).mpr q] at h
    rw [Own.cv_eq h]
    exact ⟨⟨fun z => absurd z (by decide), fun z => by omega⟩, ⟨fun z => absurd z (by decide), fun z => by omega⟩⟩
  · rw [(FP.Core.compare_gt_iff i j).mpr q] at h
    rw [Own.cv_gt h]
    exact ⟨⟨fun z => absurd z (by decide), fun z => by omega⟩, ⟨fun _ => q, fun _ => by decide⟩⟩
theorem own_in {k : Nat} {i j j' : Int} {d : UInt64} {p : Int32} (h : Own.Dy k i d) (hl : Own.Dy k j (FP.i2d (-p))) (hu : Own.Dy k j' (FP.i2d p)) (h1 : j ≤ i) (h2 : i ≤ j') : OwnIn d p :=
  ⟨fun q => by have := (own_cv (Own.Dy.cmp h hl)).1.mp q; omega, fun q => by have := (own_cv (Own.Dy.cmp h hu)).2.mp q; omega⟩
def own_cross (x y : UInt64) : Int32 := if (0 : Int32) < (cmpValue (FP.dcmp x y) .l) then 1 else 0
theorem own_cross_a {x y : UInt64} (h : (0 : Int32) < (cmpValue (FP.dcmp x y) .l)) : own_cross x y = (1 : Int32) := if_pos h
theorem own_cross_b {x y : UInt64} (h : ¬ ((0 : Int32) < (cmpValue (FP.dcmp x y) .l))) : own_cross x y = (0 : Int32) := if_neg h
/-- a masked int, taken modulo an odd width and centred -/
theorem own_mid (x : Int32) {mm hh : Int32} (h1 : 0 < mm.toInt) (h2 : mm.toInt = 2 * hh.toInt + 1) (h3 : hh.toInt ≤ 20000) : -hh.toInt ≤ (((x &&& (2147483647 : Int32)) % mm) - hh).toInt ∧ (((x &&& (2147483647 : Int32)) % mm) - hh).toInt ≤ hh.toInt := by
  have q1 : (x &&& (2147483647 : Int32)).toInt = x.toInt % 2 ^ 31 := Kit.i32_mask x 2147483647 (by decide) (by decide)
  have q2 := Kit.i32_rem_nonneg (x := x &&& (2147483647 : Int32)) (y := mm) (by rw [q1]; omega)
  have q3 := Int.emod_nonneg (x &&& (2147483647 : Int32)).toInt (show mm.toInt ≠ 0 by omega)
  have q4 := Int.emod_lt_of_pos (x &&& (2147483647 : Int32)).toInt h1
  rw [← q2] at q3 q4
  generalize (x &&& (2147483647 : Int32)) % mm = r at *
  rw [Kit.i32_sub (by omega) (by omega)]
  omega
theorem d1_0 : decode jdk_29_method_69_code 0 = .ok (.iload_n 0, 1) := by decide +kernel
theorem d1_1 : decode jdk_29_method_69_code 1 = .ok (.iload_n 1, 1) := by decide +kernel
theorem d1_2 : decode jdk_29_method_69_code 2 = .ok (.if_icmp .gt 7, 3) := by decide +kernel
theorem d1_9 : decode jdk_29_method_69_code 9 = .ok (.iload_n 1, 1) := by decide +kernel
theorem d1_10 : decode jdk_29_method_69_code 10 = .ok (.ireturn, 1) := by decide +kernel
theorem d1_5 : decode jdk_29_method_69_code 5 = .ok (.iload_n 0, 1) := by decide +kernel
theorem d1_6 : decode jdk_29_method_69_code 6 = .ok (.goto 4, 3) := by decide +kernel
theorem ef_rm_min (m : MethodId) (x0 : Int32) (x1 : Int32) : entryFrame m #[(.int x0), (.int x1)] 2 = mkF m 0 #[.val (.int x0), .val (.int x1)] [] := by first | (simp [entryFrame, mkF, argsToLocals, Value.category]; done) | rfl
def Q_rm_min (Z : State) (p1 : Int32) (p2 : Int32) (h0 : Heap) (n0 : Nat) (v : Option Value) (h : Heap) (L : List Loc) : Prop := v = some (.int (own_min p1 p2)) ∧ Fr n0 L ∧ h = h0
set_option maxRecDepth 65536 in
set_option maxHeartbeats 40000000 in
theorem rm_min (l : Launch) (Z : State) (a0 : Array Value) (hw : ∀ d ∈ tables_1, d.before a0 Z = true) (ws : List Jvm.Cond) (p1 : Int32) (p2 : Int32) (h0 : Heap) (n0 : Nat) (Z0 : n0 ≤ h0.size)  :
    MetFree l (⟨"java/lang/Math", "min", "(II)I"⟩ : MethodName) (head1 (Jvm.Cond.code (⟨"java/lang/Math", "min", "(II)I"⟩ : MethodName) jdk_29_method_69_code 2 (some .int) :: ws) ({ frames := 0, cells := 0, slots := 0, locals := 0 } : Room)) (fun a U => a = #[(.int p1), (.int p2)] ∧ Z.Warmed39 U.vm ∧ U.heap = h0) (fun _ _ _ _ _ => True) (fun _ U o U' => ∃ v L, o = .returned v ∧ Q_rm_min Z p1 p2 h0 n0 v U'.heap L ∧ FrameEnd U o U' L ({ frames := 0, cells := 0, slots := 0, locals := 0 } : Room).cells ({ frames := 0, cells := 0, slots := 0, locals := 0 } : Room).slots) := by
  refine MetFree.of_bodySF (Jvm.Free.JP.mathPlain rfl (by decide +kernel)) hisR ?_
  intro p e s m args below meth c s₁ Bd hml0 hP hK
  obtain ⟨rfl, hZ, hh⟩ := hP
  have hx := Bd.exec
  have hby := Bd.bytes
  have hml : c.maxLocals = 2 := hml0
  have hown : s.vm.findClass "java/lang/Math" = some m.cls := findClass_of_methodNamed Bd.named
  have hnm := (name_of_methodNamed Bd.named Bd.method).1
  have X0 : Stand p l e ({ frames := 0, cells := 0, slots := 0, locals := 0 } : Room) s m #[(.int p1), (.int p2)] below meth c s₁ [] 0 0 := Stand.of_body Bd
  have e0 : s₁.heap = h0 := by rw [← hh, Bd.state]; rfl
  have N0 := Fr.nil n0
  refine Go.start (Q := Q_rm_min Z p1 p2 h0 n0) (ef_rm_min m p1 p2) ?_
  by_cases hc : p2 < p1
  · have sg1 : ∀ t, Steps p.tables e below (s₁.setTop (mkF m 10 #[.val (.int p1), .val (.int p2)] [(.int p2)])) t → Steps p.tables e below (s₁.setTop (mkF m 0 #[.val (.int p1), .val (.int p2)] [])) t := by
      intro t kt
      show Steps p.tables e below (s₁.setTop (mkF m 0 #[.val (.int p1), .val (.int p2)] [])) _
      refine XS.iloadN X0.here hx rfl (hb hby d1_0) rfl ?_
      show Steps p.tables e below (s₁.setTop (mkF m 1 #[.val (.int p1), .val (.int p2)] [(.int p1)])) _
      refine XS.iloadN X0.here hx rfl (hb hby d1_1) rfl ?_
      show Steps p.tables e below (s₁.setTop (mkF m 2 #[.val (.int p1), .val (.int p2)] [(.int p2), (.int p1)])) _
      refine XS.icmpYes X0.here hx rfl (pc0 := 2) (pc' := 9) rfl (hb hby d1_2) rfl (tlt (hc : p2 < p1)).2.2.1 (by decide) (by decide) ?_
      show Steps p.tables e below (s₁.setTop (mkF m 9 #[.val (.int p1), .val (.int p2)] [])) _
      refine XS.iloadN X0.here hx rfl (hb hby d1_9) rfl ?_
      exact kt
    refine Go.adv sg1 ?_
    refine Go.ret (v := (some (.int p2))) X0 (fun h => by rw [Bd.returns] at h; cases h) Bd.notSynchronized (fun fs hr => retOut X0 hx Bd.returns rfl (Or.inl ⟨rfl, Or.inl rfl, _, rfl⟩) (hb hby d1_10) hr) ?_ (by decide) (by decide)
    show Q_rm_min Z p1 p2 h0 n0 (some (.int p2)) s₁.heap _
    rw [e0]
    exact ⟨congrArg (fun z => some (Value.int z)) (own_min_a hc).symm, N0, rfl⟩
  · have sg2 : ∀ t, Steps p.tables e below (s₁.setTop (mkF m 10 #[.val (.int p1), .val (.int p2)] [(.int p1)])) t → Steps p.tables e below (s₁.setTop (mkF m 0 #[.val (.int p1), .val (.int p2)] [])) t := by
      intro t kt
      show Steps p.tables e below (s₁.setTop (mkF m 0 #[.val (.int p1), .val (.int p2)] [])) _
      refine XS.iloadN X0.here hx rfl (hb hby d1_0) rfl ?_
      show Steps p.tables e below (s₁.setTop (mkF m 1 #[.val (.int p1), .val (.int p2)] [(.int p1)])) _
      refine XS.iloadN X0.here hx rfl (hb hby d1_1) rfl ?_
      show Steps p.tables e below (s₁.setTop (mkF m 2 #[.val (.int p1), .val (.int p2)] [(.int p2), (.int p1)])) _
      refine XS.icmpNo X0.here hx rfl (hb hby d1_2) rfl (flt (hc : ¬ (p2 < p1))).2.2.1 ?_
      show Steps p.tables e below (s₁.setTop (mkF m 5 #[.val (.int p1), .val (.int p2)] [])) _
      refine XS.iloadN X0.here hx rfl (hb hby d1_5) rfl ?_
      show Steps p.tables e below (s₁.setTop (mkF m 6 #[.val (.int p1), .val (.int p2)] [(.int p1)])) _
      refine XS.goto X0.here hx rfl (pc0 := 6) (pc' := 10) rfl (hb hby d1_6) (by decide) (by decide) ?_
      exact kt
    refine Go.adv sg2 ?_
    refine Go.ret (v := (some (.int p1))) X0 (fun h => by rw [Bd.returns] at h; cases h) Bd.notSynchronized (fun fs hr => retOut X0 hx Bd.returns rfl (Or.inl ⟨rfl, Or.inl rfl, _, rfl⟩) (hb hby d1_10) hr) ?_ (by decide) (by decide)
    show Q_rm_min Z p1 p2 h0 n0 (some (.int p1)) s₁.heap _
    rw [e0]
    exact ⟨congrArg (fun z => some (Value.int z)) (own_min_b hc).symm, N0, rfl⟩
theorem d2_0 : decode jdk_29_method_65_code 0 = .ok (.iload_n 0, 1) := by decide +kernel
theorem d2_1 : decode jdk_29_method_65_code 1 = .ok (.iload_n 1, 1) := by decide +kernel
theorem d2_2 : decode jdk_29_method_65_code 2 = .ok (.if_icmp .lt 7, 3) := by decide +kernel
theorem d2_9 : decode jdk_29_method_65_code 9 = .ok (.iload_n 1, 1) := by decide +kernel
theorem d2_10 : decode jdk_29_method_65_code 10 = .ok (.ireturn, 1) := by decide +kernel
theorem d2_5 : decode jdk_29_method_65_code 5 = .ok (.iload_n 0, 1) := by decide +kernel
theorem d2_6 : decode jdk_29_method_65_code 6 = .ok (.goto 4, 3) := by decide +kernel
theorem ef_rm_max (m : MethodId) (x0 : Int32) (x1 : Int32) : entryFrame m #[(.int x0), (.int x1)] 2 = mkF m 0 #[.val (.int x0), .val (.int x1)] [] := by first | (simp [entryFrame, mkF, argsToLocals, Value.category]; done) | rfl
def Q_rm_max (Z : State) (p1 : Int32) (p2 : Int32) (h0 : Heap) (n0 : Nat) (v : Option Value) (h : Heap) (L : List Loc) : Prop := v = some (.int (own_max p1 p2)) ∧ Fr n0 L ∧ h = h0
set_option maxRecDepth 65536 in
set_option maxHeartbeats 40000000 in
theorem rm_max (l : Launch) (Z : State) (a0 : Array Value) (hw : ∀ d ∈ tables_1, d.before a0 Z = true) (ws : List Jvm.Cond) (p1 : Int32) (p2 : Int32) (h0 : Heap) (n0 : Nat) (Z0 : n0 ≤ h0.size)  :
    MetFree l (⟨"java/lang/Math", "max", "(II)I"⟩ : MethodName) (head1 (Jvm.Cond.code (⟨"java/lang/Math", "max", "(II)I"⟩ : MethodName) jdk_29_method_65_code 2 (some .int) :: ws) ({ frames := 0, cells := 0, slots := 0, locals := 0 } : Room)) (fun a U => a = #[(.int p1), (.int p2)] ∧ Z.Warmed39 U.vm ∧ U.heap = h0) (fun _ _ _ _ _ => True) (fun _ U o U' => ∃ v L, o = .returned v ∧ Q_rm_max Z p1 p2 h0 n0 v U'.heap L ∧ FrameEnd U o U' L ({ frames := 0, cells := 0, slots := 0, locals := 0 } : Room).cells ({ frames := 0, cells := 0, slots := 0, locals := 0 } : Room).slots) := by
  refine MetFree.of_bodySF (Jvm.Free.JP.mathPlain rfl (by decide +kernel)) hisR ?_
  intro p e s m args below meth c s₁ Bd hml0 hP hK
  obtain ⟨rfl, hZ, hh⟩ := hP
  have hx := Bd.exec
  have hby := Bd.bytes
  have hml : c.maxLocals = 2 := hml0
  have hown : s.vm.findClass "java/lang/Math" = some m.cls := findClass_of_methodNamed Bd.named
  have hnm := (name_of_methodNamed Bd.named Bd.method).1
  have X0 : Stand p l e ({ frames := 0, cells := 0, slots := 0, locals := 0 } : Room) s m #[(.int p1), (.int p2)] below meth c s₁ [] 0 0 := Stand.of_body Bd
  have e0 : s₁.heap = h0 := by rw [← hh, Bd.state]; rfl
  have N0 := Fr.nil n0
  refine Go.start (Q := Q_rm_max Z p1 p2 h0 n0) (ef_rm_max m p1 p2) ?_
  by_cases hc : p1 < p2
  · have sg1 : ∀ t, Steps p.tables e below (s₁.setTop (mkF m 10 #[.val (.int p1), .val (.int p2)] [(.int p2)])) t → Steps p.tables e below (s₁.setTop (mkF m 0 #[.val (.int p1), .val (.int p2)] [])) t := by
      intro t kt
      show Steps p.tables e below (s₁.setTop (mkF m 0 #[.val (.int p1), .val (.int p2)] [])) _
      refine XS.iloadN X0.here hx rfl (hb hby d2_0) rfl ?_
      show Steps p.tables e below (s₁.setTop (mkF m 1 #[.val (.int p1), .val (.int p2)] [(.int p1)])) _
      refine XS.iloadN X0.here hx rfl (hb hby d2_1) rfl ?_
      show Steps p.tables e below (s₁.setTop (mkF m 2 #[.val (.int p1), .val (.int p2)] [(.int p2), (.int p1)])) _
      refine XS.icmpYes X0.here hx rfl (pc0 := 2) (pc' := 9) rfl (hb hby d2_2) rfl (tlt (hc : p1 < p2)).1 (by decide) (by decide) ?_
      show Steps p.tables e below (s₁.setTop (mkF m 9 #[.val (.int p1), .val (.int p2)] [])) _
      refine XS.iloadN X0.here hx rfl (hb hby d2_9) rfl ?_
      exact kt
    refine Go.adv sg1 ?_
    refine Go.ret (v := (some (.int p2))) X0 (fun h => by rw [Bd.returns] at h; cases h) Bd.notSynchronized (fun fs hr => retOut X0 hx Bd.returns rfl (Or.inl ⟨rfl, Or.inl rfl, _, rfl⟩) (hb hby d2_10) hr) ?_ (by decide) (by decide)
    show Q_rm_max Z p1 p2 h0 n0 (some (.int p2)) s₁.heap _
    rw [e0]
    exact ⟨congrArg (fun z => some (Value.int z)) (own_max_a hc).symm, N0, rfl⟩
  · have sg2 : ∀ t, Steps p.tables e below (s₁.setTop (mkF m 10 #[.val (.int p1), .val (.int p2)] [(.int p1)])) t → Steps p.tables e below (s₁.setTop (mkF m 0 #[.val (.int p1), .val (.int p2)] [])) t := by
      intro t kt
      show Steps p.tables e below (s₁.setTop (mkF m 0 #[.val (.int p1), .val (.int p2)] [])) _
      refine XS.iloadN X0.here hx rfl (hb hby d2_0) rfl ?_
      show Steps p.tables e below (s₁.setTop (mkF m 1 #[.val (.int p1), .val (.int p2)] [(.int p1)])) _
      refine XS.iloadN X0.here hx rfl (hb hby d2_1) rfl ?_
      show Steps p.tables e below (s₁.setTop (mkF m 2 #[.val (.int p1), .val (.int p2)] [(.int p2), (.int p1)])) _
      refine XS.icmpNo X0.here hx rfl (hb hby d2_2) rfl (flt (hc : ¬ (p1 < p2))).1 ?_
      show Steps p.tables e below (s₁.setTop (mkF m 5 #[.val (.int p1), .val (.int p2)] [])) _
      refine XS.iloadN X0.here hx rfl (hb hby d2_5) rfl ?_
      show Steps p.tables e below (s₁.setTop (mkF m 6 #[.val (.int p1), .val (.int p2)] [(.int p1)])) _
      refine XS.goto X0.here hx rfl (pc0 := 6) (pc' := 10) rfl (hb hby d2_6) (by decide) (by decide) ?_
      exact kt
    refine Go.adv sg2 ?_
    refine Go.ret (v := (some (.int p1))) X0 (fun h => by rw [Bd.returns] at h; cases h) Bd.notSynchronized (fun fs hr => retOut X0 hx Bd.returns rfl (Or.inl ⟨rfl, Or.inl rfl, _, rfl⟩) (hb hby d2_10) hr) ?_ (by decide) (by decide)
    show Q_rm_max Z p1 p2 h0 n0 (some (.int p1)) s₁.heap _
    rw [e0]
    exact ⟨congrArg (fun z => some (Value.int z)) (own_max_b hc).symm, N0, rfl⟩
theorem pn4 : plainName "java/lang/Record" = true := by first | (simp [plainName, overriddenIn]; done) | decide +kernel
theorem d4_0 : decode jdk_30_method_1_code 0 = .ok (.aload_n 0, 1) := by decide +kernel
theorem d4_1 : decode jdk_30_method_1_code 1 = .ok (.invokespecial 1, 3) := by decide +kernel
theorem d4_4 : decode jdk_30_method_1_code 4 = .ok (.return_, 1) := by decide +kernel
theorem ef_rm_rec (m : MethodId) (x0 : Addr) : entryFrame m #[(.ref x0)] 1 = mkF m 0 #[.val (.ref x0)] [] := by first | (simp [entryFrame, mkF, argsToLocals, Value.category]; done) | rfl
def Q_rm_rec (Z : State) (a1 : Addr) (h0 : Heap) (n0 : Nat) (v : Option Value) (h : Heap) (L : List Loc) : Prop := v = none ∧ Fr n0 L ∧ h = h0
set_option maxRecDepth 65536 in
set_option maxHeartbeats 40000000 in
theorem rm_rec (l : Launch) (Z : State) (a0 : Array Value) (hw : ∀ d ∈ tables_1, d.before a0 Z = true) (ws : List Jvm.Cond) (a1 : Addr) (h0 : Heap) (n0 : Nat) (Z0 : n0 ≤ h0.size)  :
    MetFree l (⟨"java/lang/Record", "<init>", "()V"⟩ : MethodName) (head1 (Jvm.Cond.code (⟨"java/lang/Record", "<init>", "()V"⟩ : MethodName) jdk_30_method_1_code 1 none :: ws) ({ frames := 1, cells := 0, slots := 0, locals := 12 } : Room)) (fun a U => a = #[(.ref a1)] ∧ Z.Warmed39 U.vm ∧ U.heap = h0) (fun _ _ _ _ _ => True) (fun _ U o U' => ∃ v L, o = .returned v ∧ Q_rm_rec Z a1 h0 n0 v U'.heap L ∧ FrameEnd U o U' L ({ frames := 1, cells := 0, slots := 0, locals := 12 } : Room).cells ({ frames := 1, cells := 0, slots := 0, locals := 12 } : Room).slots) := by
  refine MetFree.of_bodySF (plainFor_of_name pn4) hisR ?_
  intro p e s m args below meth c s₁ Bd hml0 hP hK
  obtain ⟨rfl, hZ, hh⟩ := hP
  have hx := Bd.exec
  have hby := Bd.bytes
  have hml : c.maxLocals = 1 := hml0
  have hown : s.vm.findClass "java/lang/Record" = some m.cls := findClass_of_methodNamed Bd.named
  have hnm := (name_of_methodNamed Bd.named Bd.method).1
  have X0 : Stand p l e ({ frames := 1, cells := 0, slots := 0, locals := 12 } : Room) s m #[(.ref a1)] below meth c s₁ [] 0 0 := Stand.of_body Bd
  have e0 : s₁.heap = h0 := by rw [← hh, Bd.state]; rfl
  have N0 := Fr.nil n0
  refine Go.start (Q := Q_rm_rec Z a1 h0 n0) (ef_rm_rec m a1) ?_
  have sg1 : ∀ t, Steps p.tables e below (s₁.setTop (mkF m 1 #[.val (.ref a1)] [(.ref a1)])) t → Steps p.tables e below (s₁.setTop (mkF m 0 #[.val (.ref a1)] [])) t := by
    intro t kt
    show Steps p.tables e below (s₁.setTop (mkF m 0 #[.val (.ref a1)] [])) _
    refine XS.aloadN X0.here hx rfl (hb hby d4_0) rfl rfl ?_
    exact kt
  refine Go.adv sg1 ?_
  obtain ⟨T2, X2, e2, st2⟩ := initO X0 hx hZ hown (hw _ (List.mem_of_getElem? (i := 20) rfl)) (hw _ (List.mem_of_getElem? (i := 21) rfl)) (hw _ (List.mem_of_getElem? (i := 22) rfl)) e0 (g := (mkF m 1 #[.val (.ref a1)] [(.ref a1)])) rfl (by rw [hml]; rfl) rfl (hb hby d4_1) (by decide) (W := 0) (by show 2 * 0 + _ ≤ _; exact Nat.le_of_eq rfl) (by decide)
  refine Go.adv st2 ?_
  show Go p.tables e below s _ _ _ (T2.setTop (mkF m 4 #[.val (.ref a1)] []))
  refine Go.ret (v := none) X2 (fun _ => rfl) Bd.notSynchronized (fun fs hr => X2.returnOut hx Bd.returns (hb hby d4_4) hr) ?_ (by decide) (by decide)
  show Q_rm_rec Z a1 h0 n0 none T2.heap _
  rw [e2]
  exact ⟨rfl, N0, rfl⟩
theorem pn6 : plainName "com/example/ostra/ostra/core/Box" = true := by first | (simp [plainName, overriddenIn]; done) | decide +kernel
theorem d6_0 : decode prog_4_method_11_code 0 = .ok (.dload_n 1, 1) := by decide +kernel
theorem d6_1 : decode prog_4_method_11_code 1 = .ok (.iload_n 3, 1) := by decide +kernel
theorem d6_2 : decode prog_4_method_11_code 2 = .ok (.ineg, 1) := by decide +kernel
theorem d6_3 : decode prog_4_method_11_code 3 = .ok (.i2d, 1) := by decide +kernel
theorem d6_4 : decode prog_4_method_11_code 4 = .ok (.dcmp .l, 1) := by decide +kernel
theorem d6_5 : decode prog_4_method_11_code 5 = .ok (.ifCond .lt 10, 3) := by decide +kernel
theorem d6_8 : decode prog_4_method_11_code 8 = .ok (.dload_n 1, 1) := by decide +kernel
theorem d6_9 : decode prog_4_method_11_code 9 = .ok (.iload_n 3, 1) := by decide +kernel
theorem d6_10 : decode prog_4_method_11_code 10 = .ok (.i2d, 1) := by decide +kernel
theorem d6_11 : decode prog_4_method_11_code 11 = .ok (.dcmp .g, 1) := by decide +kernel
theorem d6_12 : decode prog_4_method_11_code 12 = .ok (.ifCond .le 20, 3) := by decide +kernel
theorem d6_32 : decode prog_4_method_11_code 32 = .ok (.return_, 1) := by decide +kernel
theorem ef_rm_within (m : MethodId) (x0 : Addr) (x1 : UInt64) (x2 : Int32) : entryFrame m #[(.ref x0), (.double x1), (.int x2)] 4 = mkF m 0 #[.val (.ref x0), .val (.double x1), .second, .val (.int x2)] [] := by first | (simp [entryFrame, mkF, argsToLocals, Value.category]; done) | rfl
def Q_rm_within (Z : State) (a1 : Addr) (d1 : UInt64) (p1 : Int32) (h0 : Heap) (n0 : Nat) (v : Option Value) (h : Heap) (L : List Loc) : Prop := v = none ∧ Fr n0 L ∧ h = h0
set_option maxRecDepth 65536 in
set_option maxHeartbeats 40000000 in
theorem rm_within (l : Launch) (Z : State) (a0 : Array Value) (hw : ∀ d ∈ tables_1, d.before a0 Z = true) (ws : List Jvm.Cond) (a1 : Addr) (d1 : UInt64) (p1 : Int32) (h0 : Heap) (n0 : Nat) (Z0 : n0 ≤ h0.size) (hI : OwnIn d1 p1) :
    MetFree l (⟨"com/example/ostra/ostra/core/Box", "requireWithin", "(Ljava/lang/String;DI)V"⟩ : MethodName) (head1 (Jvm.Cond.code (⟨"com/example/ostra/ostra/core/Box", "requireWithin", "(Ljava/lang/String;DI)V"⟩ : MethodName) prog_4_method_11_code 4 none :: ws) ({ frames := 0, cells := 0, slots := 0, locals := 0 } : Room)) (fun a U => a = #[(.ref a1), (.double d1), (.int p1)] ∧ Z.Warmed39 U.vm ∧ U.heap = h0) (fun _ _ _ _ _ => True) (fun _ U o U' => ∃ v L, o = .returned v ∧ Q_rm_within Z a1 d1 p1 h0 n0 v U'.heap L ∧ FrameEnd U o U' L ({ frames := 0, cells := 0, slots := 0, locals := 0 } : Room).cells ({ frames := 0, cells := 0, slots := 0, locals := 0 } : Room).slots) := by
  refine MetFree.of_bodySF (plainFor_of_name pn6) hisR ?_
  intro p e s m args below meth c s₁ Bd hml0 hP hK
  obtain ⟨rfl, hZ, hh⟩ := hP
  have hx := Bd.exec
  have hby := Bd.bytes
  have hml : c.maxLocals = 4 := hml0
  have hown : s.vm.findClass "com/example/ostra/ostra/core/Box" = some m.cls := findClass_of_methodNamed Bd.named
  have hnm := (name_of_methodNamed Bd.named Bd.method).1
  have X0 : Stand p l e ({ frames := 0, cells := 0, slots := 0, locals := 0 } : Room) s m #[(.ref a1), (.double d1), (.int p1)] below meth c s₁ [] 0 0 := Stand.of_body Bd
  have e0 : s₁.heap = h0 := by rw [← hh, Bd.state]; rfl
  have N0 := Fr.nil n0
  refine Go.start (Q := Q_rm_within Z a1 d1 p1 h0 n0) (ef_rm_within m a1 d1 p1) ?_
  have sg1 : ∀ t, Steps p.tables e below (s₁.setTop (mkF m 32 #[.val (.ref a1), .val (.double d1), .second, .val (.int p1)] [])) t → Steps p.tables e below (s₁.setTop (mkF m 0 #[.val (.ref a1), .val (.double d1), .second, .val (.int p1)] [])) t := by
    intro t kt
    show Steps p.tables e below (s₁.setTop (mkF m 0 #[.val (.ref a1), .val (.double d1), .second, .val (.int p1)] [])) _
    refine own_dloadN X0.here hx rfl (hb hby d6_0) rfl ?_
    show Steps p.tables e below (s₁.setTop (mkF m 1 #[.val (.ref a1), .val (.double d1), .second, .val (.int p1)] [(.double d1)])) _
    refine XS.iloadN X0.here hx rfl (hb hby d6_1) rfl ?_
    show Steps p.tables e below (s₁.setTop (mkF m 2 #[.val (.ref a1), .val (.double d1), .second, .val (.int p1)] [(.int p1), (.double d1)])) _
    refine XS.ineg X0.here hx rfl (hb hby d6_2) rfl ?_
    show Steps p.tables e below (s₁.setTop (mkF m 3 #[.val (.ref a1), .val (.double d1), .second, .val (.int p1)] [(.int (-p1)), (.double d1)])) _
    refine own_i2d X0.here hx rfl (hb hby d6_3) rfl ?_
    show Steps p.tables e below (s₁.setTop (mkF m 4 #[.val (.ref a1), .val (.double d1), .second, .val (.int p1)] [(.double (FP.i2d (-p1))), (.double d1)])) _
    refine own_dcmp X0.here hx rfl (hb hby d6_4) rfl ?_
    show Steps p.tables e below (s₁.setTop (mkF m 5 #[.val (.ref a1), .val (.double d1), .second, .val (.int p1)] [(.int (cmpValue (FP.dcmp d1 (FP.i2d (-p1))) .l))])) _
    refine XS.ifNo X0.here hx rfl (hb hby d6_5) rfl ((if0 _ _).trans (flt (hI.1 : ¬ ((cmpValue (FP.dcmp d1 (FP.i2d (-p1))) .l) < (0 : Int32)))).1) ?_
    show Steps p.tables e below (s₁.setTop (mkF m 8 #[.val (.ref a1), .val (.double d1), .second, .val (.int p1)] [])) _
    refine own_dloadN X0.here hx rfl (hb hby d6_8) rfl ?_
    show Steps p.tables e below (s₁.setTop (mkF m 9 #[.val (.ref a1), .val (.double d1), .second, .val (.int p1)] [(.double d1)])) _
    refine XS.iloadN X0.here hx rfl (hb hby d6_9) rfl ?_
    show Steps p.tables e below (s₁.setTop (mkF m 10 #[.val (.ref a1), .val (.double d1), .second, .val (.int p1)] [(.int p1), (.double d1)])) _
    refine own_i2d X0.here hx rfl (hb hby d6_10) rfl ?_
    show Steps p.tables e below (s₁.setTop (mkF m 11 #[.val (.ref a1), .val (.double d1), .second, .val (.int p1)] [(.double (FP.i2d p1)), (.double d1)])) _
    refine own_dcmp X0.here hx rfl (hb hby d6_11) rfl ?_
    show Steps p.tables e below (s₁.setTop (mkF m 12 #[.val (.ref a1), .val (.double d1), .second, .val (.int p1)] [(.int (cmpValue (FP.dcmp d1 (FP.i2d p1)) .g))])) _
    refine XS.ifYes X0.here hx rfl (pc0 := 12) (pc' := 32) rfl (hb hby d6_12) rfl ((if0 _ _).trans (flt (hI.2 : ¬ ((0 : Int32) < (cmpValue (FP.dcmp d1 (FP.i2d p1)) .g)))).2.2.2) (by decide) (by decide) ?_
    exact kt
  refine Go.adv sg1 ?_
  refine Go.ret (v := none) X0 (fun _ => rfl) Bd.notSynchronized (fun fs hr => X0.returnOut hx Bd.returns (hb hby d6_32) hr) ?_ (by decide) (by decide)
  show Q_rm_within Z a1 d1 p1 h0 n0 none s₁.heap _
  rw [e0]
  exact ⟨rfl, N0, rfl⟩
theorem pn3 : plainName "com/example/ostra/ostra/core/Box" = true := by first | (simp [plainName, overriddenIn]; done) | decide +kernel
theorem d3_0 : decode prog_4_method_1_code 0 = .ok (.aload_n 0, 1) := by decide +kernel
theorem d3_1 : decode prog_4_method_1_code 1 = .ok (.invokespecial 1, 3) := by decide +kernel
theorem pd_ocV : parseMethodDescriptor "()V" = some ⟨[], none⟩ := by decide +kernel
theorem d3_4 : decode prog_4_method_1_code 4 = .ok (.ldc 7, 2) := by decide +kernel
theorem own_wS {Z : State} {a0 : Array Value} (hw : ∀ d ∈ tables_1, d.before a0 Z = true) : ∀ a ∈ Bundle.stringAtoms, a.before a0 Z = true := by
  intro a ha
  simp only [Bundle.stringAtoms, List.mem_cons, List.not_mem_nil, or_false] at ha
  rcases ha with rfl | rfl | rfl | rfl | rfl | rfl | rfl
  · exact (hw _ (List.mem_of_getElem? (i := 24) rfl))
  · exact (hw _ (List.mem_of_getElem? (i := 25) rfl))
  · exact (hw _ (List.mem_of_getElem? (i := 26) rfl))
  · exact (hw _ (List.mem_of_getElem? (i := 27) rfl))
  · exact (hw _ (List.mem_of_getElem? (i := 28) rfl))
  · exact (hw _ (List.mem_of_getElem? (i := 29) rfl))
  · exact (hw _ (List.mem_of_getElem? (i := 30) rfl))
theorem d3_6 : decode prog_4_method_1_code 6 = .ok (.dload_n 1, 1) := by decide +kernel
theorem d3_7 : decode prog_4_method_1_code 7 = .ok (.sipush 180, 3) := by decide +kernel
theorem d3_10 : decode prog_4_method_1_code 10 = .ok (.invokestatic 9, 3) := by decide +kernel
theorem pd_oLjavaslangsStringeDIcV : parseMethodDescriptor "(Ljava/lang/String;DI)V" = some ⟨[(.object "java/lang/String"), .double, .int], none⟩ := by decide +kernel
theorem d3_13 : decode prog_4_method_1_code 13 = .ok (.ldc 15, 2) := by decide +kernel
theorem d3_15 : decode prog_4_method_1_code 15 = .ok (.dload_n 3, 1) := by decide +kernel
theorem d3_16 : decode prog_4_method_1_code 16 = .ok (.bipush 90, 2) := by decide +kernel
theorem d3_18 : decode prog_4_method_1_code 18 = .ok (.invokestatic 9, 3) := by decide +kernel
theorem d3_21 : decode prog_4_method_1_code 21 = .ok (.ldc 17, 2) := by decide +kernel
theorem d3_23 : decode prog_4_method_1_code 23 = .ok (.dload 5, 2) := by decide +kernel
theorem d3_25 : decode prog_4_method_1_code 25 = .ok (.sipush 180, 3) := by decide +kernel
theorem d3_28 : decode prog_4_method_1_code 28 = .ok (.invokestatic 9, 3) := by decide +kernel
theorem d3_31 : decode prog_4_method_1_code 31 = .ok (.ldc 19, 2) := by decide +kernel
theorem d3_33 : decode prog_4_method_1_code 33 = .ok (.dload 7, 2) := by decide +kernel
theorem d3_35 : decode prog_4_method_1_code 35 = .ok (.bipush 90, 2) := by decide +kernel
theorem d3_37 : decode prog_4_method_1_code 37 = .ok (.invokestatic 9, 3) := by decide +kernel
theorem d3_40 : decode prog_4_method_1_code 40 = .ok (.dload_n 3, 1) := by decide +kernel
theorem d3_41 : decode prog_4_method_1_code 41 = .ok (.dload 7, 2) := by decide +kernel
theorem d3_43 : decode prog_4_method_1_code 43 = .ok (.dcmp .l, 1) := by decide +kernel
theorem d3_44 : decode prog_4_method_1_code 44 = .ok (.ifCond .le 19, 3) := by decide +kernel
theorem d3_63 : decode prog_4_method_1_code 63 = .ok (.aload_n 0, 1) := by decide +kernel
theorem d3_64 : decode prog_4_method_1_code 64 = .ok (.dload_n 1, 1) := by decide +kernel
theorem d3_65 : decode prog_4_method_1_code 65 = .ok (.putfield 30, 3) := by decide +kernel
theorem d3_68 : decode prog_4_method_1_code 68 = .ok (.aload_n 0, 1) := by decide +kernel
theorem d3_69 : decode prog_4_method_1_code 69 = .ok (.dload_n 3, 1) := by decide +kernel
theorem d3_70 : decode prog_4_method_1_code 70 = .ok (.putfield 33, 3) := by decide +kernel
theorem d3_73 : decode prog_4_method_1_code 73 = .ok (.aload_n 0, 1) := by decide +kernel
theorem d3_74 : decode prog_4_method_1_code 74 = .ok (.dload 5, 2) := by decide +kernel
theorem d3_76 : decode prog_4_method_1_code 76 = .ok (.putfield 35, 3) := by decide +kernel
theorem d3_79 : decode prog_4_method_1_code 79 = .ok (.aload_n 0, 1) := by decide +kernel
theorem d3_80 : decode prog_4_method_1_code 80 = .ok (.dload 7, 2) := by decide +kernel
theorem d3_82 : decode prog_4_method_1_code 82 = .ok (.putfield 37, 3) := by decide +kernel
theorem d3_85 : decode prog_4_method_1_code 85 = .ok (.return_, 1) := by decide +kernel
theorem ef_rm_init (m : MethodId) (x0 : Addr) (x1 : UInt64) (x2 : UInt64) (x3 : UInt64) (x4 : UInt64) : entryFrame m #[(.ref x0), (.double x1), (.double x2), (.double x3), (.double x4)] 9 = mkF m 0 #[.val (.ref x0), .val (.double x1), .second, .val (.double x2), .second, .val (.double x3), .second, .val (.double x4), .second] [] := by first | (simp [entryFrame, mkF, argsToLocals, Value.category]; done) | rfl
def Q_rm_init (Z : State) (a1 : Addr) (d1 : UInt64) (d2 : UInt64) (d3 : UInt64) (d4 : UInt64) (u_west : Value) (u_south : Value) (u_east : Value) (u_north : Value) (h0 : Heap) (n0 : Nat) (v : Option Value) (h : Heap) (L : List Loc) : Prop := v = none ∧ Fr n0 L ∧ Keep h0 h [a1] ∧ Exa Z h a1 "com/example/ostra/ostra/core/Box" ∧ Fld Z h a1 "com/example/ostra/ostra/core/Box" "west" "D" (.double d1) ∧ Fld Z h a1 "com/example/ostra/ostra/core/Box" "south" "D" (.double d2) ∧ Fld Z h a1 "com/example/ostra/ostra/core/Box" "east" "D" (.double d3) ∧ Fld Z h a1 "com/example/ostra/ostra/core/Box" "north" "D" (.double d4)
set_option maxRecDepth 65536 in
set_option maxHeartbeats 40000000 in
theorem rm_init (l : Launch) (Z : State) (a0 : Array Value) (hw : ∀ d ∈ tables_1, d.before a0 Z = true) (ws : List Jvm.Cond) (a1 : Addr) (d1 : UInt64) (d2 : UInt64) (d3 : UInt64) (d4 : UInt64) (u_west : Value) (u_south : Value) (u_east : Value) (u_north : Value) (h0 : Heap) (n0 : Nat) (Z0 : n0 ≤ h0.size) (E_a1 : Exa Z h0 a1 "com/example/ostra/ostra/core/Box") (g_a1 : n0 ≤ a1) (F_west_a1 : Fld Z h0 a1 "com/example/ostra/ostra/core/Box" "west" "D" u_west) (F_south_a1 : Fld Z h0 a1 "com/example/ostra/ostra/core/Box" "south" "D" u_south) (F_east_a1 : Fld Z h0 a1 "com/example/ostra/ostra/core/Box" "east" "D" u_east) (F_north_a1 : Fld Z h0 a1 "com/example/ostra/ostra/core/Box" "north" "D" u_north) (hB : OwnBox d1 d2 d3 d4) :
    MetFree l (⟨"com/example/ostra/ostra/core/Box", "<init>", "(DDDD)V"⟩ : MethodName) (head1 (Jvm.Cond.code (⟨"com/example/ostra/ostra/core/Box", "<init>", "(DDDD)V"⟩ : MethodName) prog_4_method_1_code 9 none :: ws) ({ frames := 2, cells := 8, slots := 88, locals := 24 } : Room)) (fun a U => a = #[(.ref a1), (.double d1), (.double d2), (.double d3), (.double d4)] ∧ Z.Warmed39 U.vm ∧ U.heap = h0) (fun _ _ _ _ _ => True) (fun _ U o U' => ∃ v L, o = .returned v ∧ Q_rm_init Z a1 d1 d2 d3 d4 u_west u_south u_east u_north h0 n0 v U'.heap L ∧ ReturnedEndW U o U' L ({ frames := 2, cells := 8, slots := 88, locals := 24 } : Room).cells ({ frames := 2, cells := 8, slots := 88, locals := 24 } : Room).slots) := by
  refine MetFree.of_bodySF (plainFor_of_name pn3) hisR ?_
  intro p e s m args below meth c s₁ Bd hml0 hP hK
  obtain ⟨rfl, hZ, hh⟩ := hP
  have hx := Bd.exec
  have hby := Bd.bytes
  have hml : c.maxLocals = 9 := hml0
  have hown : s.vm.findClass "com/example/ostra/ostra/core/Box" = some m.cls := findClass_of_methodNamed Bd.named
  have hnm := (name_of_methodNamed Bd.named Bd.method).1
  have X0 : Stand p l e ({ frames := 2, cells := 8, slots := 88, locals := 24 } : Room) (s.setVm s.vm) m #[(.ref a1), (.double d1), (.double d2), (.double d3), (.double d4)] below meth c s₁ [] 0 0 := Stand.of_body Bd
  have e0 : s₁.heap = h0 := by rw [← hh, Bd.state]; rfl
  have N0 := Fr.nil n0
  have hS0 : s.Since s.vm 0 := (State.WarmedH.refl s).since 0
  have hk0 : 0 ≤ h0.size := Nat.zero_le _
  refine GoW.start (Q := Q_rm_init Z a1 d1 d2 d3 d4 u_west u_south u_east u_north h0 n0) (ef_rm_init m a1 d1 d2 d3 d4) ?_
  have sg1 : ∀ t, Steps p.tables e below (s₁.setTop (mkF m 1 #[.val (.ref a1), .val (.double d1), .second, .val (.double d2), .second, .val (.double d3), .second, .val (.double d4), .second] [(.ref a1)])) t → Steps p.tables e below (s₁.setTop (mkF m 0 #[.val (.ref a1), .val (.double d1), .second, .val (.double d2), .second, .val (.double d3), .second, .val (.double d4), .second] [])) t := by
    intro t kt
    show Steps p.tables e below (s₁.setTop (mkF m 0 #[.val (.ref a1), .val (.double d1), .second, .val (.double d2), .second, .val (.double d3), .second, .val (.double d4), .second] [])) _
    refine XS.aloadN X0.here hx rfl (hb hby d3_0) rfl rfl ?_
    exact kt
  refine GoW.adv sg1 ?_
  obtain ⟨_, _, ⟨T2, L2, k2, n2⟩, -, X2, ⟨Lc2, hQ2, l2, y2, z2⟩, st2⟩ := X0.specialBack hx (y := (⟨"java/lang/Record", "<init>", "()V"⟩ : MethodName)) rfl hown (mvT hZ (hw _ (List.mem_of_getElem? (i := 15) rfl))) (mvT hZ (hw _ (List.mem_of_getElem? (i := 16) rfl))) (mvT hZ (hw _ (List.mem_of_getElem? (i := 19) rfl))) (by decide) (backOf (W := 0) (rm_rec l Z a0 hw [] a1  h0 n0 Z0 ) hZ (hw _ (List.mem_of_getElem? (i := 19) rfl)) (hw _ (List.mem_of_getElem? (i := 18) rfl)) (by decide) (by decide)) (g := (mkF m 1 #[.val (.ref a1), .val (.double d1), .second, .val (.double d2), .second, .val (.double d3), .second, .val (.double d4), .second] [(.ref a1)])) rfl (by rw [hml]; rfl) (Steps.refl _) (a := a1) (argsL := []) (rest := []) (lenOf pd_ocV rfl) rfl (by show 2 * 0 + _ ≤ _; exact Nat.le_of_eq rfl) (hb hby d3_1) (fun _ _ => ⟨rfl, e0, (by decide : 0 + 0 ≤ _), (by decide : 0 + 0 ≤ _)⟩)
  dsimp only [Pt.U, Pt.locs, Pt.cells, Pt.slots] at X2 l2 y2 z2 st2 hQ2
  subst l2 y2 z2
  obtain ⟨rfl, N2q, e2⟩ := hQ2
  have N2 := Fr.app N0 N2q
  refine GoW.tr st2 ?_
  show GoW p.tables e below s _ _ _ (T2.setTop (mkF m 4 #[.val (.ref a1), .val (.double d1), .second, .val (.double d2), .second, .val (.double d3), .second, .val (.double d4), .second] []))
  obtain ⟨b3, T3, h3, k3, X3, e3, E3, hS3, hk3, hZ3, hown3, st3⟩ := ldcS X2 hx hZ hown (hw _ (List.mem_of_getElem? (i := 23) rfl)) (own_wS hw) e2 hS0 hk0 (g := (mkF m 4 #[.val (.ref a1), .val (.double d1), .second, .val (.double d2), .second, .val (.double d3), .second, .val (.double d4), .second] [])) rfl (hb hby d3_4) (n := 16) (by decide) (by decide) (by decide) (by decide)
  have K3 : Keep h0 h3 [a1] := (Keep.refl h0 [a1]).ext E3
  have Z3 : n0 ≤ h3.size := Nat.le_trans Z0 E3.1
  refine GoW.adv st3 ?_
  show GoW p.tables e below s _ _ _ (T3.setTop (mkF m 6 #[.val (.ref a1), .val (.double d1), .second, .val (.double d2), .second, .val (.double d3), .second, .val (.double d4), .second] [(.ref b3)]))
  have sg4 : ∀ t, Steps p.tables e below (T3.setTop (mkF m 10 #[.val (.ref a1), .val (.double d1), .second, .val (.double d2), .second, .val (.double d3), .second, .val (.double d4), .second] [(.int (180 : Int32)), (.double d1), (.ref b3)])) t → Steps p.tables e below (T3.setTop (mkF m 6 #[.val (.ref a1), .val (.double d1), .second, .val (.double d2), .second, .val (.double d3), .second, .val (.double d4), .second] [(.ref b3)])) t := by
    intro t kt
    show Steps p.tables e below (T3.setTop (mkF m 6 #[.val (.ref a1), .val (.double d1), .second, .val (.double d2), .second, .val (.double d3), .second, .val (.double d4), .second] [(.ref b3)])) _
    refine own_dloadN X3.here hx rfl (hb hby d3_6) rfl ?_
    show Steps p.tables e below (T3.setTop (mkF m 7 #[.val (.ref a1), .val (.double d1), .second, .val (.double d2), .second, .val (.double d3), .second, .val (.double d4), .second] [(.double d1), (.ref b3)])) _
    refine XS.sipush X3.here hx rfl (hb hby d3_7) ?_
    exact kt
  refine GoW.adv sg4 ?_
  obtain ⟨_, _, ⟨T5, L5, k5, n5⟩, -, X5, ⟨Lc5, hQ5, l5, y5, z5⟩, st5⟩ := Jvm.LawKit.callS X3 hx (y := (⟨"com/example/ostra/ostra/core/Box", "requireWithin", "(Ljava/lang/String;DI)V"⟩ : MethodName)) hown3 (mvT hZ3 (hw _ (List.mem_of_getElem? (i := 31) rfl))) (mvT hZ3 (hw _ (List.mem_of_getElem? (i := 32) rfl))) (mvT hZ3 (hw _ (List.mem_of_getElem? (i := 10) rfl))) (mvT hZ3 (hw _ (List.mem_of_getElem? (i := 33) rfl))) (by decide) (backOf (W := 0) (rm_within l Z a0 hw [] b3 d1 (180 : Int32)  h3 n0 Z3 hB.1) hZ3 (hw _ (List.mem_of_getElem? (i := 33) rfl)) (hw _ (List.mem_of_getElem? (i := 10) rfl)) (by decide) (by decide)) (g := (mkF m 10 #[.val (.ref a1), .val (.double d1), .second, .val (.double d2), .second, .val (.double d3), .second, .val (.double d4), .second] [(.int (180 : Int32)), (.double d1), (.ref b3)])) rfl (by rw [hml]; rfl) (argsL := [(.ref b3), (.double d1), (.int (180 : Int32))]) (rest := []) (lenOf pd_oLjavaslangsStringeDIcV rfl) rfl (by show 2 * 0 + _ ≤ _; exact Nat.le_of_eq rfl) (hb hby d3_10) (fun _ _ => ⟨rfl, e3, (by decide : 2 + 0 ≤ _), (by decide : 20 + 0 ≤ _)⟩)
  dsimp only [Pt.U, Pt.locs, Pt.cells, Pt.slots] at X5 l5 y5 z5 st5 hQ5
  subst l5 y5 z5
  obtain ⟨rfl, N5q, e5⟩ := hQ5
  have N5 := Fr.app N2 N5q
  refine GoW.adv st5 ?_
  show GoW p.tables e below s _ _ _ (T5.setTop (mkF m 13 #[.val (.ref a1), .val (.double d1), .second, .val (.double d2), .second, .val (.double d3), .second, .val (.double d4), .second] []))
  obtain ⟨b6, T6, h6, k6, X6, e6, E6, hS6, hk6, hZ6, hown6, st6⟩ := ldcS X5 hx hZ3 hown3 (hw _ (List.mem_of_getElem? (i := 34) rfl)) (own_wS hw) e5 hS3 hk3 (g := (mkF m 13 #[.val (.ref a1), .val (.double d1), .second, .val (.double d2), .second, .val (.double d3), .second, .val (.double d4), .second] [])) rfl (hb hby d3_13) (n := 20) (by decide) (by decide) (by decide) (by decide)
  have K6 : Keep h0 h6 [a1] := K3.ext E6
  have Z6 : n0 ≤ h6.size := Nat.le_trans Z3 E6.1
  refine GoW.adv st6 ?_
  show GoW p.tables e below s _ _ _ (T6.setTop (mkF m 15 #[.val (.ref a1), .val (.double d1), .second, .val (.double d2), .second, .val (.double d3), .second, .val (.double d4), .second] [(.ref b6)]))
  have sg7 : ∀ t, Steps p.tables e below (T6.setTop (mkF m 18 #[.val (.ref a1), .val (.double d1), .second, .val (.double d2), .second, .val (.double d3), .second, .val (.double d4), .second] [(.int (90 : Int32)), (.double d2), (.ref b6)])) t → Steps p.tables e below (T6.setTop (mkF m 15 #[.val (.ref a1), .val (.double d1), .second, .val (.double d2), .second, .val (.double d3), .second, .val (.double d4), .second] [(.ref b6)])) t := by
    intro t kt
    show Steps p.tables e below (T6.setTop (mkF m 15 #[.val (.ref a1), .val (.double d1), .second, .val (.double d2), .second, .val (.double d3), .second, .val (.double d4), .second] [(.ref b6)])) _
    refine own_dloadN X6.here hx rfl (hb hby d3_15) rfl ?_
    show Steps p.tables e below (T6.setTop (mkF m 16 #[.val (.ref a1), .val (.double d1), .second, .val (.double d2), .second, .val (.double d3), .second, .val (.double d4), .second] [(.double d2), (.ref b6)])) _
    refine XS.bipush X6.here hx rfl (hb hby d3_16) ?_
    exact kt
  refine GoW.adv sg7 ?_
  obtain ⟨_, _, ⟨T8, L8, k8, n8⟩, -, X8, ⟨Lc8, hQ8, l8, y8, z8⟩, st8⟩ := Jvm.LawKit.callS X6 hx (y := (⟨"com/example/ostra/ostra/core/Box", "requireWithin", "(Ljava/lang/String;DI)V"⟩ : MethodName)) hown6 (mvT hZ6 (hw _ (List.mem_of_getElem? (i := 31) rfl))) (mvT hZ6 (hw _ (List.mem_of_getElem? (i := 32) rfl))) (mvT hZ6 (hw _ (List.mem_of_getElem? (i := 10) rfl))) (mvT hZ6 (hw _ (List.mem_of_getElem? (i := 33) rfl))) (by decide) (backOf (W := 0) (rm_within l Z a0 hw [] b6 d2 (90 : Int32)  h6 n0 Z6 hB.2.1) hZ6 (hw _ (List.mem_of_getElem? (i := 33) rfl)) (hw _ (List.mem_of_getElem? (i := 10) rfl)) (by decide) (by decide)) (g := (mkF m 18 #[.val (.ref a1), .val (.double d1), .second, .val (.double d2), .second, .val (.double d3), .second, .val (.double d4), .second] [(.int (90 : Int32)), (.double d2), (.ref b6)])) rfl (by rw [hml]; rfl) (argsL := [(.ref b6), (.double d2), (.int (90 : Int32))]) (rest := []) (lenOf pd_oLjavaslangsStringeDIcV rfl) rfl (by show 2 * 0 + _ ≤ _; exact Nat.le_of_eq rfl) (hb hby d3_18) (fun _ _ => ⟨rfl, e6, (by decide : 4 + 0 ≤ _), (by decide : 44 + 0 ≤ _)⟩)
  dsimp only [Pt.U, Pt.locs, Pt.cells, Pt.slots] at X8 l8 y8 z8 st8 hQ8
  subst l8 y8 z8
  obtain ⟨rfl, N8q, e8⟩ := hQ8
  have N8 := Fr.app N5 N8q
  refine GoW.adv st8 ?_
  show GoW p.tables e below s _ _ _ (T8.setTop (mkF m 21 #[.val (.ref a1), .val (.double d1), .second, .val (.double d2), .second, .val (.double d3), .second, .val (.double d4), .second] []))
  obtain ⟨b9, T9, h9, k9, X9, e9, E9, hS9, hk9, hZ9, hown9, st9⟩ := ldcS X8 hx hZ6 hown6 (hw _ (List.mem_of_getElem? (i := 35) rfl)) (own_wS hw) e8 hS6 hk6 (g := (mkF m 21 #[.val (.ref a1), .val (.double d1), .second, .val (.double d2), .second, .val (.double d3), .second, .val (.double d4), .second] [])) rfl (hb hby d3_21) (n := 16) (by decide) (by decide) (by decide) (by decide)
  have K9 : Keep h0 h9 [a1] := K6.ext E9
  have Z9 : n0 ≤ h9.size := Nat.le_trans Z6 E9.1
  refine GoW.adv st9 ?_
  show GoW p.tables e below s _ _ _ (T9.setTop (mkF m 23 #[.val (.ref a1), .val (.double d1), .second, .val (.double d2), .second, .val (.double d3), .second, .val (.double d4), .second] [(.ref b9)]))
  have sg10 : ∀ t, Steps p.tables e below (T9.setTop (mkF m 28 #[.val (.ref a1), .val (.double d1), .second, .val (.double d2), .second, .val (.double d3), .second, .val (.double d4), .second] [(.int (180 : Int32)), (.double d3), (.ref b9)])) t → Steps p.tables e below (T9.setTop (mkF m 23 #[.val (.ref a1), .val (.double d1), .second, .val (.double d2), .second, .val (.double d3), .second, .val (.double d4), .second] [(.ref b9)])) t := by
    intro t kt
    show Steps p.tables e below (T9.setTop (mkF m 23 #[.val (.ref a1), .val (.double d1), .second, .val (.double d2), .second, .val (.double d3), .second, .val (.double d4), .second] [(.ref b9)])) _
    refine own_dload X9.here hx rfl (hb hby d3_23) rfl ?_
    show Steps p.tables e below (T9.setTop (mkF m 25 #[.val (.ref a1), .val (.double d1), .second, .val (.double d2), .second, .val (.double d3), .second, .val (.double d4), .second] [(.double d3), (.ref b9)])) _
    refine XS.sipush X9.here hx rfl (hb hby d3_25) ?_
    exact kt
  refine GoW.adv sg10 ?_
  obtain ⟨_, _, ⟨T11, L11, k11, n11⟩, -, X11, ⟨Lc11, hQ11, l11, y11, z11⟩, st11⟩ := Jvm.LawKit.callS X9 hx (y := (⟨"com/example/ostra/ostra/core/Box", "requireWithin", "(Ljava/lang/String;DI)V"⟩ : MethodName)) hown9 (mvT hZ9 (hw _ (List.mem_of_getElem? (i := 31) rfl))) (mvT hZ9 (hw _ (List.mem_of_getElem? (i := 32) rfl))) (mvT hZ9 (hw _ (List.mem_of_getElem? (i := 10) rfl))) (mvT hZ9 (hw _ (List.mem_of_getElem? (i := 33) rfl))) (by decide) (backOf (W := 0) (rm_within l Z a0 hw [] b9 d3 (180 : Int32)  h9 n0 Z9 hB.2.2.1) hZ9 (hw _ (List.mem_of_getElem? (i := 33) rfl)) (hw _ (List.mem_of_getElem? (i := 10) rfl)) (by decide) (by decide)) (g := (mkF m 28 #[.val (.ref a1), .val (.double d1), .second, .val (.double d2), .second, .val (.double d3), .second, .val (.double d4), .second] [(.int (180 : Int32)), (.double d3), (.ref b9)])) rfl (by rw [hml]; rfl) (argsL := [(.ref b9), (.double d3), (.int (180 : Int32))]) (rest := []) (lenOf pd_oLjavaslangsStringeDIcV rfl) rfl (by show 2 * 0 + _ ≤ _; exact Nat.le_of_eq rfl) (hb hby d3_28) (fun _ _ => ⟨rfl, e9, (by decide : 6 + 0 ≤ _), (by decide : 64 + 0 ≤ _)⟩)
  dsimp only [Pt.U, Pt.locs, Pt.cells, Pt.slots] at X11 l11 y11 z11 st11 hQ11
  subst l11 y11 z11
  obtain ⟨rfl, N11q, e11⟩ := hQ11
  have N11 := Fr.app N8 N11q
  refine GoW.adv st11 ?_
  show GoW p.tables e below s _ _ _ (T11.setTop (mkF m 31 #[.val (.ref a1), .val (.double d1), .second, .val (.double d2), .second, .val (.double d3), .second, .val (.double d4), .second] []))
  obtain ⟨b12, T12, h12, k12, X12, e12, E12, hS12, hk12, hZ12, hown12, st12⟩ := ldcS X11 hx hZ9 hown9 (hw _ (List.mem_of_getElem? (i := 36) rfl)) (own_wS hw) e11 hS9 hk9 (g := (mkF m 31 #[.val (.ref a1), .val (.double d1), .second, .val (.double d2), .second, .val (.double d3), .second, .val (.double d4), .second] [])) rfl (hb hby d3_31) (n := 20) (by decide) (by decide) (by decide) (by decide)
  have K12 : Keep h0 h12 [a1] := K9.ext E12
  have Z12 : n0 ≤ h12.size := Nat.le_trans Z9 E12.1
  refine GoW.adv st12 ?_
  show GoW p.tables e below s _ _ _ (T12.setTop (mkF m 33 #[.val (.ref a1), .val (.double d1), .second, .val (.double d2), .second, .val (.double d3), .second, .val (.double d4), .second] [(.ref b12)]))
  have sg13 : ∀ t, Steps p.tables e below (T12.setTop (mkF m 37 #[.val (.ref a1), .val (.double d1), .second, .val (.double d2), .second, .val (.double d3), .second, .val (.double d4), .second] [(.int (90 : Int32)), (.double d4), (.ref b12)])) t → Steps p.tables e below (T12.setTop (mkF m 33 #[.val (.ref a1), .val (.double d1), .second, .val (.double d2), .second, .val (.double d3), .second, .val (.double d4), .second] [(.ref b12)])) t := by
    intro t kt
    show Steps p.tables e below (T12.setTop (mkF m 33 #[.val (.ref a1), .val (.double d1), .second, .val (.double d2), .second, .val (.double d3), .second, .val (.double d4), .second] [(.ref b12)])) _
    refine own_dload X12.here hx rfl (hb hby d3_33) rfl ?_
    show Steps p.tables e below (T12.setTop (mkF m 35 #[.val (.ref a1), .val (.double d1), .second, .val (.double d2), .second, .val (.double d3), .second, .val (.double d4), .second] [(.double d4), (.ref b12)])) _
    refine XS.bipush X12.here hx rfl (hb hby d3_35) ?_
    exact kt
  refine GoW.adv sg13 ?_
  obtain ⟨_, _, ⟨T14, L14, k14, n14⟩, -, X14, ⟨Lc14, hQ14, l14, y14, z14⟩, st14⟩ := Jvm.LawKit.callS X12 hx (y := (⟨"com/example/ostra/ostra/core/Box", "requireWithin", "(Ljava/lang/String;DI)V"⟩ : MethodName)) hown12 (mvT hZ12 (hw _ (List.mem_of_getElem? (i := 31) rfl))) (mvT hZ12 (hw _ (List.mem_of_getElem? (i := 32) rfl))) (mvT hZ12 (hw _ (List.mem_of_getElem? (i := 10) rfl))) (mvT hZ12 (hw _ (List.mem_of_getElem? (i := 33) rfl))) (by decide) (backOf (W := 0) (rm_within l Z a0 hw [] b12 d4 (90 : Int32)  h12 n0 Z12 hB.2.2.2.1) hZ12 (hw _ (List.mem_of_getElem? (i := 33) rfl)) (hw _ (List.mem_of_getElem? (i := 10) rfl)) (by decide) (by decide)) (g := (mkF m 37 #[.val (.ref a1), .val (.double d1), .second, .val (.double d2), .second, .val (.double d3), .second, .val (.double d4), .second] [(.int (90 : Int32)), (.double d4), (.ref b12)])) rfl (by rw [hml]; rfl) (argsL := [(.ref b12), (.double d4), (.int (90 : Int32))]) (rest := []) (lenOf pd_oLjavaslangsStringeDIcV rfl) rfl (by show 2 * 0 + _ ≤ _; exact Nat.le_of_eq rfl) (hb hby d3_37) (fun _ _ => ⟨rfl, e12, (by decide : 8 + 0 ≤ _), (by decide : 88 + 0 ≤ _)⟩)
  dsimp only [Pt.U, Pt.locs, Pt.cells, Pt.slots] at X14 l14 y14 z14 st14 hQ14
  subst l14 y14 z14
  obtain ⟨rfl, N14q, e14⟩ := hQ14
  have N14 := Fr.app N11 N14q
  refine GoW.adv st14 ?_
  show GoW p.tables e below s _ _ _ (T14.setTop (mkF m 40 #[.val (.ref a1), .val (.double d1), .second, .val (.double d2), .second, .val (.double d3), .second, .val (.double d4), .second] []))
  have sg15 : ∀ t, Steps p.tables e below (T14.setTop (mkF m 65 #[.val (.ref a1), .val (.double d1), .second, .val (.double d2), .second, .val (.double d3), .second, .val (.double d4), .second] [(.double d1), (.ref a1)])) t → Steps p.tables e below (T14.setTop (mkF m 40 #[.val (.ref a1), .val (.double d1), .second, .val (.double d2), .second, .val (.double d3), .second, .val (.double d4), .second] [])) t := by
    intro t kt
    show Steps p.tables e below (T14.setTop (mkF m 40 #[.val (.ref a1), .val (.double d1), .second, .val (.double d2), .second, .val (.double d3), .second, .val (.double d4), .second] [])) _
    refine own_dloadN X14.here hx rfl (hb hby d3_40) rfl ?_
    show Steps p.tables e below (T14.setTop (mkF m 41 #[.val (.ref a1), .val (.double d1), .second, .val (.double d2), .second, .val (.double d3), .second, .val (.double d4), .second] [(.double d2)])) _
    refine own_dload X14.here hx rfl (hb hby d3_41) rfl ?_
    show Steps p.tables e below (T14.setTop (mkF m 43 #[.val (.ref a1), .val (.double d1), .second, .val (.double d2), .second, .val (.double d3), .second, .val (.double d4), .second] [(.double d4), (.double d2)])) _
    refine own_dcmp X14.here hx rfl (hb hby d3_43) rfl ?_
    show Steps p.tables e below (T14.setTop (mkF m 44 #[.val (.ref a1), .val (.double d1), .second, .val (.double d2), .second, .val (.double d3), .second, .val (.double d4), .second] [(.int (cmpValue (FP.dcmp d2 d4) .l))])) _
    refine XS.ifYes X14.here hx rfl (pc0 := 44) (pc' := 63) rfl (hb hby d3_44) rfl ((if0 _ _).trans (flt (hB.2.2.2.2 : ¬ ((0 : Int32) < (cmpValue (FP.dcmp d2 d4) .l)))).2.2.2) (by decide) (by decide) ?_
    show Steps p.tables e below (T14.setTop (mkF m 63 #[.val (.ref a1), .val (.double d1), .second, .val (.double d2), .second, .val (.double d3), .second, .val (.double d4), .second] [])) _
    refine XS.aloadN X14.here hx rfl (hb hby d3_63) rfl rfl ?_
    show Steps p.tables e below (T14.setTop (mkF m 64 #[.val (.ref a1), .val (.double d1), .second, .val (.double d2), .second, .val (.double d3), .second, .val (.double d4), .second] [(.ref a1)])) _
    refine own_dloadN X14.here hx rfl (hb hby d3_64) rfl ?_
    exact kt
  refine GoW.adv sg15 ?_
  have f16 := ((((F_west_a1.ext E3).ext E6).ext E9).ext E12)
  have f17 := ((((E_a1.ext E3).ext E6).ext E9).ext E12)
  obtain ⟨T18, h18, X18, e18, W18, st18⟩ := putF X14 hx hZ12 hown12 (host := "") (Or.inl (hw _ (List.mem_of_getElem? (i := 37) rfl))) Via.refl e14 f16 f17 (Or.inr ⟨(hw _ (List.mem_of_getElem? (i := 38) rfl)), rfl, hnm⟩) (hw _ (List.mem_of_getElem? (i := 9) rfl)) (ty := .double) (by decide) rfl rfl (g := (mkF m 65 #[.val (.ref a1), .val (.double d1), .second, .val (.double d2), .second, .val (.double d3), .second, .val (.double d4), .second] [(.double d1), (.ref a1)])) rfl rfl (hb hby d3_65)
  have Fw18 := f16.same W18
  have K18 : Keep h0 h18 [a1] := K12.wr W18 (Or.inl (List.mem_of_getElem? (i := 0) rfl))
  have Z18 : n0 ≤ h18.size := Nat.le_trans Z12 (Keep.of_wr W18).1
  have hk18 := Nat.le_trans hk12 (Keep.of_wr W18).1
  have N18 := Fr.snoc X18 N14 g_a1
  refine GoW.adv st18 ?_
  show GoW p.tables e below s _ _ _ (T18.setTop (mkF m 68 #[.val (.ref a1), .val (.double d1), .second, .val (.double d2), .second, .val (.double d3), .second, .val (.double d4), .second] []))
  have sg19 : ∀ t, Steps p.tables e below (T18.setTop (mkF m 70 #[.val (.ref a1), .val (.double d1), .second, .val (.double d2), .second, .val (.double d3), .second, .val (.double d4), .second] [(.double d2), (.ref a1)])) t → Steps p.tables e below (T18.setTop (mkF m 68 #[.val (.ref a1), .val (.double d1), .second, .val (.double d2), .second, .val (.double d3), .second, .val (.double d4), .second] [])) t := by
    intro t kt
    show Steps p.tables e below (T18.setTop (mkF m 68 #[.val (.ref a1), .val (.double d1), .second, .val (.double d2), .second, .val (.double d3), .second, .val (.double d4), .second] [])) _
    refine XS.aloadN X18.here hx rfl (hb hby d3_68) rfl rfl ?_
    show Steps p.tables e below (T18.setTop (mkF m 69 #[.val (.ref a1), .val (.double d1), .second, .val (.double d2), .second, .val (.double d3), .second, .val (.double d4), .second] [(.ref a1)])) _
    refine own_dloadN X18.here hx rfl (hb hby d3_69) rfl ?_
    exact kt
  refine GoW.adv sg19 ?_
  have f20 := (((((F_south_a1.ext E3).ext E6).ext E9).ext E12).other W18 (Or.inr (slot_ne (Or.inr (hw _ (List.mem_of_getElem? (i := 40) rfl))) (Or.inr (hw _ (List.mem_of_getElem? (i := 38) rfl))) (by decide) (t := .double) (t' := .double) (by decide) (by decide))))
  have f21 := (f17.wr W18)
  obtain ⟨T22, h22, X22, e22, W22, st22⟩ := putF X18 hx hZ12 hown12 (host := "") (Or.inl (hw _ (List.mem_of_getElem? (i := 39) rfl))) Via.refl e18 f20 f21 (Or.inr ⟨(hw _ (List.mem_of_getElem? (i := 40) rfl)), rfl, hnm⟩) (hw _ (List.mem_of_getElem? (i := 9) rfl)) (ty := .double) (by decide) rfl rfl (g := (mkF m 70 #[.val (.ref a1), .val (.double d1), .second, .val (.double d2), .second, .val (.double d3), .second, .val (.double d4), .second] [(.double d2), (.ref a1)])) rfl rfl (hb hby d3_70)
  have Fw22 := f20.same W22
  have K22 : Keep h0 h22 [a1] := K18.wr W22 (Or.inl (List.mem_of_getElem? (i := 0) rfl))
  have Z22 : n0 ≤ h22.size := Nat.le_trans Z18 (Keep.of_wr W22).1
  have hk22 := Nat.le_trans hk18 (Keep.of_wr W22).1
  have N22 := Fr.snoc X22 N18 g_a1
  refine GoW.adv st22 ?_
  show GoW p.tables e below s _ _ _ (T22.setTop (mkF m 73 #[.val (.ref a1), .val (.double d1), .second, .val (.double d2), .second, .val (.double d3), .second, .val (.double d4), .second] []))
  have sg23 : ∀ t, Steps p.tables e below (T22.setTop (mkF m 76 #[.val (.ref a1), .val (.double d1), .second, .val (.double d2), .second, .val (.double d3), .second, .val (.double d4), .second] [(.double d3), (.ref a1)])) t → Steps p.tables e below (T22.setTop (mkF m 73 #[.val (.ref a1), .val (.double d1), .second, .val (.double d2), .second, .val (.double d3), .second, .val (.double d4), .second] [])) t := by
    intro t kt
    show Steps p.tables e below (T22.setTop (mkF m 73 #[.val (.ref a1), .val (.double d1), .second, .val (.double d2), .second, .val (.double d3), .second, .val (.double d4), .second] [])) _
    refine XS.aloadN X22.here hx rfl (hb hby d3_73) rfl rfl ?_
    show Steps p.tables e below (T22.setTop (mkF m 74 #[.val (.ref a1), .val (.double d1), .second, .val (.double d2), .second, .val (.double d3), .second, .val (.double d4), .second] [(.ref a1)])) _
    refine own_dload X22.here hx rfl (hb hby d3_74) rfl ?_
    exact kt
  refine GoW.adv sg23 ?_
  have f24 := ((((((F_east_a1.ext E3).ext E6).ext E9).ext E12).other W18 (Or.inr (slot_ne (Or.inr (hw _ (List.mem_of_getElem? (i := 42) rfl))) (Or.inr (hw _ (List.mem_of_getElem? (i := 38) rfl))) (by decide) (t := .double) (t' := .double) (by decide) (by decide)))).other W22 (Or.inr (slot_ne (Or.inr (hw _ (List.mem_of_getElem? (i := 42) rfl))) (Or.inr (hw _ (List.mem_of_getElem? (i := 40) rfl))) (by decide) (t := .double) (t' := .double) (by decide) (by decide))))
  have f25 := (f21.wr W22)
  obtain ⟨T26, h26, X26, e26, W26, st26⟩ := putF X22 hx hZ12 hown12 (host := "") (Or.inl (hw _ (List.mem_of_getElem? (i := 41) rfl))) Via.refl e22 f24 f25 (Or.inr ⟨(hw _ (List.mem_of_getElem? (i := 42) rfl)), rfl, hnm⟩) (hw _ (List.mem_of_getElem? (i := 9) rfl)) (ty := .double) (by decide) rfl rfl (g := (mkF m 76 #[.val (.ref a1), .val (.double d1), .second, .val (.double d2), .second, .val (.double d3), .second, .val (.double d4), .second] [(.double d3), (.ref a1)])) rfl rfl (hb hby d3_76)
  have Fw26 := f24.same W26
  have K26 : Keep h0 h26 [a1] := K22.wr W26 (Or.inl (List.mem_of_getElem? (i := 0) rfl))
  have Z26 : n0 ≤ h26.size := Nat.le_trans Z22 (Keep.of_wr W26).1
  have hk26 := Nat.le_trans hk22 (Keep.of_wr W26).1
  have N26 := Fr.snoc X26 N22 g_a1
  refine GoW.adv st26 ?_
  show GoW p.tables e below s _ _ _ (T26.setTop (mkF m 79 #[.val (.ref a1), .val (.double d1), .second, .val (.double d2), .second, .val (.double d3), .second, .val (.double d4), .second] []))
  have sg27 : ∀ t, Steps p.tables e below (T26.setTop (mkF m 82 #[.val (.ref a1), .val (.double d1), .second, .val (.double d2), .second, .val (.double d3), .second, .val (.double d4), .second] [(.double d4), (.ref a1)])) t → Steps p.tables e below (T26.setTop (mkF m 79 #[.val (.ref a1), .val (.double d1), .second, .val (.double d2), .second, .val (.double d3), .second, .val (.double d4), .second] [])) t := by
    intro t kt
    show Steps p.tables e below (T26.setTop (mkF m 79 #[.val (.ref a1), .val (.double d1), .second, .val (.double d2), .second, .val (.double d3), .second, .val (.double d4), .second] [])) _
    refine XS.aloadN X26.here hx rfl (hb hby d3_79) rfl rfl ?_
    show Steps p.tables e below (T26.setTop (mkF m 80 #[.val (.ref a1), .val (.double d1), .second, .val (.double d2), .second, .val (.double d3), .second, .val (.double d4), .second] [(.ref a1)])) _
    refine own_dload X26.here hx rfl (hb hby d3_80) rfl ?_
    exact kt
  refine GoW.adv sg27 ?_
  have f28 := (((((((F_north_a1.ext E3).ext E6).ext E9).ext E12).other W18 (Or.inr (slot_ne (Or.inr (hw _ (List.mem_of_getElem? (i := 44) rfl))) (Or.inr (hw _ (List.mem_of_getElem? (i := 38) rfl))) (by decide) (t := .double) (t' := .double) (by decide) (by decide)))).other W22 (Or.inr (slot_ne (Or.inr (hw _ (List.mem_of_getElem? (i := 44) rfl))) (Or.inr (hw _ (List.mem_of_getElem? (i := 40) rfl))) (by decide) (t := .double) (t' := .double) (by decide) (by decide)))).other W26 (Or.inr (slot_ne (Or.inr (hw _ (List.mem_of_getElem? (i := 44) rfl))) (Or.inr (hw _ (List.mem_of_getElem? (i := 42) rfl))) (by decide) (t := .double) (t' := .double) (by decide) (by decide))))
  have f29 := (f25.wr W26)
  obtain ⟨T30, h30, X30, e30, W30, st30⟩ := putF X26 hx hZ12 hown12 (host := "") (Or.inl (hw _ (List.mem_of_getElem? (i := 43) rfl))) Via.refl e26 f28 f29 (Or.inr ⟨(hw _ (List.mem_of_getElem? (i := 44) rfl)), rfl, hnm⟩) (hw _ (List.mem_of_getElem? (i := 9) rfl)) (ty := .double) (by decide) rfl rfl (g := (mkF m 82 #[.val (.ref a1), .val (.double d1), .second, .val (.double d2), .second, .val (.double d3), .second, .val (.double d4), .second] [(.double d4), (.ref a1)])) rfl rfl (hb hby d3_82)
  have Fw30 := f28.same W30
  have K30 : Keep h0 h30 [a1] := K26.wr W30 (Or.inl (List.mem_of_getElem? (i := 0) rfl))
  have Z30 : n0 ≤ h30.size := Nat.le_trans Z26 (Keep.of_wr W30).1
  have hk30 := Nat.le_trans hk26 (Keep.of_wr W30).1
  have N30 := Fr.snoc X30 N26 g_a1
  refine GoW.adv st30 ?_
  show GoW p.tables e below s _ _ _ (T30.setTop (mkF m 85 #[.val (.ref a1), .val (.double d1), .second, .val (.double d2), .second, .val (.double d3), .second, .val (.double d4), .second] []))
  refine GoW.ret (v := none) X30 hS12 (by rw [e30]; exact hk30) (fun _ => rfl) Bd.notSynchronized (fun fs hr => X30.returnOut hx Bd.returns (hb hby d3_85) hr) ?_ (by decide) (by decide)
  show Q_rm_init Z a1 d1 d2 d3 d4 u_west u_south u_east u_north h0 n0 none T30.heap _
  rw [e30]
  have f31 := (f29.wr W30)
  have f32 := (((Fw18.other W22 (Or.inr (slot_ne (Or.inr (hw _ (List.mem_of_getElem? (i := 38) rfl))) (Or.inr (hw _ (List.mem_of_getElem? (i := 40) rfl))) (by decide) (t := .double) (t' := .double) (by decide) (by decide)))).other W26 (Or.inr (slot_ne (Or.inr (hw _ (List.mem_of_getElem? (i := 38) rfl))) (Or.inr (hw _ (List.mem_of_getElem? (i := 42) rfl))) (by decide) (t := .double) (t' := .double) (by decide) (by decide)))).other W30 (Or.inr (slot_ne (Or.inr (hw _ (List.mem_of_getElem? (i := 38) rfl))) (Or.inr (hw _ (List.mem_of_getElem? (i := 44) rfl))) (by decide) (t := .double) (t' := .double) (by decide) (by decide))))
  have f33 := ((Fw22.other W26 (Or.inr (slot_ne (Or.inr (hw _ (List.mem_of_getElem? (i := 40) rfl))) (Or.inr (hw _ (List.mem_of_getElem? (i := 42) rfl))) (by decide) (t := .double) (t' := .double) (by decide) (by decide)))).other W30 (Or.inr (slot_ne (Or.inr (hw _ (List.mem_of_getElem? (i := 40) rfl))) (Or.inr (hw _ (List.mem_of_getElem? (i := 44) rfl))) (by decide) (t := .double) (t' := .double) (by decide) (by decide))))
  have f34 := (Fw26.other W30 (Or.inr (slot_ne (Or.inr (hw _ (List.mem_of_getElem? (i := 42) rfl))) (Or.inr (hw _ (List.mem_of_getElem? (i := 44) rfl))) (by decide) (t := .double) (t' := .double) (by decide) (by decide))))
  exact ⟨rfl, N30, K30, f31, f32, f33, f34, Fw30⟩
theorem pn8 : plainName "com/example/ostra/ostra/core/Box" = true := by first | (simp [plainName, overriddenIn]; done) | decide +kernel
theorem d8_0 : decode prog_4_method_9_code 0 = .ok (.aload_n 0, 1) := by decide +kernel
theorem d8_1 : decode prog_4_method_9_code 1 = .ok (.getfield 30, 3) := by decide +kernel
theorem d8_4 : decode prog_4_method_9_code 4 = .ok (.aload_n 0, 1) := by decide +kernel
theorem d8_5 : decode prog_4_method_9_code 5 = .ok (.getfield 35, 3) := by decide +kernel
theorem d8_8 : decode prog_4_method_9_code 8 = .ok (.dcmp .l, 1) := by decide +kernel
theorem d8_9 : decode prog_4_method_9_code 9 = .ok (.ifCond .le 7, 3) := by decide +kernel
theorem d8_12 : decode prog_4_method_9_code 12 = .ok (.iconst 1, 1) := by decide +kernel
theorem d8_13 : decode prog_4_method_9_code 13 = .ok (.goto 4, 3) := by decide +kernel
theorem d8_17 : decode prog_4_method_9_code 17 = .ok (.ireturn, 1) := by decide +kernel
theorem d8_16 : decode prog_4_method_9_code 16 = .ok (.iconst 0, 1) := by decide +kernel
theorem ef_rm_cross (m : MethodId) (x0 : Addr) : entryFrame m #[(.ref x0)] 1 = mkF m 0 #[.val (.ref x0)] [] := by first | (simp [entryFrame, mkF, argsToLocals, Value.category]; done) | rfl
def Q_rm_cross (Z : State) (a1 : Addr) (dw : UInt64) (de : UInt64) (h0 : Heap) (n0 : Nat) (v : Option Value) (h : Heap) (L : List Loc) : Prop := v = some (.int (own_cross dw de)) ∧ Fr n0 L ∧ h = h0
set_option maxRecDepth 65536 in
set_option maxHeartbeats 40000000 in
theorem rm_cross (l : Launch) (Z : State) (a0 : Array Value) (hw : ∀ d ∈ tables_1, d.before a0 Z = true) (ws : List Jvm.Cond) (a1 : Addr) (dw : UInt64) (de : UInt64) (h0 : Heap) (n0 : Nat) (Z0 : n0 ≤ h0.size) (F_west_a1 : Fld Z h0 a1 "com/example/ostra/ostra/core/Box" "west" "D" (.double dw)) (F_east_a1 : Fld Z h0 a1 "com/example/ostra/ostra/core/Box" "east" "D" (.double de)) :
    MetFree l (⟨"com/example/ostra/ostra/core/Box", "crossesAntimeridian", "()Z"⟩ : MethodName) (head1 (Jvm.Cond.code (⟨"com/example/ostra/ostra/core/Box", "crossesAntimeridian", "()Z"⟩ : MethodName) prog_4_method_9_code 1 (some .boolean) :: ws) ({ frames := 0, cells := 0, slots := 0, locals := 0 } : Room)) (fun a U => a = #[(.ref a1)] ∧ Z.Warmed39 U.vm ∧ U.heap = h0) (fun _ _ _ _ _ => True) (fun _ U o U' => ∃ v L, o = .returned v ∧ Q_rm_cross Z a1 dw de h0 n0 v U'.heap L ∧ FrameEnd U o U' L ({ frames := 0, cells := 0, slots := 0, locals := 0 } : Room).cells ({ frames := 0, cells := 0, slots := 0, locals := 0 } : Room).slots) := by
  refine MetFree.of_bodySF (plainFor_of_name pn8) hisR ?_
  intro p e s m args below meth c s₁ Bd hml0 hP hK
  obtain ⟨rfl, hZ, hh⟩ := hP
  have hx := Bd.exec
  have hby := Bd.bytes
  have hml : c.maxLocals = 1 := hml0
  have hown : s.vm.findClass "com/example/ostra/ostra/core/Box" = some m.cls := findClass_of_methodNamed Bd.named
  have hnm := (name_of_methodNamed Bd.named Bd.method).1
  have X0 : Stand p l e ({ frames := 0, cells := 0, slots := 0, locals := 0 } : Room) s m #[(.ref a1)] below meth c s₁ [] 0 0 := Stand.of_body Bd
  have e0 : s₁.heap = h0 := by rw [← hh, Bd.state]; rfl
  have N0 := Fr.nil n0
  refine Go.start (Q := Q_rm_cross Z a1 dw de h0 n0) (ef_rm_cross m a1) ?_
  by_cases hc : (0 : Int32) < (cmpValue (FP.dcmp dw de) .l)
  · have sg1 : ∀ t, Steps p.tables e below (s₁.setTop (mkF m 1 #[.val (.ref a1)] [(.ref a1)])) t → Steps p.tables e below (s₁.setTop (mkF m 0 #[.val (.ref a1)] [])) t := by
      intro t kt
      show Steps p.tables e below (s₁.setTop (mkF m 0 #[.val (.ref a1)] [])) _
      refine XS.aloadN X0.here hx rfl (hb hby d8_0) rfl rfl ?_
      exact kt
    refine Go.adv sg1 ?_
    obtain ⟨T2, X2, e2, st2⟩ := getF X0 hx hZ hown (host := "") (Or.inl (hw _ (List.mem_of_getElem? (i := 37) rfl))) Via.refl e0 F_west_a1 (g := (mkF m 1 #[.val (.ref a1)] [(.ref a1)])) rfl rfl (hb hby d8_1)
    refine Go.adv st2 ?_
    show Go p.tables e below s _ _ _ (T2.setTop (mkF m 4 #[.val (.ref a1)] [(.double dw)]))
    have sg3 : ∀ t, Steps p.tables e below (T2.setTop (mkF m 5 #[.val (.ref a1)] [(.ref a1), (.double dw)])) t → Steps p.tables e below (T2.setTop (mkF m 4 #[.val (.ref a1)] [(.double dw)])) t := by
      intro t kt
      show Steps p.tables e below (T2.setTop (mkF m 4 #[.val (.ref a1)] [(.double dw)])) _
      refine XS.aloadN X2.here hx rfl (hb hby d8_4) rfl rfl ?_
      exact kt
    refine Go.adv sg3 ?_
    obtain ⟨T4, X4, e4, st4⟩ := getF X2 hx hZ hown (host := "") (Or.inl (hw _ (List.mem_of_getElem? (i := 41) rfl))) Via.refl e2 F_east_a1 (g := (mkF m 5 #[.val (.ref a1)] [(.ref a1), (.double dw)])) rfl rfl (hb hby d8_5)
    refine Go.adv st4 ?_
    show Go p.tables e below s _ _ _ (T4.setTop (mkF m 8 #[.val (.ref a1)] [(.double de), (.double dw)]))
    have sg5 : ∀ t, Steps p.tables e below (T4.setTop (mkF m 17 #[.val (.ref a1)] [(.int (1 : Int32))])) t → Steps p.tables e below (T4.setTop (mkF m 8 #[.val (.ref a1)] [(.double de), (.double dw)])) t := by
      intro t kt
      show Steps p.tables e below (T4.setTop (mkF m 8 #[.val (.ref a1)] [(.double de), (.double dw)])) _
      refine own_dcmp X4.here hx rfl (hb hby d8_8) rfl ?_
      show Steps p.tables e below (T4.setTop (mkF m 9 #[.val (.ref a1)] [(.int (cmpValue (FP.dcmp dw de) .l))])) _
      refine XS.ifNo X4.here hx rfl (hb hby d8_9) rfl ((if0 _ _).trans (tlt (hc : (0 : Int32) < (cmpValue (FP.dcmp dw de) .l))).2.2.2) ?_
      show Steps p.tables e below (T4.setTop (mkF m 12 #[.val (.ref a1)] [])) _
      refine XS.iconst X4.here hx rfl (hb hby d8_12) ?_
      show Steps p.tables e below (T4.setTop (mkF m 13 #[.val (.ref a1)] [(.int (1 : Int32))])) _
      refine XS.goto X4.here hx rfl (pc0 := 13) (pc' := 17) rfl (hb hby d8_13) (by decide) (by decide) ?_
      exact kt
    refine Go.adv sg5 ?_
    refine Go.ret (v := (some (.int (1 : Int32)))) X4 (fun h => by rw [Bd.returns] at h; cases h) Bd.notSynchronized (fun fs hr => retN X4 hx (t := .boolean) Bd.returns (by simp) (hb hby d8_17) hr) ?_ (by decide) (by decide)
    show Q_rm_cross Z a1 dw de h0 n0 (some (.int (1 : Int32))) T4.heap _
    rw [e4]
    exact ⟨congrArg (fun z => some (Value.int z)) (own_cross_a hc).symm, N0, rfl⟩
  · have sg6 : ∀ t, Steps p.tables e below (s₁.setTop (mkF m 1 #[.val (.ref a1)] [(.ref a1)])) t → Steps p.tables e below (s₁.setTop (mkF m 0 #[.val (.ref a1)] [])) t := by
      intro t kt
      show Steps p.tables e below (s₁.setTop (mkF m 0 #[.val (.ref a1)] [])) _
      refine XS.aloadN X0.here hx rfl (hb hby d8_0) rfl rfl ?_
      exact kt
    refine Go.adv sg6 ?_
    obtain ⟨T7, X7, e7, st7⟩ := getF X0 hx hZ hown (host := "") (Or.inl (hw _ (List.mem_of_getElem? (i := 37) rfl))) Via.refl e0 F_west_a1 (g := (mkF m 1 #[.val (.ref a1)] [(.ref a1)])) rfl rfl (hb hby d8_1)
    refine Go.adv st7 ?_
    show Go p.tables e below s _ _ _ (T7.setTop (mkF m 4 #[.val (.ref a1)] [(.double dw)]))
    have sg8 : ∀ t, Steps p.tables e below (T7.setTop (mkF m 5 #[.val (.ref a1)] [(.ref a1), (.double dw)])) t → Steps p.tables e below (T7.setTop (mkF m 4 #[.val (.ref a1)] [(.double dw)])) t := by
      intro t kt
      show Steps p.tables e below (T7.setTop (mkF m 4 #[.val (.ref a1)] [(.double dw)])) _
      refine XS.aloadN X7.here hx rfl (hb hby d8_4) rfl rfl ?_
      exact kt
    refine Go.adv sg8 ?_
    obtain ⟨T9, X9, e9, st9⟩ := getF X7 hx hZ hown (host := "") (Or.inl (hw _ (List.mem_of_getElem? (i := 41) rfl))) Via.refl e7 F_east_a1 (g := (mkF m 5 #[.val (.ref a1)] [(.ref a1), (.double dw)])) rfl rfl (hb hby d8_5)
    refine Go.adv st9 ?_
    show Go p.tables e below s _ _ _ (T9.setTop (mkF m 8 #[.val (.ref a1)] [(.double de), (.double dw)]))
    have sg10 : ∀ t, Steps p.tables e below (T9.setTop (mkF m 17 #[.val (.ref a1)] [(.int (0 : Int32))])) t → Steps p.tables e below (T9.setTop (mkF m 8 #[.val (.ref a1)] [(.double de), (.double dw)])) t := by
      intro t kt
      show Steps p.tables e below (T9.setTop (mkF m 8 #[.val (.ref a1)] [(.double de), (.double dw)])) _
      refine own_dcmp X9.here hx rfl (hb hby d8_8) rfl ?_
      show Steps p.tables e below (T9.setTop (mkF m 9 #[.val (.ref a1)] [(.int (cmpValue (FP.dcmp dw de) .l))])) _
      refine XS.ifYes X9.here hx rfl (pc0 := 9) (pc' := 16) rfl (hb hby d8_9) rfl ((if0 _ _).trans (flt (hc : ¬ ((0 : Int32) < (cmpValue (FP.dcmp dw de) .l)))).2.2.2) (by decide) (by decide) ?_
      show Steps p.tables e below (T9.setTop (mkF m 16 #[.val (.ref a1)] [])) _
      refine XS.iconst X9.here hx rfl (hb hby d8_16) ?_
      exact kt
    refine Go.adv sg10 ?_
    refine Go.ret (v := (some (.int (0 : Int32)))) X9 (fun h => by rw [Bd.returns] at h; cases h) Bd.notSynchronized (fun fs hr => retN X9 hx (t := .boolean) Bd.returns (by simp) (hb hby d8_17) hr) ?_ (by decide) (by decide)
    show Q_rm_cross Z a1 dw de h0 n0 (some (.int (0 : Int32))) T9.heap _
    rw [e9]
    exact ⟨congrArg (fun z => some (Value.int z)) (own_cross_b hc).symm, N0, rfl⟩

def own_width (dw de : UInt64) : UInt64 := if own_cross dw de = 0 then FP.dsub de dw else FP.dsub (FP.dadd de (4645040803167600640 : UInt64)) dw
theorem own_width_a {dw de : UInt64} (h : own_cross dw de = (0 : Int32)) : own_width dw de = FP.dsub de dw := if_pos h
theorem own_width_b {dw de : UInt64} (h : ¬ own_cross dw de = (0 : Int32)) : own_width dw de = FP.dsub (FP.dadd de (4645040803167600640 : UInt64)) dw := if_neg h
theorem pn7 : plainName "com/example/ostra/ostra/core/Box" = true := by first | (simp [plainName, overriddenIn]; done) | decide +kernel
theorem d7_0 : decode prog_4_method_10_code 0 = .ok (.aload_n 0, 1) := by decide +kernel
theorem d7_1 : decode prog_4_method_10_code 1 = .ok (.invokevirtual 95, 3) := by decide +kernel
theorem pd_ocZ : parseMethodDescriptor "()Z" = some ⟨[], some .boolean⟩ := by decide +kernel
theorem d7_4 : decode prog_4_method_10_code 4 = .ok (.ifCond .eq 19, 3) := by decide +kernel
theorem d7_23 : decode prog_4_method_10_code 23 = .ok (.aload_n 0, 1) := by decide +kernel
theorem d7_24 : decode prog_4_method_10_code 24 = .ok (.getfield 35, 3) := by decide +kernel
theorem d7_27 : decode prog_4_method_10_code 27 = .ok (.aload_n 0, 1) := by decide +kernel
theorem d7_28 : decode prog_4_method_10_code 28 = .ok (.getfield 30, 3) := by decide +kernel
theorem d7_31 : decode prog_4_method_10_code 31 = .ok (.dsub, 1) := by decide +kernel
theorem d7_32 : decode prog_4_method_10_code 32 = .ok (.dreturn, 1) := by decide +kernel
theorem d7_7 : decode prog_4_method_10_code 7 = .ok (.aload_n 0, 1) := by decide +kernel
theorem d7_8 : decode prog_4_method_10_code 8 = .ok (.getfield 35, 3) := by decide +kernel
theorem d7_11 : decode prog_4_method_10_code 11 = .ok (.ldc2_w 106, 3) := by decide +kernel
theorem d7_14 : decode prog_4_method_10_code 14 = .ok (.dadd, 1) := by decide +kernel
theorem d7_15 : decode prog_4_method_10_code 15 = .ok (.aload_n 0, 1) := by decide +kernel
theorem d7_16 : decode prog_4_method_10_code 16 = .ok (.getfield 30, 3) := by decide +kernel
theorem d7_19 : decode prog_4_method_10_code 19 = .ok (.dsub, 1) := by decide +kernel
theorem d7_20 : decode prog_4_method_10_code 20 = .ok (.goto 12, 3) := by decide +kernel
theorem ef_rm_width (m : MethodId) (x0 : Addr) : entryFrame m #[(.ref x0)] 1 = mkF m 0 #[.val (.ref x0)] [] := by first | (simp [entryFrame, mkF, argsToLocals, Value.category]; done) | rfl
def Q_rm_width (Z : State) (a1 : Addr) (dw : UInt64) (de : UInt64) (h0 : Heap) (n0 : Nat) (v : Option Value) (h : Heap) (L : List Loc) : Prop := v = some (.double (own_width dw de)) ∧ Fr n0 L ∧ h = h0
set_option maxRecDepth 65536 in
set_option maxHeartbeats 40000000 in
theorem rm_width (l : Launch) (Z : State) (a0 : Array Value) (hw : ∀ d ∈ tables_1, d.before a0 Z = true) (ws : List Jvm.Cond) (a1 : Addr) (dw : UInt64) (de : UInt64) (h0 : Heap) (n0 : Nat) (Z0 : n0 ≤ h0.size) (E_a1 : Exa Z h0 a1 "com/example/ostra/ostra/core/Box") (F_west_a1 : Fld Z h0 a1 "com/example/ostra/ostra/core/Box" "west" "D" (.double dw)) (F_east_a1 : Fld Z h0 a1 "com/example/ostra/ostra/core/Box" "east" "D" (.double de)) (hN : OwnNum (FP.dsub de dw) ∧ OwnNum (FP.dadd de (4645040803167600640 : UInt64)) ∧ OwnNum (FP.dsub (FP.dadd de (4645040803167600640 : UInt64)) dw)) :
    MetFree l (⟨"com/example/ostra/ostra/core/Box", "width", "()D"⟩ : MethodName) (head1 (Jvm.Cond.code (⟨"com/example/ostra/ostra/core/Box", "width", "()D"⟩ : MethodName) prog_4_method_10_code 1 (some .double) :: ws) ({ frames := 1, cells := 0, slots := 0, locals := 12 } : Room)) (fun a U => a = #[(.ref a1)] ∧ Z.Warmed39 U.vm ∧ U.heap = h0) (fun _ _ _ _ _ => True) (fun _ U o U' => ∃ v L, o = .returned v ∧ Q_rm_width Z a1 dw de h0 n0 v U'.heap L ∧ FrameEnd U o U' L ({ frames := 1, cells := 0, slots := 0, locals := 12 } : Room).cells ({ frames := 1, cells := 0, slots := 0, locals := 12 } : Room).slots) := by
  refine MetFree.of_bodySF (plainFor_of_name pn7) hisR ?_
  intro p e s m args below meth c s₁ Bd hml0 hP hK
  obtain ⟨rfl, hZ, hh⟩ := hP
  have hx := Bd.exec
  have hby := Bd.bytes
  have hml : c.maxLocals = 1 := hml0
  have hown : s.vm.findClass "com/example/ostra/ostra/core/Box" = some m.cls := findClass_of_methodNamed Bd.named
  have hnm := (name_of_methodNamed Bd.named Bd.method).1
  have X0 : Stand p l e ({ frames := 1, cells := 0, slots := 0, locals := 12 } : Room) s m #[(.ref a1)] below meth c s₁ [] 0 0 := Stand.of_body Bd
  have e0 : s₁.heap = h0 := by rw [← hh, Bd.state]; rfl
  have N0 := Fr.nil n0
  refine Go.start (Q := Q_rm_width Z a1 dw de h0 n0) (ef_rm_width m a1) ?_
  have sg1 : ∀ t, Steps p.tables e below (s₁.setTop (mkF m 1 #[.val (.ref a1)] [(.ref a1)])) t → Steps p.tables e below (s₁.setTop (mkF m 0 #[.val (.ref a1)] [])) t := by
    intro t kt
    show Steps p.tables e below (s₁.setTop (mkF m 0 #[.val (.ref a1)] [])) _
    refine XS.aloadN X0.here hx rfl (hb hby d7_0) rfl rfl ?_
    exact kt
  refine Go.adv sg1 ?_
  obtain ⟨cq2, kq2, q2a, q2b, q2c⟩ := isOf hZ e0 E_a1
  obtain ⟨_, _, ⟨T2, L2, k2, n2⟩, -, X2, ⟨Lc2, hQ2, l2, y2, z2⟩, st2⟩ := X0.virtualBack hx (y := (⟨"com/example/ostra/ostra/core/Box", "crossesAntimeridian", "()Z"⟩ : MethodName)) (z := (⟨"com/example/ostra/ostra/core/Box", "crossesAntimeridian", "()Z"⟩ : MethodName)) hown (mvT hZ (hw _ (List.mem_of_getElem? (i := 50) rfl))) (mvT hZ (hw _ (List.mem_of_getElem? (i := 51) rfl))) (notFace_of_selects (args := #[]) (mvT hZ (hw _ (List.mem_of_getElem? (i := 53) rfl)))) (mvT hZ (hw _ (List.mem_of_getElem? (i := 53) rfl))) (mvT hZ (hw _ (List.mem_of_getElem? (i := 52) rfl))) (by decide) (backOf (W := 0) (rm_cross l Z a0 hw [] a1 dw de h0 n0 Z0 F_west_a1 F_east_a1) hZ (hw _ (List.mem_of_getElem? (i := 54) rfl)) (hw _ (List.mem_of_getElem? (i := 10) rfl)) (by decide) (by decide)) q2a q2c (g := (mkF m 1 #[.val (.ref a1)] [(.ref a1)])) rfl (by rw [hml]; rfl) (Steps.refl _) (argsL := []) (rest := []) (lenOf pd_ocZ rfl) rfl (by show 2 * 0 + _ ≤ _; exact Nat.le_of_eq rfl) (hb hby d7_1) (fun _ _ => ⟨rfl, e0, (by decide : 0 + 0 ≤ _), (by decide : 0 + 0 ≤ _)⟩)
  dsimp only [Pt.U, Pt.locs, Pt.cells, Pt.slots] at X2 l2 y2 z2 st2 hQ2
  subst l2 y2 z2
  obtain ⟨rfl, N2q, e2⟩ := hQ2
  have N2 := Fr.app N0 N2q
  refine Go.tr st2 ?_
  show Go p.tables e below s _ _ _ (T2.setTop (mkF m 4 #[.val (.ref a1)] [(.int (own_cross dw de))]))
  by_cases hc : (own_cross dw de) = (0 : Int32)
  · have sg3 : ∀ t, Steps p.tables e below (T2.setTop (mkF m 24 #[.val (.ref a1)] [(.ref a1)])) t → Steps p.tables e below (T2.setTop (mkF m 4 #[.val (.ref a1)] [(.int (own_cross dw de))])) t := by
      intro t kt
      show Steps p.tables e below (T2.setTop (mkF m 4 #[.val (.ref a1)] [(.int (own_cross dw de))])) _
      refine XS.ifYes X2.here hx rfl (pc0 := 4) (pc' := 23) rfl (hb hby d7_4) rfl ((if0 _ _).trans (teq (hc : (own_cross dw de) = (0 : Int32))).1) (by decide) (by decide) ?_
      show Steps p.tables e below (T2.setTop (mkF m 23 #[.val (.ref a1)] [])) _
      refine XS.aloadN X2.here hx rfl (hb hby d7_23) rfl rfl ?_
      exact kt
    refine Go.adv sg3 ?_
    obtain ⟨T4, X4, e4, st4⟩ := getF X2 hx hZ hown (host := "") (Or.inl (hw _ (List.mem_of_getElem? (i := 41) rfl))) Via.refl e2 F_east_a1 (g := (mkF m 24 #[.val (.ref a1)] [(.ref a1)])) rfl rfl (hb hby d7_24)
    refine Go.adv st4 ?_
    show Go p.tables e below s _ _ _ (T4.setTop (mkF m 27 #[.val (.ref a1)] [(.double de)]))
    have sg5 : ∀ t, Steps p.tables e below (T4.setTop (mkF m 28 #[.val (.ref a1)] [(.ref a1), (.double de)])) t → Steps p.tables e below (T4.setTop (mkF m 27 #[.val (.ref a1)] [(.double de)])) t := by
      intro t kt
      show Steps p.tables e below (T4.setTop (mkF m 27 #[.val (.ref a1)] [(.double de)])) _
      refine XS.aloadN X4.here hx rfl (hb hby d7_27) rfl rfl ?_
      exact kt
    refine Go.adv sg5 ?_
    obtain ⟨T6, X6, e6, st6⟩ := getF X4 hx hZ hown (host := "") (Or.inl (hw _ (List.mem_of_getElem? (i := 37) rfl))) Via.refl e4 F_west_a1 (g := (mkF m 28 #[.val (.ref a1)] [(.ref a1), (.double de)])) rfl rfl (hb hby d7_28)
    refine Go.adv st6 ?_
    show Go p.tables e below s _ _ _ (T6.setTop (mkF m 31 #[.val (.ref a1)] [(.double dw), (.double de)]))
    have sg7 : ∀ t, Steps p.tables e below (T6.setTop (mkF m 32 #[.val (.ref a1)] [(.double (FP.dsub de dw))])) t → Steps p.tables e below (T6.setTop (mkF m 31 #[.val (.ref a1)] [(.double dw), (.double de)])) t := by
      intro t kt
      show Steps p.tables e below (T6.setTop (mkF m 31 #[.val (.ref a1)] [(.double dw), (.double de)])) _
      refine own_dsub X6.here hx rfl (hb hby d7_31) rfl hN.1 ?_
      exact kt
    refine Go.adv sg7 ?_
    refine Go.ret (v := (some (.double (FP.dsub de dw)))) X6 (fun h => by rw [Bd.returns] at h; cases h) Bd.notSynchronized (fun fs hr => retOut X6 hx Bd.returns rfl (Or.inr (Or.inr (Or.inl ⟨rfl, rfl, _, rfl⟩))) (hb hby d7_32) hr) ?_ (by decide) (by decide)
    show Q_rm_width Z a1 dw de h0 n0 (some (.double (FP.dsub de dw))) T6.heap _
    rw [e6]
    exact ⟨congrArg (fun z => some (Value.double z)) (own_width_a hc).symm, N2, rfl⟩
  · have sg8 : ∀ t, Steps p.tables e below (T2.setTop (mkF m 8 #[.val (.ref a1)] [(.ref a1)])) t → Steps p.tables e below (T2.setTop (mkF m 4 #[.val (.ref a1)] [(.int (own_cross dw de))])) t := by
      intro t kt
      show Steps p.tables e below (T2.setTop (mkF m 4 #[.val (.ref a1)] [(.int (own_cross dw de))])) _
      refine XS.ifNo X2.here hx rfl (hb hby d7_4) rfl ((if0 _ _).trans (feq (hc : ¬ ((own_cross dw de) = (0 : Int32)))).1) ?_
      show Steps p.tables e below (T2.setTop (mkF m 7 #[.val (.ref a1)] [])) _
      refine XS.aloadN X2.here hx rfl (hb hby d7_7) rfl rfl ?_
      exact kt
    refine Go.adv sg8 ?_
    obtain ⟨T9, X9, e9, st9⟩ := getF X2 hx hZ hown (host := "") (Or.inl (hw _ (List.mem_of_getElem? (i := 41) rfl))) Via.refl e2 F_east_a1 (g := (mkF m 8 #[.val (.ref a1)] [(.ref a1)])) rfl rfl (hb hby d7_8)
    refine Go.adv st9 ?_
    show Go p.tables e below s _ _ _ (T9.setTop (mkF m 11 #[.val (.ref a1)] [(.double de)]))
    have sg10 : ∀ t, Steps p.tables e below (T9.setTop (mkF m 16 #[.val (.ref a1)] [(.ref a1), (.double (FP.dadd de (4645040803167600640 : UInt64)))])) t → Steps p.tables e below (T9.setTop (mkF m 11 #[.val (.ref a1)] [(.double de)])) t := by
      intro t kt
      show Steps p.tables e below (T9.setTop (mkF m 11 #[.val (.ref a1)] [(.double de)])) _
      refine X9.ldc2DoubleC hx hown (mvT hZ (hw _ (List.mem_of_getElem? (i := 55) rfl))) (g := (mkF m 11 #[.val (.ref a1)] [(.double de)])) rfl (hb hby d7_11) _ ?_
      show Steps p.tables e below (T9.setTop (mkF m 14 #[.val (.ref a1)] [(.double (4645040803167600640 : UInt64)), (.double de)])) _
      refine own_dadd X9.here hx rfl (hb hby d7_14) rfl hN.2.1 ?_
      show Steps p.tables e below (T9.setTop (mkF m 15 #[.val (.ref a1)] [(.double (FP.dadd de (4645040803167600640 : UInt64)))])) _
      refine XS.aloadN X9.here hx rfl (hb hby d7_15) rfl rfl ?_
      exact kt
    refine Go.adv sg10 ?_
    obtain ⟨T11, X11, e11, st11⟩ := getF X9 hx hZ hown (host := "") (Or.inl (hw _ (List.mem_of_getElem? (i := 37) rfl))) Via.refl e9 F_west_a1 (g := (mkF m 16 #[.val (.ref a1)] [(.ref a1), (.double (FP.dadd de (4645040803167600640 : UInt64)))])) rfl rfl (hb hby d7_16)
    refine Go.adv st11 ?_
    show Go p.tables e below s _ _ _ (T11.setTop (mkF m 19 #[.val (.ref a1)] [(.double dw), (.double (FP.dadd de (4645040803167600640 : UInt64)))]))
    have sg12 : ∀ t, Steps p.tables e below (T11.setTop (mkF m 32 #[.val (.ref a1)] [(.double (FP.dsub (FP.dadd de (4645040803167600640 : UInt64)) dw))])) t → Steps p.tables e below (T11.setTop (mkF m 19 #[.val (.ref a1)] [(.double dw), (.double (FP.dadd de (4645040803167600640 : UInt64)))])) t := by
      intro t kt
      show Steps p.tables e below (T11.setTop (mkF m 19 #[.val (.ref a1)] [(.double dw), (.double (FP.dadd de (4645040803167600640 : UInt64)))])) _
      refine own_dsub X11.here hx rfl (hb hby d7_19) rfl hN.2.2 ?_
      show Steps p.tables e below (T11.setTop (mkF m 20 #[.val (.ref a1)] [(.double (FP.dsub (FP.dadd de (4645040803167600640 : UInt64)) dw))])) _
      refine XS.goto X11.here hx rfl (pc0 := 20) (pc' := 32) rfl (hb hby d7_20) (by decide) (by decide) ?_
      exact kt
    refine Go.adv sg12 ?_
    refine Go.ret (v := (some (.double (FP.dsub (FP.dadd de (4645040803167600640 : UInt64)) dw)))) X11 (fun h => by rw [Bd.returns] at h; cases h) Bd.notSynchronized (fun fs hr => retOut X11 hx Bd.returns rfl (Or.inr (Or.inr (Or.inl ⟨rfl, rfl, _, rfl⟩))) (hb hby d7_32) hr) ?_ (by decide) (by decide)
    show Q_rm_width Z a1 dw de h0 n0 (some (.double (FP.dsub (FP.dadd de (4645040803167600640 : UInt64)) dw))) T11.heap _
    rw [e11]
    exact ⟨congrArg (fun z => some (Value.double z)) (own_width_b hc).symm, N2, rfl⟩

theorem own_v64 : FP.Core.val64 4634204016564240384 = .fin false (2 ^ 52) (-46) := by decide +kernel
theorem own_q (z : Int32) (h : -40000 ≤ z.toInt ∧ z.toInt ≤ 40000) : Own.Dy 6 z.toInt (FP.ddiv (FP.i2d z) (4634204016564240384 : UInt64)) := Own.Dy.div2 (k := 0) (n := 6) (Own.Dy.of (FP.Core.i2d_int z)) own_v64 (by decide) (by decide) (by omega)
theorem own_i360 : FP.Core.DInt 360 4645040803167600640 := by
  have h : FP.Core.val64 4645040803167600640 = .fin false 6333186975989760 (-44) := by decide +kernel
  show FP.Core.Whole 360 (FP.Core.val64 4645040803167600640)
  rw [h]
  show FP.Core.signed false (6333186975989760 * 2 ^ (-44 : Int).toNat) = 360 * ((2 ^ (-(-44 : Int)).toNat : Nat) : Int)
  decide +kernel
theorem own_l180 : Own.Dy 6 (-11520) (FP.i2d (-(180 : Int32))) := Own.Dy.up (k := 0) 6 (Own.Dy.of (FP.Core.i2d_int (-(180 : Int32))))
theorem own_u180 : Own.Dy 6 11520 (FP.i2d (180 : Int32)) := Own.Dy.up (k := 0) 6 (Own.Dy.of (FP.Core.i2d_int (180 : Int32)))
theorem own_l90 : Own.Dy 6 (-5760) (FP.i2d (-(90 : Int32))) := Own.Dy.up (k := 0) 6 (Own.Dy.of (FP.Core.i2d_int (-(90 : Int32))))
theorem own_u90 : Own.Dy 6 5760 (FP.i2d (90 : Int32)) := Own.Dy.up (k := 0) 6 (Own.Dy.of (FP.Core.i2d_int (90 : Int32)))
theorem own_box {wq eq lo hi : Int32} {dw dl de dh : UInt64} (hw : -11520 ≤ wq.toInt ∧ wq.toInt ≤ 11520) (he : -11520 ≤ eq.toInt ∧ eq.toInt ≤ 11520) (hl : -5760 ≤ lo.toInt ∧ lo.toInt ≤ 5760) (hh : -5760 ≤ hi.toInt ∧ hi.toInt ≤ 5760) (hlh : lo.toInt ≤ hi.toInt) (h1 : Own.Dy 6 wq.toInt dw) (h2 : Own.Dy 6 lo.toInt dl) (h3 : Own.Dy 6 eq.toInt de) (h4 : Own.Dy 6 hi.toInt dh) : OwnBox dw dl de dh :=
  ⟨own_in h1 own_l180 own_u180 hw.1 hw.2, own_in h2 own_l90 own_u90 hl.1 hl.2, own_in h3 own_l180 own_u180 he.1 he.2, own_in h4 own_l90 own_u90 hh.1 hh.2, fun z => by have := (own_cv (Own.Dy.cmp h2 h4)).2.mp z; omega⟩
theorem own_wid {wq eq : Int32} {dw de : UInt64} (hw : -11520 ≤ wq.toInt ∧ wq.toInt ≤ 11520) (he : -11520 ≤ eq.toInt ∧ eq.toInt ≤ 11520) (h1 : Own.Dy 6 wq.toInt dw) (h3 : Own.Dy 6 eq.toInt de) :
    Own.Dy 6 (eq.toInt - wq.toInt) (FP.dsub de dw) ∧ Own.Dy 6 (eq.toInt + 23040) (FP.dadd de (4645040803167600640 : UInt64)) ∧ Own.Dy 6 (eq.toInt + 23040 - wq.toInt) (FP.dsub (FP.dadd de (4645040803167600640 : UInt64)) dw) := by
  have D360 : Own.Dy 6 23040 4645040803167600640 := Own.Dy.up (k := 0) 6 (Own.Dy.of own_i360)
  have Da := Own.Dy.add h3 D360 (by decide) (by omega)
  exact ⟨Own.Dy.sub h3 h1 (by decide) (by omega), Da, Own.Dy.sub Da h1 (by decide) (by omega)⟩
theorem own_ceq {i : Int} {x y : UInt64} (h1 : Own.Dy 6 i x) (h2 : Own.Dy 6 i y) : FP.Core.dcmp x y = some .eq := (Own.Dy.cmp h1 h2).trans (congrArg some (FP.Core.compare_self_int _))
theorem pn0 : plainName "com/example/ostra/ostra/core/BoxWidthPinLaw" = true := by first | (simp [plainName, overriddenIn]; done) | decide +kernel
theorem pd_oIIcI : parseMethodDescriptor "(II)I" = some ⟨[.int, .int], some .int⟩ := by decide +kernel
theorem pd_oDDDDcV : parseMethodDescriptor "(DDDD)V" = some ⟨[.double, .double, .double, .double], none⟩ := by decide +kernel
theorem pd_ocD : parseMethodDescriptor "()D" = some ⟨[], some .double⟩ := by decide +kernel
theorem ef_rm0 (m : MethodId) (x0 : Int32) (x1 : Int32) (x2 : Int32) (x3 : Int32) : entryFrame m #[(.int x0), (.int x1), (.int x2), (.int x3)] maxLocals = mkF m 0 #[.val (.int x0), .val (.int x1), .val (.int x2), .val (.int x3), .unset, .unset, .unset, .unset, .unset, .unset, .unset, .unset, .unset] [] := by first | (simp [entryFrame, mkF, argsToLocals, Value.category, maxLocals]; done) | rfl
def Q_rm0 (Z : State) (p1 : Int32) (p2 : Int32) (p3 : Int32) (p4 : Int32) (h0 : Heap) (n0 : Nat) (v : Option Value) (h : Heap) (L : List Loc) : Prop := v = some (.int (1 : Int32)) ∧ Fr n0 L
set_option maxRecDepth 65536 in
set_option maxHeartbeats 40000000 in
theorem rm0 (l : Launch) (Z : State) (a0 : Array Value) (hw : ∀ d ∈ tables_1, d.before a0 Z = true) (ws : List Jvm.Cond) (p1 : Int32) (p2 : Int32) (p3 : Int32) (p4 : Int32) (h0 : Heap) (n0 : Nat) (Z0 : n0 ≤ h0.size)  :
    MetFree l x (head1 (Jvm.Cond.code x code maxLocals ret :: ws) room_1) (fun a U => a = #[(.int p1), (.int p2), (.int p3), (.int p4)] ∧ Z.Warmed39 U.vm ∧ U.heap = h0) (fun _ _ _ _ _ => True) (fun _ U o U' => ∃ v L, o = .returned v ∧ Q_rm0 Z p1 p2 p3 p4 h0 n0 v U'.heap L ∧ ReturnedEndW U o U' L room_1.cells room_1.slots) := by
  refine MetFree.of_bodySF (plainFor_of_name pn0) hisR ?_
  intro p e s m args below meth c s₁ Bd hml0 hP hK
  obtain ⟨rfl, hZ, hh⟩ := hP
  have hx := Bd.exec
  have hby := Bd.bytes
  have hml : c.maxLocals = 13 := hml0
  have hown : s.vm.findClass "com/example/ostra/ostra/core/BoxWidthPinLaw" = some m.cls := findClass_of_methodNamed Bd.named
  have hnm := (name_of_methodNamed Bd.named Bd.method).1
  have X0 : Stand p l e room_1 (s.setVm s.vm) m #[(.int p1), (.int p2), (.int p3), (.int p4)] below meth c s₁ [] 0 0 := Stand.of_body Bd
  have e0 : s₁.heap = h0 := by rw [← hh, Bd.state]; rfl
  have N0 := Fr.nil n0
  have hS0 : s.Since s.vm 0 := (State.WarmedH.refl s).since 0
  have hk0 : 0 ≤ h0.size := Nat.zero_le _
  refine GoW.start (Q := Q_rm0 Z p1 p2 p3 p4 h0 n0) (ef_rm0 m p1 p2 p3 p4) ?_
  have sg1 : ∀ t, Steps p.tables e below (s₁.setTop (mkF m 56 #[.val (.int p1), .val (.int p2), .val (.int p3), .val (.int p4), .val (.int (((p1 &&& (2147483647 : Int32)) % (23041 : Int32)) - (11520 : Int32))), .val (.int (((p2 &&& (2147483647 : Int32)) % (23041 : Int32)) - (11520 : Int32))), .val (.int (((p3 &&& (2147483647 : Int32)) % (11521 : Int32)) - (5760 : Int32))), .val (.int (((p4 &&& (2147483647 : Int32)) % (11521 : Int32)) - (5760 : Int32))), .unset, .unset, .unset, .unset, .unset] [])) t → Steps p.tables e below (s₁.setTop (mkF m 0 #[.val (.int p1), .val (.int p2), .val (.int p3), .val (.int p4), .unset, .unset, .unset, .unset, .unset, .unset, .unset, .unset, .unset] [])) t := by
    intro t kt
    show Steps p.tables e below (s₁.setTop (mkF m 0 #[.val (.int p1), .val (.int p2), .val (.int p3), .val (.int p4), .unset, .unset, .unset, .unset, .unset, .unset, .unset, .unset, .unset] [])) _
    refine XS.iloadN X0.here hx rfl (hb hby at_0) rfl ?_
    show Steps p.tables e below (s₁.setTop (mkF m 1 #[.val (.int p1), .val (.int p2), .val (.int p3), .val (.int p4), .unset, .unset, .unset, .unset, .unset, .unset, .unset, .unset, .unset] [(.int p1)])) _
    refine X0.ldcInt hx hown (mvT hZ (hw _ (List.mem_of_getElem? (i := 0) rfl))) (g := (mkF m 1 #[.val (.int p1), .val (.int p2), .val (.int p3), .val (.int p4), .unset, .unset, .unset, .unset, .unset, .unset, .unset, .unset, .unset] [(.int p1)])) rfl (hb hby at_1) _ ?_
    show Steps p.tables e below (s₁.setTop (mkF m 3 #[.val (.int p1), .val (.int p2), .val (.int p3), .val (.int p4), .unset, .unset, .unset, .unset, .unset, .unset, .unset, .unset, .unset] [(.int (2147483647 : Int32)), (.int p1)])) _
    refine XS.iand X0.here hx rfl (hb hby at_3) rfl ?_
    show Steps p.tables e below (s₁.setTop (mkF m 4 #[.val (.int p1), .val (.int p2), .val (.int p3), .val (.int p4), .unset, .unset, .unset, .unset, .unset, .unset, .unset, .unset, .unset] [(.int (p1 &&& (2147483647 : Int32)))])) _
    refine XS.sipush X0.here hx rfl (hb hby at_4) ?_
    show Steps p.tables e below (s₁.setTop (mkF m 7 #[.val (.int p1), .val (.int p2), .val (.int p3), .val (.int p4), .unset, .unset, .unset, .unset, .unset, .unset, .unset, .unset, .unset] [(.int (23041 : Int32)), (.int (p1 &&& (2147483647 : Int32)))])) _
    refine iremM X0 hx rfl (hb hby at_7) rfl (by decide) ?_
    show Steps p.tables e below (s₁.setTop (mkF m 8 #[.val (.int p1), .val (.int p2), .val (.int p3), .val (.int p4), .unset, .unset, .unset, .unset, .unset, .unset, .unset, .unset, .unset] [(.int ((p1 &&& (2147483647 : Int32)) % (23041 : Int32)))])) _
    refine XS.sipush X0.here hx rfl (hb hby at_8) ?_
    show Steps p.tables e below (s₁.setTop (mkF m 11 #[.val (.int p1), .val (.int p2), .val (.int p3), .val (.int p4), .unset, .unset, .unset, .unset, .unset, .unset, .unset, .unset, .unset] [(.int (11520 : Int32)), (.int ((p1 &&& (2147483647 : Int32)) % (23041 : Int32)))])) _
    refine XS.isub X0.here hx rfl (hb hby at_11) rfl ?_
    show Steps p.tables e below (s₁.setTop (mkF m 12 #[.val (.int p1), .val (.int p2), .val (.int p3), .val (.int p4), .unset, .unset, .unset, .unset, .unset, .unset, .unset, .unset, .unset] [(.int (((p1 &&& (2147483647 : Int32)) % (23041 : Int32)) - (11520 : Int32)))])) _
    refine XS.istore X0.here hx rfl (hb hby at_12) rfl (l' := #[.val (.int p1), .val (.int p2), .val (.int p3), .val (.int p4), .val (.int (((p1 &&& (2147483647 : Int32)) % (23041 : Int32)) - (11520 : Int32))), .unset, .unset, .unset, .unset, .unset, .unset, .unset, .unset]) rfl ?_
    show Steps p.tables e below (s₁.setTop (mkF m 14 #[.val (.int p1), .val (.int p2), .val (.int p3), .val (.int p4), .val (.int (((p1 &&& (2147483647 : Int32)) % (23041 : Int32)) - (11520 : Int32))), .unset, .unset, .unset, .unset, .unset, .unset, .unset, .unset] [])) _
    refine XS.iloadN X0.here hx rfl (hb hby at_14) rfl ?_
    show Steps p.tables e below (s₁.setTop (mkF m 15 #[.val (.int p1), .val (.int p2), .val (.int p3), .val (.int p4), .val (.int (((p1 &&& (2147483647 : Int32)) % (23041 : Int32)) - (11520 : Int32))), .unset, .unset, .unset, .unset, .unset, .unset, .unset, .unset] [(.int p2)])) _
    refine X0.ldcInt hx hown (mvT hZ (hw _ (List.mem_of_getElem? (i := 0) rfl))) (g := (mkF m 15 #[.val (.int p1), .val (.int p2), .val (.int p3), .val (.int p4), .val (.int (((p1 &&& (2147483647 : Int32)) % (23041 : Int32)) - (11520 : Int32))), .unset, .unset, .unset, .unset, .unset, .unset, .unset, .unset] [(.int p2)])) rfl (hb hby at_15) _ ?_
    show Steps p.tables e below (s₁.setTop (mkF m 17 #[.val (.int p1), .val (.int p2), .val (.int p3), .val (.int p4), .val (.int (((p1 &&& (2147483647 : Int32)) % (23041 : Int32)) - (11520 : Int32))), .unset, .unset, .unset, .unset, .unset, .unset, .unset, .unset] [(.int (2147483647 : Int32)), (.int p2)])) _
    refine XS.iand X0.here hx rfl (hb hby at_17) rfl ?_
    show Steps p.tables e below (s₁.setTop (mkF m 18 #[.val (.int p1), .val (.int p2), .val (.int p3), .val (.int p4), .val (.int (((p1 &&& (2147483647 : Int32)) % (23041 : Int32)) - (11520 : Int32))), .unset, .unset, .unset, .unset, .unset, .unset, .unset, .unset] [(.int (p2 &&& (2147483647 : Int32)))])) _
    refine XS.sipush X0.here hx rfl (hb hby at_18) ?_
    show Steps p.tables e below (s₁.setTop (mkF m 21 #[.val (.int p1), .val (.int p2), .val (.int p3), .val (.int p4), .val (.int (((p1 &&& (2147483647 : Int32)) % (23041 : Int32)) - (11520 : Int32))), .unset, .unset, .unset, .unset, .unset, .unset, .unset, .unset] [(.int (23041 : Int32)), (.int (p2 &&& (2147483647 : Int32)))])) _
    refine iremM X0 hx rfl (hb hby at_21) rfl (by decide) ?_
    show Steps p.tables e below (s₁.setTop (mkF m 22 #[.val (.int p1), .val (.int p2), .val (.int p3), .val (.int p4), .val (.int (((p1 &&& (2147483647 : Int32)) % (23041 : Int32)) - (11520 : Int32))), .unset, .unset, .unset, .unset, .unset, .unset, .unset, .unset] [(.int ((p2 &&& (2147483647 : Int32)) % (23041 : Int32)))])) _
    refine XS.sipush X0.here hx rfl (hb hby at_22) ?_
    show Steps p.tables e below (s₁.setTop (mkF m 25 #[.val (.int p1), .val (.int p2), .val (.int p3), .val (.int p4), .val (.int (((p1 &&& (2147483647 : Int32)) % (23041 : Int32)) - (11520 : Int32))), .unset, .unset, .unset, .unset, .unset, .unset, .unset, .unset] [(.int (11520 : Int32)), (.int ((p2 &&& (2147483647 : Int32)) % (23041 : Int32)))])) _
    refine XS.isub X0.here hx rfl (hb hby at_25) rfl ?_
    show Steps p.tables e below (s₁.setTop (mkF m 26 #[.val (.int p1), .val (.int p2), .val (.int p3), .val (.int p4), .val (.int (((p1 &&& (2147483647 : Int32)) % (23041 : Int32)) - (11520 : Int32))), .unset, .unset, .unset, .unset, .unset, .unset, .unset, .unset] [(.int (((p2 &&& (2147483647 : Int32)) % (23041 : Int32)) - (11520 : Int32)))])) _
    refine XS.istore X0.here hx rfl (hb hby at_26) rfl (l' := #[.val (.int p1), .val (.int p2), .val (.int p3), .val (.int p4), .val (.int (((p1 &&& (2147483647 : Int32)) % (23041 : Int32)) - (11520 : Int32))), .val (.int (((p2 &&& (2147483647 : Int32)) % (23041 : Int32)) - (11520 : Int32))), .unset, .unset, .unset, .unset, .unset, .unset, .unset]) rfl ?_
    show Steps p.tables e below (s₁.setTop (mkF m 28 #[.val (.int p1), .val (.int p2), .val (.int p3), .val (.int p4), .val (.int (((p1 &&& (2147483647 : Int32)) % (23041 : Int32)) - (11520 : Int32))), .val (.int (((p2 &&& (2147483647 : Int32)) % (23041 : Int32)) - (11520 : Int32))), .unset, .unset, .unset, .unset, .unset, .unset, .unset] [])) _
    refine XS.iloadN X0.here hx rfl (hb hby at_28) rfl ?_
    show Steps p.tables e below (s₁.setTop (mkF m 29 #[.val (.int p1), .val (.int p2), .val (.int p3), .val (.int p4), .val (.int (((p1 &&& (2147483647 : Int32)) % (23041 : Int32)) - (11520 : Int32))), .val (.int (((p2 &&& (2147483647 : Int32)) % (23041 : Int32)) - (11520 : Int32))), .unset, .unset, .unset, .unset, .unset, .unset, .unset] [(.int p3)])) _
    refine X0.ldcInt hx hown (mvT hZ (hw _ (List.mem_of_getElem? (i := 0) rfl))) (g := (mkF m 29 #[.val (.int p1), .val (.int p2), .val (.int p3), .val (.int p4), .val (.int (((p1 &&& (2147483647 : Int32)) % (23041 : Int32)) - (11520 : Int32))), .val (.int (((p2 &&& (2147483647 : Int32)) % (23041 : Int32)) - (11520 : Int32))), .unset, .unset, .unset, .unset, .unset, .unset, .unset] [(.int p3)])) rfl (hb hby at_29) _ ?_
    show Steps p.tables e below (s₁.setTop (mkF m 31 #[.val (.int p1), .val (.int p2), .val (.int p3), .val (.int p4), .val (.int (((p1 &&& (2147483647 : Int32)) % (23041 : Int32)) - (11520 : Int32))), .val (.int (((p2 &&& (2147483647 : Int32)) % (23041 : Int32)) - (11520 : Int32))), .unset, .unset, .unset, .unset, .unset, .unset, .unset] [(.int (2147483647 : Int32)), (.int p3)])) _
    refine XS.iand X0.here hx rfl (hb hby at_31) rfl ?_
    show Steps p.tables e below (s₁.setTop (mkF m 32 #[.val (.int p1), .val (.int p2), .val (.int p3), .val (.int p4), .val (.int (((p1 &&& (2147483647 : Int32)) % (23041 : Int32)) - (11520 : Int32))), .val (.int (((p2 &&& (2147483647 : Int32)) % (23041 : Int32)) - (11520 : Int32))), .unset, .unset, .unset, .unset, .unset, .unset, .unset] [(.int (p3 &&& (2147483647 : Int32)))])) _
    refine XS.sipush X0.here hx rfl (hb hby at_32) ?_
    show Steps p.tables e below (s₁.setTop (mkF m 35 #[.val (.int p1), .val (.int p2), .val (.int p3), .val (.int p4), .val (.int (((p1 &&& (2147483647 : Int32)) % (23041 : Int32)) - (11520 : Int32))), .val (.int (((p2 &&& (2147483647 : Int32)) % (23041 : Int32)) - (11520 : Int32))), .unset, .unset, .unset, .unset, .unset, .unset, .unset] [(.int (11521 : Int32)), (.int (p3 &&& (2147483647 : Int32)))])) _
    refine iremM X0 hx rfl (hb hby at_35) rfl (by decide) ?_
    show Steps p.tables e below (s₁.setTop (mkF m 36 #[.val (.int p1), .val (.int p2), .val (.int p3), .val (.int p4), .val (.int (((p1 &&& (2147483647 : Int32)) % (23041 : Int32)) - (11520 : Int32))), .val (.int (((p2 &&& (2147483647 : Int32)) % (23041 : Int32)) - (11520 : Int32))), .unset, .unset, .unset, .unset, .unset, .unset, .unset] [(.int ((p3 &&& (2147483647 : Int32)) % (11521 : Int32)))])) _
    refine XS.sipush X0.here hx rfl (hb hby at_36) ?_
    show Steps p.tables e below (s₁.setTop (mkF m 39 #[.val (.int p1), .val (.int p2), .val (.int p3), .val (.int p4), .val (.int (((p1 &&& (2147483647 : Int32)) % (23041 : Int32)) - (11520 : Int32))), .val (.int (((p2 &&& (2147483647 : Int32)) % (23041 : Int32)) - (11520 : Int32))), .unset, .unset, .unset, .unset, .unset, .unset, .unset] [(.int (5760 : Int32)), (.int ((p3 &&& (2147483647 : Int32)) % (11521 : Int32)))])) _
    refine XS.isub X0.here hx rfl (hb hby at_39) rfl ?_
    show Steps p.tables e below (s₁.setTop (mkF m 40 #[.val (.int p1), .val (.int p2), .val (.int p3), .val (.int p4), .val (.int (((p1 &&& (2147483647 : Int32)) % (23041 : Int32)) - (11520 : Int32))), .val (.int (((p2 &&& (2147483647 : Int32)) % (23041 : Int32)) - (11520 : Int32))), .unset, .unset, .unset, .unset, .unset, .unset, .unset] [(.int (((p3 &&& (2147483647 : Int32)) % (11521 : Int32)) - (5760 : Int32)))])) _
    refine XS.istore X0.here hx rfl (hb hby at_40) rfl (l' := #[.val (.int p1), .val (.int p2), .val (.int p3), .val (.int p4), .val (.int (((p1 &&& (2147483647 : Int32)) % (23041 : Int32)) - (11520 : Int32))), .val (.int (((p2 &&& (2147483647 : Int32)) % (23041 : Int32)) - (11520 : Int32))), .val (.int (((p3 &&& (2147483647 : Int32)) % (11521 : Int32)) - (5760 : Int32))), .unset, .unset, .unset, .unset, .unset, .unset]) rfl ?_
    show Steps p.tables e below (s₁.setTop (mkF m 42 #[.val (.int p1), .val (.int p2), .val (.int p3), .val (.int p4), .val (.int (((p1 &&& (2147483647 : Int32)) % (23041 : Int32)) - (11520 : Int32))), .val (.int (((p2 &&& (2147483647 : Int32)) % (23041 : Int32)) - (11520 : Int32))), .val (.int (((p3 &&& (2147483647 : Int32)) % (11521 : Int32)) - (5760 : Int32))), .unset, .unset, .unset, .unset, .unset, .unset] [])) _
    refine XS.iloadN X0.here hx rfl (hb hby at_42) rfl ?_
    show Steps p.tables e below (s₁.setTop (mkF m 43 #[.val (.int p1), .val (.int p2), .val (.int p3), .val (.int p4), .val (.int (((p1 &&& (2147483647 : Int32)) % (23041 : Int32)) - (11520 : Int32))), .val (.int (((p2 &&& (2147483647 : Int32)) % (23041 : Int32)) - (11520 : Int32))), .val (.int (((p3 &&& (2147483647 : Int32)) % (11521 : Int32)) - (5760 : Int32))), .unset, .unset, .unset, .unset, .unset, .unset] [(.int p4)])) _
    refine X0.ldcInt hx hown (mvT hZ (hw _ (List.mem_of_getElem? (i := 0) rfl))) (g := (mkF m 43 #[.val (.int p1), .val (.int p2), .val (.int p3), .val (.int p4), .val (.int (((p1 &&& (2147483647 : Int32)) % (23041 : Int32)) - (11520 : Int32))), .val (.int (((p2 &&& (2147483647 : Int32)) % (23041 : Int32)) - (11520 : Int32))), .val (.int (((p3 &&& (2147483647 : Int32)) % (11521 : Int32)) - (5760 : Int32))), .unset, .unset, .unset, .unset, .unset, .unset] [(.int p4)])) rfl (hb hby at_43) _ ?_
    show Steps p.tables e below (s₁.setTop (mkF m 45 #[.val (.int p1), .val (.int p2), .val (.int p3), .val (.int p4), .val (.int (((p1 &&& (2147483647 : Int32)) % (23041 : Int32)) - (11520 : Int32))), .val (.int (((p2 &&& (2147483647 : Int32)) % (23041 : Int32)) - (11520 : Int32))), .val (.int (((p3 &&& (2147483647 : Int32)) % (11521 : Int32)) - (5760 : Int32))), .unset, .unset, .unset, .unset, .unset, .unset] [(.int (2147483647 : Int32)), (.int p4)])) _
    refine XS.iand X0.here hx rfl (hb hby at_45) rfl ?_
    show Steps p.tables e below (s₁.setTop (mkF m 46 #[.val (.int p1), .val (.int p2), .val (.int p3), .val (.int p4), .val (.int (((p1 &&& (2147483647 : Int32)) % (23041 : Int32)) - (11520 : Int32))), .val (.int (((p2 &&& (2147483647 : Int32)) % (23041 : Int32)) - (11520 : Int32))), .val (.int (((p3 &&& (2147483647 : Int32)) % (11521 : Int32)) - (5760 : Int32))), .unset, .unset, .unset, .unset, .unset, .unset] [(.int (p4 &&& (2147483647 : Int32)))])) _
    refine XS.sipush X0.here hx rfl (hb hby at_46) ?_
    show Steps p.tables e below (s₁.setTop (mkF m 49 #[.val (.int p1), .val (.int p2), .val (.int p3), .val (.int p4), .val (.int (((p1 &&& (2147483647 : Int32)) % (23041 : Int32)) - (11520 : Int32))), .val (.int (((p2 &&& (2147483647 : Int32)) % (23041 : Int32)) - (11520 : Int32))), .val (.int (((p3 &&& (2147483647 : Int32)) % (11521 : Int32)) - (5760 : Int32))), .unset, .unset, .unset, .unset, .unset, .unset] [(.int (11521 : Int32)), (.int (p4 &&& (2147483647 : Int32)))])) _
    refine iremM X0 hx rfl (hb hby at_49) rfl (by decide) ?_
    show Steps p.tables e below (s₁.setTop (mkF m 50 #[.val (.int p1), .val (.int p2), .val (.int p3), .val (.int p4), .val (.int (((p1 &&& (2147483647 : Int32)) % (23041 : Int32)) - (11520 : Int32))), .val (.int (((p2 &&& (2147483647 : Int32)) % (23041 : Int32)) - (11520 : Int32))), .val (.int (((p3 &&& (2147483647 : Int32)) % (11521 : Int32)) - (5760 : Int32))), .unset, .unset, .unset, .unset, .unset, .unset] [(.int ((p4 &&& (2147483647 : Int32)) % (11521 : Int32)))])) _
    refine XS.sipush X0.here hx rfl (hb hby at_50) ?_
    show Steps p.tables e below (s₁.setTop (mkF m 53 #[.val (.int p1), .val (.int p2), .val (.int p3), .val (.int p4), .val (.int (((p1 &&& (2147483647 : Int32)) % (23041 : Int32)) - (11520 : Int32))), .val (.int (((p2 &&& (2147483647 : Int32)) % (23041 : Int32)) - (11520 : Int32))), .val (.int (((p3 &&& (2147483647 : Int32)) % (11521 : Int32)) - (5760 : Int32))), .unset, .unset, .unset, .unset, .unset, .unset] [(.int (5760 : Int32)), (.int ((p4 &&& (2147483647 : Int32)) % (11521 : Int32)))])) _
    refine XS.isub X0.here hx rfl (hb hby at_53) rfl ?_
    show Steps p.tables e below (s₁.setTop (mkF m 54 #[.val (.int p1), .val (.int p2), .val (.int p3), .val (.int p4), .val (.int (((p1 &&& (2147483647 : Int32)) % (23041 : Int32)) - (11520 : Int32))), .val (.int (((p2 &&& (2147483647 : Int32)) % (23041 : Int32)) - (11520 : Int32))), .val (.int (((p3 &&& (2147483647 : Int32)) % (11521 : Int32)) - (5760 : Int32))), .unset, .unset, .unset, .unset, .unset, .unset] [(.int (((p4 &&& (2147483647 : Int32)) % (11521 : Int32)) - (5760 : Int32)))])) _
    refine XS.istore X0.here hx rfl (hb hby at_54) rfl (l' := #[.val (.int p1), .val (.int p2), .val (.int p3), .val (.int p4), .val (.int (((p1 &&& (2147483647 : Int32)) % (23041 : Int32)) - (11520 : Int32))), .val (.int (((p2 &&& (2147483647 : Int32)) % (23041 : Int32)) - (11520 : Int32))), .val (.int (((p3 &&& (2147483647 : Int32)) % (11521 : Int32)) - (5760 : Int32))), .val (.int (((p4 &&& (2147483647 : Int32)) % (11521 : Int32)) - (5760 : Int32))), .unset, .unset, .unset, .unset, .unset]) rfl ?_
    exact kt
  refine GoW.adv sg1 ?_
  have r_wq : -11520 ≤ ((((p1 &&& (2147483647 : Int32)) % (23041 : Int32)) - (11520 : Int32))).toInt ∧ ((((p1 &&& (2147483647 : Int32)) % (23041 : Int32)) - (11520 : Int32))).toInt ≤ 11520 := own_mid p1 (mm := 23041) (hh := 11520) (by decide) (by decide) (by decide)
  generalize h_wq : (((p1 &&& (2147483647 : Int32)) % (23041 : Int32)) - (11520 : Int32)) = wq
  show GoW p.tables e below s _ _ _ (s₁.setTop (mkF m 56 #[.val (.int p1), .val (.int p2), .val (.int p3), .val (.int p4), .val (.int wq), .val (.int (((p2 &&& (2147483647 : Int32)) % (23041 : Int32)) - (11520 : Int32))), .val (.int (((p3 &&& (2147483647 : Int32)) % (11521 : Int32)) - (5760 : Int32))), .val (.int (((p4 &&& (2147483647 : Int32)) % (11521 : Int32)) - (5760 : Int32))), .unset, .unset, .unset, .unset, .unset] []))
  rw [h_wq] at r_wq
  have r_eq : -11520 ≤ ((((p2 &&& (2147483647 : Int32)) % (23041 : Int32)) - (11520 : Int32))).toInt ∧ ((((p2 &&& (2147483647 : Int32)) % (23041 : Int32)) - (11520 : Int32))).toInt ≤ 11520 := own_mid p2 (mm := 23041) (hh := 11520) (by decide) (by decide) (by decide)
  generalize h_eq : (((p2 &&& (2147483647 : Int32)) % (23041 : Int32)) - (11520 : Int32)) = eq
  show GoW p.tables e below s _ _ _ (s₁.setTop (mkF m 56 #[.val (.int p1), .val (.int p2), .val (.int p3), .val (.int p4), .val (.int wq), .val (.int eq), .val (.int (((p3 &&& (2147483647 : Int32)) % (11521 : Int32)) - (5760 : Int32))), .val (.int (((p4 &&& (2147483647 : Int32)) % (11521 : Int32)) - (5760 : Int32))), .unset, .unset, .unset, .unset, .unset] []))
  rw [h_eq] at r_eq
  have r_pp : -5760 ≤ ((((p3 &&& (2147483647 : Int32)) % (11521 : Int32)) - (5760 : Int32))).toInt ∧ ((((p3 &&& (2147483647 : Int32)) % (11521 : Int32)) - (5760 : Int32))).toInt ≤ 5760 := own_mid p3 (mm := 11521) (hh := 5760) (by decide) (by decide) (by decide)
  generalize h_pp : (((p3 &&& (2147483647 : Int32)) % (11521 : Int32)) - (5760 : Int32)) = pp
  show GoW p.tables e below s _ _ _ (s₁.setTop (mkF m 56 #[.val (.int p1), .val (.int p2), .val (.int p3), .val (.int p4), .val (.int wq), .val (.int eq), .val (.int pp), .val (.int (((p4 &&& (2147483647 : Int32)) % (11521 : Int32)) - (5760 : Int32))), .unset, .unset, .unset, .unset, .unset] []))
  rw [h_pp] at r_pp
  have r_qq : -5760 ≤ ((((p4 &&& (2147483647 : Int32)) % (11521 : Int32)) - (5760 : Int32))).toInt ∧ ((((p4 &&& (2147483647 : Int32)) % (11521 : Int32)) - (5760 : Int32))).toInt ≤ 5760 := own_mid p4 (mm := 11521) (hh := 5760) (by decide) (by decide) (by decide)
  generalize h_qq : (((p4 &&& (2147483647 : Int32)) % (11521 : Int32)) - (5760 : Int32)) = qq
  show GoW p.tables e below s _ _ _ (s₁.setTop (mkF m 56 #[.val (.int p1), .val (.int p2), .val (.int p3), .val (.int p4), .val (.int wq), .val (.int eq), .val (.int pp), .val (.int qq), .unset, .unset, .unset, .unset, .unset] []))
  rw [h_qq] at r_qq
  obtain ⟨r_lo, r_hi, r_lh⟩ := own_mm r_pp r_qq
  have sg2 : ∀ t, Steps p.tables e below (s₁.setTop (mkF m 60 #[.val (.int p1), .val (.int p2), .val (.int p3), .val (.int p4), .val (.int wq), .val (.int eq), .val (.int pp), .val (.int qq), .unset, .unset, .unset, .unset, .unset] [(.int qq), (.int pp)])) t → Steps p.tables e below (s₁.setTop (mkF m 56 #[.val (.int p1), .val (.int p2), .val (.int p3), .val (.int p4), .val (.int wq), .val (.int eq), .val (.int pp), .val (.int qq), .unset, .unset, .unset, .unset, .unset] [])) t := by
    intro t kt
    show Steps p.tables e below (s₁.setTop (mkF m 56 #[.val (.int p1), .val (.int p2), .val (.int p3), .val (.int p4), .val (.int wq), .val (.int eq), .val (.int pp), .val (.int qq), .unset, .unset, .unset, .unset, .unset] [])) _
    refine XS.iload X0.here hx rfl (hb hby at_56) rfl ?_
    show Steps p.tables e below (s₁.setTop (mkF m 58 #[.val (.int p1), .val (.int p2), .val (.int p3), .val (.int p4), .val (.int wq), .val (.int eq), .val (.int pp), .val (.int qq), .unset, .unset, .unset, .unset, .unset] [(.int pp)])) _
    refine XS.iload X0.here hx rfl (hb hby at_58) rfl ?_
    exact kt
  refine GoW.adv sg2 ?_
  obtain ⟨_, _, ⟨T3, L3, k3, n3⟩, -, X3, ⟨Lc3, hQ3, l3, y3, z3⟩, st3⟩ := Jvm.LawKit.callS X0 hx (y := (⟨"java/lang/Math", "min", "(II)I"⟩ : MethodName)) hown (mvT hZ (hw _ (List.mem_of_getElem? (i := 1) rfl))) (mvT hZ (hw _ (List.mem_of_getElem? (i := 2) rfl))) (mvT hZ (hw _ (List.mem_of_getElem? (i := 3) rfl))) (mvT hZ (hw _ (List.mem_of_getElem? (i := 4) rfl))) (by decide) (backOf (W := 0) (rm_min l Z a0 hw [] pp qq  h0 n0 Z0 ) hZ (hw _ (List.mem_of_getElem? (i := 4) rfl)) (hw _ (List.mem_of_getElem? (i := 3) rfl)) (by decide) (by decide)) (g := (mkF m 60 #[.val (.int p1), .val (.int p2), .val (.int p3), .val (.int p4), .val (.int wq), .val (.int eq), .val (.int pp), .val (.int qq), .unset, .unset, .unset, .unset, .unset] [(.int qq), (.int pp)])) rfl (by rw [hml]; rfl) (argsL := [(.int pp), (.int qq)]) (rest := []) (lenOf pd_oIIcI rfl) rfl (by show 2 * 0 + _ ≤ _; exact Nat.le_of_eq rfl) (hb hby at_60) (fun _ _ => ⟨rfl, e0, (by decide : 0 + 0 ≤ _), (by decide : 0 + 0 ≤ _)⟩)
  dsimp only [Pt.U, Pt.locs, Pt.cells, Pt.slots] at X3 l3 y3 z3 st3 hQ3
  subst l3 y3 z3
  obtain ⟨rfl, N3q, e3⟩ := hQ3
  have N3 := Fr.app N0 N3q
  refine GoW.adv st3 ?_
  show GoW p.tables e below s _ _ _ (T3.setTop (mkF m 63 #[.val (.int p1), .val (.int p2), .val (.int p3), .val (.int p4), .val (.int wq), .val (.int eq), .val (.int pp), .val (.int qq), .unset, .unset, .unset, .unset, .unset] [(.int (own_min pp qq))]))
  have sg4 : ∀ t, Steps p.tables e below (T3.setTop (mkF m 69 #[.val (.int p1), .val (.int p2), .val (.int p3), .val (.int p4), .val (.int wq), .val (.int eq), .val (.int pp), .val (.int qq), .val (.int (own_min pp qq)), .unset, .unset, .unset, .unset] [(.int qq), (.int pp)])) t → Steps p.tables e below (T3.setTop (mkF m 63 #[.val (.int p1), .val (.int p2), .val (.int p3), .val (.int p4), .val (.int wq), .val (.int eq), .val (.int pp), .val (.int qq), .unset, .unset, .unset, .unset, .unset] [(.int (own_min pp qq))])) t := by
    intro t kt
    show Steps p.tables e below (T3.setTop (mkF m 63 #[.val (.int p1), .val (.int p2), .val (.int p3), .val (.int p4), .val (.int wq), .val (.int eq), .val (.int pp), .val (.int qq), .unset, .unset, .unset, .unset, .unset] [(.int (own_min pp qq))])) _
    refine XS.istore X3.here hx rfl (hb hby at_63) rfl (l' := #[.val (.int p1), .val (.int p2), .val (.int p3), .val (.int p4), .val (.int wq), .val (.int eq), .val (.int pp), .val (.int qq), .val (.int (own_min pp qq)), .unset, .unset, .unset, .unset]) rfl ?_
    show Steps p.tables e below (T3.setTop (mkF m 65 #[.val (.int p1), .val (.int p2), .val (.int p3), .val (.int p4), .val (.int wq), .val (.int eq), .val (.int pp), .val (.int qq), .val (.int (own_min pp qq)), .unset, .unset, .unset, .unset] [])) _
    refine XS.iload X3.here hx rfl (hb hby at_65) rfl ?_
    show Steps p.tables e below (T3.setTop (mkF m 67 #[.val (.int p1), .val (.int p2), .val (.int p3), .val (.int p4), .val (.int wq), .val (.int eq), .val (.int pp), .val (.int qq), .val (.int (own_min pp qq)), .unset, .unset, .unset, .unset] [(.int pp)])) _
    refine XS.iload X3.here hx rfl (hb hby at_67) rfl ?_
    exact kt
  refine GoW.adv sg4 ?_
  obtain ⟨_, _, ⟨T5, L5, k5, n5⟩, -, X5, ⟨Lc5, hQ5, l5, y5, z5⟩, st5⟩ := Jvm.LawKit.callS X3 hx (y := (⟨"java/lang/Math", "max", "(II)I"⟩ : MethodName)) hown (mvT hZ (hw _ (List.mem_of_getElem? (i := 5) rfl))) (mvT hZ (hw _ (List.mem_of_getElem? (i := 6) rfl))) (mvT hZ (hw _ (List.mem_of_getElem? (i := 3) rfl))) (mvT hZ (hw _ (List.mem_of_getElem? (i := 7) rfl))) (by decide) (backOf (W := 0) (rm_max l Z a0 hw [] pp qq  h0 n0 Z0 ) hZ (hw _ (List.mem_of_getElem? (i := 7) rfl)) (hw _ (List.mem_of_getElem? (i := 3) rfl)) (by decide) (by decide)) (g := (mkF m 69 #[.val (.int p1), .val (.int p2), .val (.int p3), .val (.int p4), .val (.int wq), .val (.int eq), .val (.int pp), .val (.int qq), .val (.int (own_min pp qq)), .unset, .unset, .unset, .unset] [(.int qq), (.int pp)])) rfl (by rw [hml]; rfl) (argsL := [(.int pp), (.int qq)]) (rest := []) (lenOf pd_oIIcI rfl) rfl (by show 2 * 0 + _ ≤ _; exact Nat.le_of_eq rfl) (hb hby at_69) (fun _ _ => ⟨rfl, e3, (by decide : 0 + 0 ≤ _), (by decide : 0 + 0 ≤ _)⟩)
  dsimp only [Pt.U, Pt.locs, Pt.cells, Pt.slots] at X5 l5 y5 z5 st5 hQ5
  subst l5 y5 z5
  obtain ⟨rfl, N5q, e5⟩ := hQ5
  have N5 := Fr.app N3 N5q
  refine GoW.adv st5 ?_
  show GoW p.tables e below s _ _ _ (T5.setTop (mkF m 72 #[.val (.int p1), .val (.int p2), .val (.int p3), .val (.int p4), .val (.int wq), .val (.int eq), .val (.int pp), .val (.int qq), .val (.int (own_min pp qq)), .unset, .unset, .unset, .unset] [(.int (own_max pp qq))]))
  have sg6 : ∀ t, Steps p.tables e below (T5.setTop (mkF m 74 #[.val (.int p1), .val (.int p2), .val (.int p3), .val (.int p4), .val (.int wq), .val (.int eq), .val (.int pp), .val (.int qq), .val (.int (own_min pp qq)), .val (.int (own_max pp qq)), .unset, .unset, .unset] [])) t → Steps p.tables e below (T5.setTop (mkF m 72 #[.val (.int p1), .val (.int p2), .val (.int p3), .val (.int p4), .val (.int wq), .val (.int eq), .val (.int pp), .val (.int qq), .val (.int (own_min pp qq)), .unset, .unset, .unset, .unset] [(.int (own_max pp qq))])) t := by
    intro t kt
    show Steps p.tables e below (T5.setTop (mkF m 72 #[.val (.int p1), .val (.int p2), .val (.int p3), .val (.int p4), .val (.int wq), .val (.int eq), .val (.int pp), .val (.int qq), .val (.int (own_min pp qq)), .unset, .unset, .unset, .unset] [(.int (own_max pp qq))])) _
    refine XS.istore X5.here hx rfl (hb hby at_72) rfl (l' := #[.val (.int p1), .val (.int p2), .val (.int p3), .val (.int p4), .val (.int wq), .val (.int eq), .val (.int pp), .val (.int qq), .val (.int (own_min pp qq)), .val (.int (own_max pp qq)), .unset, .unset, .unset]) rfl ?_
    exact kt
  refine GoW.adv sg6 ?_
  generalize h_lo : (own_min pp qq) = lo
  show GoW p.tables e below s _ _ _ (T5.setTop (mkF m 74 #[.val (.int p1), .val (.int p2), .val (.int p3), .val (.int p4), .val (.int wq), .val (.int eq), .val (.int pp), .val (.int qq), .val (.int lo), .val (.int (own_max pp qq)), .unset, .unset, .unset] []))
  generalize h_hi : (own_max pp qq) = hi
  show GoW p.tables e below s _ _ _ (T5.setTop (mkF m 74 #[.val (.int p1), .val (.int p2), .val (.int p3), .val (.int p4), .val (.int wq), .val (.int eq), .val (.int pp), .val (.int qq), .val (.int lo), .val (.int hi), .unset, .unset, .unset] []))
  rw [h_lo] at r_lo r_lh
  rw [h_hi] at r_hi r_lh
  have c_wq := own_q wq (by omega)
  have c_lo := own_q lo (by omega)
  have c_eq := own_q eq (by omega)
  have c_hi := own_q hi (by omega)
  have hB := own_box r_wq r_eq r_lo r_hi r_lh c_wq c_lo c_eq c_hi
  obtain ⟨T7, h7, X7, e7, E7, A7, D7, -, st7⟩ := newO X5 hx hZ hown (hw _ (List.mem_of_getElem? (i := 8) rfl)) (hw _ (List.mem_of_getElem? (i := 9) rfl)) (hw _ (List.mem_of_getElem? (i := 10) rfl)) e5 (g := (mkF m 74 #[.val (.int p1), .val (.int p2), .val (.int p3), .val (.int p4), .val (.int wq), .val (.int eq), .val (.int pp), .val (.int qq), .val (.int lo), .val (.int hi), .unset, .unset, .unset] [])) rfl (hb hby at_74) (by decide) (by decide)
  obtain ⟨b7, gb7⟩ : ∃ z, z = h0.size := ⟨_, rfl⟩
  rw [← gb7] at A7 D7 st7
  have g_b7 : n0 ≤ b7 := Nat.le_trans Z0 (Nat.le_of_eq gb7.symm)
  have sz_b7 : h0.size ≤ b7 := Nat.le_trans (Keep.refl h0 []).1 (Nat.le_of_eq gb7.symm)
  have K7 : Keep h0 h7 [] := (Keep.refl h0 []).ext E7
  have Z7 : n0 ≤ h7.size := Nat.le_trans Z0 E7.1
  have hk7 := Nat.le_trans hk0 E7.1
  have F_west_b7 : Fld Z h7 b7 "com/example/ostra/ostra/core/Box" "west" "D" (.double (0 : UInt64)) := D7 (Or.inr (hw _ (List.mem_of_getElem? (i := 38) rfl))) (ty := .double) (by decide)
  have F_south_b7 : Fld Z h7 b7 "com/example/ostra/ostra/core/Box" "south" "D" (.double (0 : UInt64)) := D7 (Or.inr (hw _ (List.mem_of_getElem? (i := 40) rfl))) (ty := .double) (by decide)
  have F_east_b7 : Fld Z h7 b7 "com/example/ostra/ostra/core/Box" "east" "D" (.double (0 : UInt64)) := D7 (Or.inr (hw _ (List.mem_of_getElem? (i := 42) rfl))) (ty := .double) (by decide)
  have F_north_b7 : Fld Z h7 b7 "com/example/ostra/ostra/core/Box" "north" "D" (.double (0 : UInt64)) := D7 (Or.inr (hw _ (List.mem_of_getElem? (i := 44) rfl))) (ty := .double) (by decide)
  refine GoW.adv st7 ?_
  show GoW p.tables e below s _ _ _ (T7.setTop (mkF m 77 #[.val (.int p1), .val (.int p2), .val (.int p3), .val (.int p4), .val (.int wq), .val (.int eq), .val (.int pp), .val (.int qq), .val (.int lo), .val (.int hi), .unset, .unset, .unset] [(.ref b7)]))
  have sg8 : ∀ t, Steps p.tables e below (T7.setTop (mkF m 106 #[.val (.int p1), .val (.int p2), .val (.int p3), .val (.int p4), .val (.int wq), .val (.int eq), .val (.int pp), .val (.int qq), .val (.int lo), .val (.int hi), .unset, .unset, .unset] [(.double (FP.ddiv (FP.i2d hi) (4634204016564240384 : UInt64))), (.double (FP.ddiv (FP.i2d eq) (4634204016564240384 : UInt64))), (.double (FP.ddiv (FP.i2d lo) (4634204016564240384 : UInt64))), (.double (FP.ddiv (FP.i2d wq) (4634204016564240384 : UInt64))), (.ref b7), (.ref b7)])) t → Steps p.tables e below (T7.setTop (mkF m 77 #[.val (.int p1), .val (.int p2), .val (.int p3), .val (.int p4), .val (.int wq), .val (.int eq), .val (.int pp), .val (.int qq), .val (.int lo), .val (.int hi), .unset, .unset, .unset] [(.ref b7)])) t := by
    intro t kt
    show Steps p.tables e below (T7.setTop (mkF m 77 #[.val (.int p1), .val (.int p2), .val (.int p3), .val (.int p4), .val (.int wq), .val (.int eq), .val (.int pp), .val (.int qq), .val (.int lo), .val (.int hi), .unset, .unset, .unset] [(.ref b7)])) _
    refine XS.dup X7.here hx rfl (hb hby at_77) rfl rfl ?_
    show Steps p.tables e below (T7.setTop (mkF m 78 #[.val (.int p1), .val (.int p2), .val (.int p3), .val (.int p4), .val (.int wq), .val (.int eq), .val (.int pp), .val (.int qq), .val (.int lo), .val (.int hi), .unset, .unset, .unset] [(.ref b7), (.ref b7)])) _
    refine XS.iload X7.here hx rfl (hb hby at_78) rfl ?_
    show Steps p.tables e below (T7.setTop (mkF m 80 #[.val (.int p1), .val (.int p2), .val (.int p3), .val (.int p4), .val (.int wq), .val (.int eq), .val (.int pp), .val (.int qq), .val (.int lo), .val (.int hi), .unset, .unset, .unset] [(.int wq), (.ref b7), (.ref b7)])) _
    refine own_i2d X7.here hx rfl (hb hby at_80) rfl ?_
    show Steps p.tables e below (T7.setTop (mkF m 81 #[.val (.int p1), .val (.int p2), .val (.int p3), .val (.int p4), .val (.int wq), .val (.int eq), .val (.int pp), .val (.int qq), .val (.int lo), .val (.int hi), .unset, .unset, .unset] [(.double (FP.i2d wq)), (.ref b7), (.ref b7)])) _
    refine X7.ldc2DoubleC hx hown (mvT hZ (hw _ (List.mem_of_getElem? (i := 11) rfl))) (g := (mkF m 81 #[.val (.int p1), .val (.int p2), .val (.int p3), .val (.int p4), .val (.int wq), .val (.int eq), .val (.int pp), .val (.int qq), .val (.int lo), .val (.int hi), .unset, .unset, .unset] [(.double (FP.i2d wq)), (.ref b7), (.ref b7)])) rfl (hb hby at_81) _ ?_
    show Steps p.tables e below (T7.setTop (mkF m 84 #[.val (.int p1), .val (.int p2), .val (.int p3), .val (.int p4), .val (.int wq), .val (.int eq), .val (.int pp), .val (.int qq), .val (.int lo), .val (.int hi), .unset, .unset, .unset] [(.double (4634204016564240384 : UInt64)), (.double (FP.i2d wq)), (.ref b7), (.ref b7)])) _
    refine own_ddiv X7.here hx rfl (hb hby at_84) rfl (Own.num_of c_wq.fin) ?_
    show Steps p.tables e below (T7.setTop (mkF m 85 #[.val (.int p1), .val (.int p2), .val (.int p3), .val (.int p4), .val (.int wq), .val (.int eq), .val (.int pp), .val (.int qq), .val (.int lo), .val (.int hi), .unset, .unset, .unset] [(.double (FP.ddiv (FP.i2d wq) (4634204016564240384 : UInt64))), (.ref b7), (.ref b7)])) _
    refine XS.iload X7.here hx rfl (hb hby at_85) rfl ?_
    show Steps p.tables e below (T7.setTop (mkF m 87 #[.val (.int p1), .val (.int p2), .val (.int p3), .val (.int p4), .val (.int wq), .val (.int eq), .val (.int pp), .val (.int qq), .val (.int lo), .val (.int hi), .unset, .unset, .unset] [(.int lo), (.double (FP.ddiv (FP.i2d wq) (4634204016564240384 : UInt64))), (.ref b7), (.ref b7)])) _
    refine own_i2d X7.here hx rfl (hb hby at_87) rfl ?_
    show Steps p.tables e below (T7.setTop (mkF m 88 #[.val (.int p1), .val (.int p2), .val (.int p3), .val (.int p4), .val (.int wq), .val (.int eq), .val (.int pp), .val (.int qq), .val (.int lo), .val (.int hi), .unset, .unset, .unset] [(.double (FP.i2d lo)), (.double (FP.ddiv (FP.i2d wq) (4634204016564240384 : UInt64))), (.ref b7), (.ref b7)])) _
    refine X7.ldc2DoubleC hx hown (mvT hZ (hw _ (List.mem_of_getElem? (i := 11) rfl))) (g := (mkF m 88 #[.val (.int p1), .val (.int p2), .val (.int p3), .val (.int p4), .val (.int wq), .val (.int eq), .val (.int pp), .val (.int qq), .val (.int lo), .val (.int hi), .unset, .unset, .unset] [(.double (FP.i2d lo)), (.double (FP.ddiv (FP.i2d wq) (4634204016564240384 : UInt64))), (.ref b7), (.ref b7)])) rfl (hb hby at_88) _ ?_
    show Steps p.tables e below (T7.setTop (mkF m 91 #[.val (.int p1), .val (.int p2), .val (.int p3), .val (.int p4), .val (.int wq), .val (.int eq), .val (.int pp), .val (.int qq), .val (.int lo), .val (.int hi), .unset, .unset, .unset] [(.double (4634204016564240384 : UInt64)), (.double (FP.i2d lo)), (.double (FP.ddiv (FP.i2d wq) (4634204016564240384 : UInt64))), (.ref b7), (.ref b7)])) _
    refine own_ddiv X7.here hx rfl (hb hby at_91) rfl (Own.num_of c_lo.fin) ?_
    show Steps p.tables e below (T7.setTop (mkF m 92 #[.val (.int p1), .val (.int p2), .val (.int p3), .val (.int p4), .val (.int wq), .val (.int eq), .val (.int pp), .val (.int qq), .val (.int lo), .val (.int hi), .unset, .unset, .unset] [(.double (FP.ddiv (FP.i2d lo) (4634204016564240384 : UInt64))), (.double (FP.ddiv (FP.i2d wq) (4634204016564240384 : UInt64))), (.ref b7), (.ref b7)])) _
    refine XS.iload X7.here hx rfl (hb hby at_92) rfl ?_
    show Steps p.tables e below (T7.setTop (mkF m 94 #[.val (.int p1), .val (.int p2), .val (.int p3), .val (.int p4), .val (.int wq), .val (.int eq), .val (.int pp), .val (.int qq), .val (.int lo), .val (.int hi), .unset, .unset, .unset] [(.int eq), (.double (FP.ddiv (FP.i2d lo) (4634204016564240384 : UInt64))), (.double (FP.ddiv (FP.i2d wq) (4634204016564240384 : UInt64))), (.ref b7), (.ref b7)])) _
    refine own_i2d X7.here hx rfl (hb hby at_94) rfl ?_
    show Steps p.tables e below (T7.setTop (mkF m 95 #[.val (.int p1), .val (.int p2), .val (.int p3), .val (.int p4), .val (.int wq), .val (.int eq), .val (.int pp), .val (.int qq), .val (.int lo), .val (.int hi), .unset, .unset, .unset] [(.double (FP.i2d eq)), (.double (FP.ddiv (FP.i2d lo) (4634204016564240384 : UInt64))), (.double (FP.ddiv (FP.i2d wq) (4634204016564240384 : UInt64))), (.ref b7), (.ref b7)])) _
    refine X7.ldc2DoubleC hx hown (mvT hZ (hw _ (List.mem_of_getElem? (i := 11) rfl))) (g := (mkF m 95 #[.val (.int p1), .val (.int p2), .val (.int p3), .val (.int p4), .val (.int wq), .val (.int eq), .val (.int pp), .val (.int qq), .val (.int lo), .val (.int hi), .unset, .unset, .unset] [(.double (FP.i2d eq)), (.double (FP.ddiv (FP.i2d lo) (4634204016564240384 : UInt64))), (.double (FP.ddiv (FP.i2d wq) (4634204016564240384 : UInt64))), (.ref b7), (.ref b7)])) rfl (hb hby at_95) _ ?_
    show Steps p.tables e below (T7.setTop (mkF m 98 #[.val (.int p1), .val (.int p2), .val (.int p3), .val (.int p4), .val (.int wq), .val (.int eq), .val (.int pp), .val (.int qq), .val (.int lo), .val (.int hi), .unset, .unset, .unset] [(.double (4634204016564240384 : UInt64)), (.double (FP.i2d eq)), (.double (FP.ddiv (FP.i2d lo) (4634204016564240384 : UInt64))), (.double (FP.ddiv (FP.i2d wq) (4634204016564240384 : UInt64))), (.ref b7), (.ref b7)])) _
    refine own_ddiv X7.here hx rfl (hb hby at_98) rfl (Own.num_of c_eq.fin) ?_
    show Steps p.tables e below (T7.setTop (mkF m 99 #[.val (.int p1), .val (.int p2), .val (.int p3), .val (.int p4), .val (.int wq), .val (.int eq), .val (.int pp), .val (.int qq), .val (.int lo), .val (.int hi), .unset, .unset, .unset] [(.double (FP.ddiv (FP.i2d eq) (4634204016564240384 : UInt64))), (.double (FP.ddiv (FP.i2d lo) (4634204016564240384 : UInt64))), (.double (FP.ddiv (FP.i2d wq) (4634204016564240384 : UInt64))), (.ref b7), (.ref b7)])) _
    refine XS.iload X7.here hx rfl (hb hby at_99) rfl ?_
    show Steps p.tables e below (T7.setTop (mkF m 101 #[.val (.int p1), .val (.int p2), .val (.int p3), .val (.int p4), .val (.int wq), .val (.int eq), .val (.int pp), .val (.int qq), .val (.int lo), .val (.int hi), .unset, .unset, .unset] [(.int hi), (.double (FP.ddiv (FP.i2d eq) (4634204016564240384 : UInt64))), (.double (FP.ddiv (FP.i2d lo) (4634204016564240384 : UInt64))), (.double (FP.ddiv (FP.i2d wq) (4634204016564240384 : UInt64))), (.ref b7), (.ref b7)])) _
    refine own_i2d X7.here hx rfl (hb hby at_101) rfl ?_
    show Steps p.tables e below (T7.setTop (mkF m 102 #[.val (.int p1), .val (.int p2), .val (.int p3), .val (.int p4), .val (.int wq), .val (.int eq), .val (.int pp), .val (.int qq), .val (.int lo), .val (.int hi), .unset, .unset, .unset] [(.double (FP.i2d hi)), (.double (FP.ddiv (FP.i2d eq) (4634204016564240384 : UInt64))), (.double (FP.ddiv (FP.i2d lo) (4634204016564240384 : UInt64))), (.double (FP.ddiv (FP.i2d wq) (4634204016564240384 : UInt64))), (.ref b7), (.ref b7)])) _
    refine X7.ldc2DoubleC hx hown (mvT hZ (hw _ (List.mem_of_getElem? (i := 11) rfl))) (g := (mkF m 102 #[.val (.int p1), .val (.int p2), .val (.int p3), .val (.int p4), .val (.int wq), .val (.int eq), .val (.int pp), .val (.int qq), .val (.int lo), .val (.int hi), .unset, .unset, .unset] [(.double (FP.i2d hi)), (.double (FP.ddiv (FP.i2d eq) (4634204016564240384 : UInt64))), (.double (FP.ddiv (FP.i2d lo) (4634204016564240384 : UInt64))), (.double (FP.ddiv (FP.i2d wq) (4634204016564240384 : UInt64))), (.ref b7), (.ref b7)])) rfl (hb hby at_102) _ ?_
    show Steps p.tables e below (T7.setTop (mkF m 105 #[.val (.int p1), .val (.int p2), .val (.int p3), .val (.int p4), .val (.int wq), .val (.int eq), .val (.int pp), .val (.int qq), .val (.int lo), .val (.int hi), .unset, .unset, .unset] [(.double (4634204016564240384 : UInt64)), (.double (FP.i2d hi)), (.double (FP.ddiv (FP.i2d eq) (4634204016564240384 : UInt64))), (.double (FP.ddiv (FP.i2d lo) (4634204016564240384 : UInt64))), (.double (FP.ddiv (FP.i2d wq) (4634204016564240384 : UInt64))), (.ref b7), (.ref b7)])) _
    refine own_ddiv X7.here hx rfl (hb hby at_105) rfl (Own.num_of c_hi.fin) ?_
    exact kt
  refine GoW.adv sg8 ?_
  obtain ⟨_, _, ⟨T9, L9, k9, n9⟩, -, Xr9, hSr9, hG9, ⟨Lc9, hQ9, l9, y9, z9⟩, st9⟩ := X7.specialBackS hx (y := (⟨"com/example/ostra/ostra/core/Box", "<init>", "(DDDD)V"⟩ : MethodName)) rfl hown (mvT hZ (hw _ (List.mem_of_getElem? (i := 12) rfl))) (mvT hZ (hw _ (List.mem_of_getElem? (i := 13) rfl))) (mvT hZ (hw _ (List.mem_of_getElem? (i := 14) rfl))) (by decide) (backOfS (W := 1) (rm_init l Z a0 hw [] b7 (FP.ddiv (FP.i2d wq) (4634204016564240384 : UInt64)) (FP.ddiv (FP.i2d lo) (4634204016564240384 : UInt64)) (FP.ddiv (FP.i2d eq) (4634204016564240384 : UInt64)) (FP.ddiv (FP.i2d hi) (4634204016564240384 : UInt64)) (.double (0 : UInt64)) (.double (0 : UInt64)) (.double (0 : UInt64)) (.double (0 : UInt64)) h7 n0 Z7 A7 g_b7 F_west_b7 F_south_b7 F_east_b7 F_north_b7 hB) hZ (hw _ (List.mem_of_getElem? (i := 14) rfl)) (hw _ (List.mem_of_getElem? (i := 10) rfl)) (by decide) (by decide)) (g := (mkF m 106 #[.val (.int p1), .val (.int p2), .val (.int p3), .val (.int p4), .val (.int wq), .val (.int eq), .val (.int pp), .val (.int qq), .val (.int lo), .val (.int hi), .unset, .unset, .unset] [(.double (FP.ddiv (FP.i2d hi) (4634204016564240384 : UInt64))), (.double (FP.ddiv (FP.i2d eq) (4634204016564240384 : UInt64))), (.double (FP.ddiv (FP.i2d lo) (4634204016564240384 : UInt64))), (.double (FP.ddiv (FP.i2d wq) (4634204016564240384 : UInt64))), (.ref b7), (.ref b7)])) rfl (by rw [hml]; rfl) (Steps.refl _) (a := b7) (argsL := [(.double (FP.ddiv (FP.i2d wq) (4634204016564240384 : UInt64))), (.double (FP.ddiv (FP.i2d lo) (4634204016564240384 : UInt64))), (.double (FP.ddiv (FP.i2d eq) (4634204016564240384 : UInt64))), (.double (FP.ddiv (FP.i2d hi) (4634204016564240384 : UInt64)))]) (rest := [(.ref b7)]) (lenOf pd_oDDDDcV rfl) rfl (by show 2 * 0 + _ ≤ _; exact Nat.le_of_eq rfl) (hb hby at_106) (fun _ _ => ⟨rfl, e7, (by decide : 1 + 8 ≤ _), (by decide : 4 + 88 ≤ _)⟩)
  dsimp only [Pt.U, Pt.locs, Pt.cells, Pt.slots] at Xr9 l9 y9 z9 st9 hQ9 hSr9 hG9
  subst l9 y9 z9
  have X9 : Stand p l e _ (s.setVm T9.vm) m _ below meth c T9 _ _ _ := Xr9
  have hS9 : s.Since T9.vm T9.heap.size := State.Since.trans hS0 hSr9 (Nat.le_trans hk7 (by rw [← e7]; exact hG9))
  have hZ9 : Z.Warmed39 (s.setVm T9.vm).vm := State.Warmed39.trans (t := s.setVm s.vm) hZ hSr9.1
  have hown9 : (s.setVm T9.vm).vm.findClass "com/example/ostra/ostra/core/BoxWidthPinLaw" = some m.cls := by rw [show (s.setVm T9.vm).vm = T9.vm from rfl, hSr9.1.alike.findClass]; exact hown
  obtain ⟨rfl, N9q, Kc9, p9_0, p9_1, p9_2, p9_3, p9_4⟩ := hQ9
  have N9 := Fr.app N5 N9q
  have K9 : Keep h0 T9.heap [] := K7.trans Kc9 (allS (Or.inr sz_b7) all0)
  have Z9 : n0 ≤ T9.heap.size := Nat.le_trans Z7 Kc9.1
  refine GoW.tr st9 ?_
  show GoW p.tables e below s _ _ _ (T9.setTop (mkF m 109 #[.val (.int p1), .val (.int p2), .val (.int p3), .val (.int p4), .val (.int wq), .val (.int eq), .val (.int pp), .val (.int qq), .val (.int lo), .val (.int hi), .unset, .unset, .unset] [(.ref b7)]))
  have hcv := (own_cv (op := .l) (Own.Dy.cmp c_wq c_eq)).2
  obtain ⟨d1, d2, d3⟩ := own_wid r_wq r_eq c_wq c_eq
  have hd : (eq - wq).toInt = eq.toInt - wq.toInt := Kit.i32_sub (by omega) (by omega)
  by_cases hlt : (eq - wq) < (0 : Int32)
  · have hlt2 : eq.toInt < wq.toInt := by have := Int32.lt_iff_toInt_lt.mp hlt; rw [hd] at this; have z : (0 : Int32).toInt = 0 := rfl; omega
    have hx1 := own_cross_a (hcv.mpr hlt2)
    have he : ((eq - wq) + (23040 : Int32)).toInt = eq.toInt + 23040 - wq.toInt := by rw [Kit.i32_add (by rw [hd]; show _ ≤ _ + 23040; omega) (by rw [hd]; show _ + 23040 < _; omega), hd]; show _ + 23040 = _; omega
    have cx := own_q ((eq - wq) + (23040 : Int32)) (by rw [he]; omega)
    rw [he] at cx
    have hwd := own_width_b (by rw [hx1] <;> decide)
    have hce := own_ceq d3 cx
    have sg10 : ∀ t, Steps p.tables e below (T9.setTop (mkF m 138 #[.val (.int p1), .val (.int p2), .val (.int p3), .val (.int p4), .val (.int wq), .val (.int eq), .val (.int pp), .val (.int qq), .val (.int lo), .val (.int hi), .val (.ref b7), .val (.int (eq - wq)), .val (.int ((eq - wq) + (23040 : Int32)))] [(.ref b7)])) t → Steps p.tables e below (T9.setTop (mkF m 109 #[.val (.int p1), .val (.int p2), .val (.int p3), .val (.int p4), .val (.int wq), .val (.int eq), .val (.int pp), .val (.int qq), .val (.int lo), .val (.int hi), .unset, .unset, .unset] [(.ref b7)])) t := by
      intro t kt
      show Steps p.tables e below (T9.setTop (mkF m 109 #[.val (.int p1), .val (.int p2), .val (.int p3), .val (.int p4), .val (.int wq), .val (.int eq), .val (.int pp), .val (.int qq), .val (.int lo), .val (.int hi), .unset, .unset, .unset] [(.ref b7)])) _
      refine XS.astore X9.here hx rfl (hb hby at_109) rfl rfl (l' := #[.val (.int p1), .val (.int p2), .val (.int p3), .val (.int p4), .val (.int wq), .val (.int eq), .val (.int pp), .val (.int qq), .val (.int lo), .val (.int hi), .val (.ref b7), .unset, .unset]) rfl ?_
      show Steps p.tables e below (T9.setTop (mkF m 111 #[.val (.int p1), .val (.int p2), .val (.int p3), .val (.int p4), .val (.int wq), .val (.int eq), .val (.int pp), .val (.int qq), .val (.int lo), .val (.int hi), .val (.ref b7), .unset, .unset] [])) _
      refine XS.iload X9.here hx rfl (hb hby at_111) rfl ?_
      show Steps p.tables e below (T9.setTop (mkF m 113 #[.val (.int p1), .val (.int p2), .val (.int p3), .val (.int p4), .val (.int wq), .val (.int eq), .val (.int pp), .val (.int qq), .val (.int lo), .val (.int hi), .val (.ref b7), .unset, .unset] [(.int eq)])) _
      refine XS.iload X9.here hx rfl (hb hby at_113) rfl ?_
      show Steps p.tables e below (T9.setTop (mkF m 115 #[.val (.int p1), .val (.int p2), .val (.int p3), .val (.int p4), .val (.int wq), .val (.int eq), .val (.int pp), .val (.int qq), .val (.int lo), .val (.int hi), .val (.ref b7), .unset, .unset] [(.int wq), (.int eq)])) _
      refine XS.isub X9.here hx rfl (hb hby at_115) rfl ?_
      show Steps p.tables e below (T9.setTop (mkF m 116 #[.val (.int p1), .val (.int p2), .val (.int p3), .val (.int p4), .val (.int wq), .val (.int eq), .val (.int pp), .val (.int qq), .val (.int lo), .val (.int hi), .val (.ref b7), .unset, .unset] [(.int (eq - wq))])) _
      refine XS.istore X9.here hx rfl (hb hby at_116) rfl (l' := #[.val (.int p1), .val (.int p2), .val (.int p3), .val (.int p4), .val (.int wq), .val (.int eq), .val (.int pp), .val (.int qq), .val (.int lo), .val (.int hi), .val (.ref b7), .val (.int (eq - wq)), .unset]) rfl ?_
      show Steps p.tables e below (T9.setTop (mkF m 118 #[.val (.int p1), .val (.int p2), .val (.int p3), .val (.int p4), .val (.int wq), .val (.int eq), .val (.int pp), .val (.int qq), .val (.int lo), .val (.int hi), .val (.ref b7), .val (.int (eq - wq)), .unset] [])) _
      refine XS.iload X9.here hx rfl (hb hby at_118) rfl ?_
      show Steps p.tables e below (T9.setTop (mkF m 120 #[.val (.int p1), .val (.int p2), .val (.int p3), .val (.int p4), .val (.int wq), .val (.int eq), .val (.int pp), .val (.int qq), .val (.int lo), .val (.int hi), .val (.ref b7), .val (.int (eq - wq)), .unset] [(.int (eq - wq))])) _
      refine XS.ifNo X9.here hx rfl (hb hby at_120) rfl ((if0 _ _).trans (tlt (hlt : (eq - wq) < (0 : Int32))).2.1) ?_
      show Steps p.tables e below (T9.setTop (mkF m 123 #[.val (.int p1), .val (.int p2), .val (.int p3), .val (.int p4), .val (.int wq), .val (.int eq), .val (.int pp), .val (.int qq), .val (.int lo), .val (.int hi), .val (.ref b7), .val (.int (eq - wq)), .unset] [])) _
      refine XS.iload X9.here hx rfl (hb hby at_123) rfl ?_
      show Steps p.tables e below (T9.setTop (mkF m 125 #[.val (.int p1), .val (.int p2), .val (.int p3), .val (.int p4), .val (.int wq), .val (.int eq), .val (.int pp), .val (.int qq), .val (.int lo), .val (.int hi), .val (.ref b7), .val (.int (eq - wq)), .unset] [(.int (eq - wq))])) _
      refine XS.sipush X9.here hx rfl (hb hby at_125) ?_
      show Steps p.tables e below (T9.setTop (mkF m 128 #[.val (.int p1), .val (.int p2), .val (.int p3), .val (.int p4), .val (.int wq), .val (.int eq), .val (.int pp), .val (.int qq), .val (.int lo), .val (.int hi), .val (.ref b7), .val (.int (eq - wq)), .unset] [(.int (23040 : Int32)), (.int (eq - wq))])) _
      refine XS.iadd X9.here hx rfl (hb hby at_128) rfl ?_
      show Steps p.tables e below (T9.setTop (mkF m 129 #[.val (.int p1), .val (.int p2), .val (.int p3), .val (.int p4), .val (.int wq), .val (.int eq), .val (.int pp), .val (.int qq), .val (.int lo), .val (.int hi), .val (.ref b7), .val (.int (eq - wq)), .unset] [(.int ((eq - wq) + (23040 : Int32)))])) _
      refine XS.goto X9.here hx rfl (pc0 := 129) (pc' := 134) rfl (hb hby at_129) (by decide) (by decide) ?_
      show Steps p.tables e below (T9.setTop (mkF m 134 #[.val (.int p1), .val (.int p2), .val (.int p3), .val (.int p4), .val (.int wq), .val (.int eq), .val (.int pp), .val (.int qq), .val (.int lo), .val (.int hi), .val (.ref b7), .val (.int (eq - wq)), .unset] [(.int ((eq - wq) + (23040 : Int32)))])) _
      refine XS.istore X9.here hx rfl (hb hby at_134) rfl (l' := #[.val (.int p1), .val (.int p2), .val (.int p3), .val (.int p4), .val (.int wq), .val (.int eq), .val (.int pp), .val (.int qq), .val (.int lo), .val (.int hi), .val (.ref b7), .val (.int (eq - wq)), .val (.int ((eq - wq) + (23040 : Int32)))]) rfl ?_
      show Steps p.tables e below (T9.setTop (mkF m 136 #[.val (.int p1), .val (.int p2), .val (.int p3), .val (.int p4), .val (.int wq), .val (.int eq), .val (.int pp), .val (.int qq), .val (.int lo), .val (.int hi), .val (.ref b7), .val (.int (eq - wq)), .val (.int ((eq - wq) + (23040 : Int32)))] [])) _
      refine XS.aload X9.here hx rfl (hb hby at_136) rfl rfl ?_
      exact kt
    refine GoW.adv sg10 ?_
    obtain ⟨cq11, kq11, q11a, q11b, q11c⟩ := isOf hZ9 rfl p9_0
    obtain ⟨_, _, ⟨T11, L11, k11, n11⟩, -, X11, ⟨Lc11, hQ11, l11, y11, z11⟩, st11⟩ := X9.virtualBack hx (y := (⟨"com/example/ostra/ostra/core/Box", "width", "()D"⟩ : MethodName)) (z := (⟨"com/example/ostra/ostra/core/Box", "width", "()D"⟩ : MethodName)) hown9 (mvT hZ9 (hw _ (List.mem_of_getElem? (i := 45) rfl))) (mvT hZ9 (hw _ (List.mem_of_getElem? (i := 46) rfl))) (notFace_of_selects (args := #[]) (mvT hZ9 (hw _ (List.mem_of_getElem? (i := 48) rfl)))) (mvT hZ9 (hw _ (List.mem_of_getElem? (i := 48) rfl))) (mvT hZ9 (hw _ (List.mem_of_getElem? (i := 47) rfl))) (by decide) (backOf (W := 0) (rm_width l Z a0 hw [] b7 (FP.ddiv (FP.i2d wq) (4634204016564240384 : UInt64)) (FP.ddiv (FP.i2d eq) (4634204016564240384 : UInt64)) T9.heap n0 Z9 p9_0 p9_1 p9_3 ⟨Own.num_of d1.fin, Own.num_of d2.fin, Own.num_of d3.fin⟩) hZ9 (hw _ (List.mem_of_getElem? (i := 49) rfl)) (hw _ (List.mem_of_getElem? (i := 10) rfl)) (by decide) (by decide)) q11a q11c (g := (mkF m 138 #[.val (.int p1), .val (.int p2), .val (.int p3), .val (.int p4), .val (.int wq), .val (.int eq), .val (.int pp), .val (.int qq), .val (.int lo), .val (.int hi), .val (.ref b7), .val (.int (eq - wq)), .val (.int ((eq - wq) + (23040 : Int32)))] [(.ref b7)])) rfl (by rw [hml]; rfl) (Steps.refl _) (argsL := []) (rest := []) (lenOf pd_ocD rfl) rfl (by show 2 * 0 + _ ≤ _; exact Nat.le_of_eq rfl) (hb hby at_138) (fun _ _ => ⟨rfl, rfl, (by decide : 9 + 0 ≤ _), (by decide : 92 + 0 ≤ _)⟩)
    dsimp only [Pt.U, Pt.locs, Pt.cells, Pt.slots] at X11 l11 y11 z11 st11 hQ11
    subst l11 y11 z11
    obtain ⟨rfl, N11q, e11⟩ := hQ11
    have N11 := Fr.app N9 N11q
    refine GoW.tr st11 ?_
    show GoW p.tables e below s _ _ _ (T11.setTop (mkF m 141 #[.val (.int p1), .val (.int p2), .val (.int p3), .val (.int p4), .val (.int wq), .val (.int eq), .val (.int pp), .val (.int qq), .val (.int lo), .val (.int hi), .val (.ref b7), .val (.int (eq - wq)), .val (.int ((eq - wq) + (23040 : Int32)))] [(.double (own_width (FP.ddiv (FP.i2d wq) (4634204016564240384 : UInt64)) (FP.ddiv (FP.i2d eq) (4634204016564240384 : UInt64))))]))
    rw [hwd]
    show GoW p.tables e below s _ _ _ (T11.setTop (mkF m 141 #[.val (.int p1), .val (.int p2), .val (.int p3), .val (.int p4), .val (.int wq), .val (.int eq), .val (.int pp), .val (.int qq), .val (.int lo), .val (.int hi), .val (.ref b7), .val (.int (eq - wq)), .val (.int ((eq - wq) + (23040 : Int32)))] [(.double (FP.dsub (FP.dadd (FP.ddiv (FP.i2d eq) (4634204016564240384 : UInt64)) (4645040803167600640 : UInt64)) (FP.ddiv (FP.i2d wq) (4634204016564240384 : UInt64))))]))
    have sg12 : ∀ t, Steps p.tables e below (T11.setTop (mkF m 157 #[.val (.int p1), .val (.int p2), .val (.int p3), .val (.int p4), .val (.int wq), .val (.int eq), .val (.int pp), .val (.int qq), .val (.int lo), .val (.int hi), .val (.ref b7), .val (.int (eq - wq)), .val (.int ((eq - wq) + (23040 : Int32)))] [(.int (1 : Int32))])) t → Steps p.tables e below (T11.setTop (mkF m 141 #[.val (.int p1), .val (.int p2), .val (.int p3), .val (.int p4), .val (.int wq), .val (.int eq), .val (.int pp), .val (.int qq), .val (.int lo), .val (.int hi), .val (.ref b7), .val (.int (eq - wq)), .val (.int ((eq - wq) + (23040 : Int32)))] [(.double (FP.dsub (FP.dadd (FP.ddiv (FP.i2d eq) (4634204016564240384 : UInt64)) (4645040803167600640 : UInt64)) (FP.ddiv (FP.i2d wq) (4634204016564240384 : UInt64))))])) t := by
      intro t kt
      show Steps p.tables e below (T11.setTop (mkF m 141 #[.val (.int p1), .val (.int p2), .val (.int p3), .val (.int p4), .val (.int wq), .val (.int eq), .val (.int pp), .val (.int qq), .val (.int lo), .val (.int hi), .val (.ref b7), .val (.int (eq - wq)), .val (.int ((eq - wq) + (23040 : Int32)))] [(.double (FP.dsub (FP.dadd (FP.ddiv (FP.i2d eq) (4634204016564240384 : UInt64)) (4645040803167600640 : UInt64)) (FP.ddiv (FP.i2d wq) (4634204016564240384 : UInt64))))])) _
      refine XS.iload X11.here hx rfl (hb hby at_141) rfl ?_
      show Steps p.tables e below (T11.setTop (mkF m 143 #[.val (.int p1), .val (.int p2), .val (.int p3), .val (.int p4), .val (.int wq), .val (.int eq), .val (.int pp), .val (.int qq), .val (.int lo), .val (.int hi), .val (.ref b7), .val (.int (eq - wq)), .val (.int ((eq - wq) + (23040 : Int32)))] [(.int ((eq - wq) + (23040 : Int32))), (.double (FP.dsub (FP.dadd (FP.ddiv (FP.i2d eq) (4634204016564240384 : UInt64)) (4645040803167600640 : UInt64)) (FP.ddiv (FP.i2d wq) (4634204016564240384 : UInt64))))])) _
      refine own_i2d X11.here hx rfl (hb hby at_143) rfl ?_
      show Steps p.tables e below (T11.setTop (mkF m 144 #[.val (.int p1), .val (.int p2), .val (.int p3), .val (.int p4), .val (.int wq), .val (.int eq), .val (.int pp), .val (.int qq), .val (.int lo), .val (.int hi), .val (.ref b7), .val (.int (eq - wq)), .val (.int ((eq - wq) + (23040 : Int32)))] [(.double (FP.i2d ((eq - wq) + (23040 : Int32)))), (.double (FP.dsub (FP.dadd (FP.ddiv (FP.i2d eq) (4634204016564240384 : UInt64)) (4645040803167600640 : UInt64)) (FP.ddiv (FP.i2d wq) (4634204016564240384 : UInt64))))])) _
      refine X11.ldc2DoubleC hx hown9 (mvT hZ9 (hw _ (List.mem_of_getElem? (i := 11) rfl))) (g := (mkF m 144 #[.val (.int p1), .val (.int p2), .val (.int p3), .val (.int p4), .val (.int wq), .val (.int eq), .val (.int pp), .val (.int qq), .val (.int lo), .val (.int hi), .val (.ref b7), .val (.int (eq - wq)), .val (.int ((eq - wq) + (23040 : Int32)))] [(.double (FP.i2d ((eq - wq) + (23040 : Int32)))), (.double (FP.dsub (FP.dadd (FP.ddiv (FP.i2d eq) (4634204016564240384 : UInt64)) (4645040803167600640 : UInt64)) (FP.ddiv (FP.i2d wq) (4634204016564240384 : UInt64))))])) rfl (hb hby at_144) _ ?_
      show Steps p.tables e below (T11.setTop (mkF m 147 #[.val (.int p1), .val (.int p2), .val (.int p3), .val (.int p4), .val (.int wq), .val (.int eq), .val (.int pp), .val (.int qq), .val (.int lo), .val (.int hi), .val (.ref b7), .val (.int (eq - wq)), .val (.int ((eq - wq) + (23040 : Int32)))] [(.double (4634204016564240384 : UInt64)), (.double (FP.i2d ((eq - wq) + (23040 : Int32)))), (.double (FP.dsub (FP.dadd (FP.ddiv (FP.i2d eq) (4634204016564240384 : UInt64)) (4645040803167600640 : UInt64)) (FP.ddiv (FP.i2d wq) (4634204016564240384 : UInt64))))])) _
      refine own_ddiv X11.here hx rfl (hb hby at_147) rfl (Own.num_of cx.fin) ?_
      show Steps p.tables e below (T11.setTop (mkF m 148 #[.val (.int p1), .val (.int p2), .val (.int p3), .val (.int p4), .val (.int wq), .val (.int eq), .val (.int pp), .val (.int qq), .val (.int lo), .val (.int hi), .val (.ref b7), .val (.int (eq - wq)), .val (.int ((eq - wq) + (23040 : Int32)))] [(.double (FP.ddiv (FP.i2d ((eq - wq) + (23040 : Int32))) (4634204016564240384 : UInt64))), (.double (FP.dsub (FP.dadd (FP.ddiv (FP.i2d eq) (4634204016564240384 : UInt64)) (4645040803167600640 : UInt64)) (FP.ddiv (FP.i2d wq) (4634204016564240384 : UInt64))))])) _
      refine own_dcmp X11.here hx rfl (hb hby at_148) rfl ?_
      show Steps p.tables e below (T11.setTop (mkF m 149 #[.val (.int p1), .val (.int p2), .val (.int p3), .val (.int p4), .val (.int wq), .val (.int eq), .val (.int pp), .val (.int qq), .val (.int lo), .val (.int hi), .val (.ref b7), .val (.int (eq - wq)), .val (.int ((eq - wq) + (23040 : Int32)))] [(.int (cmpValue (FP.dcmp (FP.dsub (FP.dadd (FP.ddiv (FP.i2d eq) (4634204016564240384 : UInt64)) (4645040803167600640 : UInt64)) (FP.ddiv (FP.i2d wq) (4634204016564240384 : UInt64))) (FP.ddiv (FP.i2d ((eq - wq) + (23040 : Int32))) (4634204016564240384 : UInt64))) .l))])) _
      refine XS.ifNo X11.here hx rfl (hb hby at_149) rfl ((if0 _ _).trans (teq ((by rw [Own.cv_eq hce] <;> decide) : (cmpValue (FP.dcmp (FP.dsub (FP.dadd (FP.ddiv (FP.i2d eq) (4634204016564240384 : UInt64)) (4645040803167600640 : UInt64)) (FP.ddiv (FP.i2d wq) (4634204016564240384 : UInt64))) (FP.ddiv (FP.i2d ((eq - wq) + (23040 : Int32))) (4634204016564240384 : UInt64))) .l) = (0 : Int32))).2) ?_
      show Steps p.tables e below (T11.setTop (mkF m 152 #[.val (.int p1), .val (.int p2), .val (.int p3), .val (.int p4), .val (.int wq), .val (.int eq), .val (.int pp), .val (.int qq), .val (.int lo), .val (.int hi), .val (.ref b7), .val (.int (eq - wq)), .val (.int ((eq - wq) + (23040 : Int32)))] [])) _
      refine XS.iconst X11.here hx rfl (hb hby at_152) ?_
      show Steps p.tables e below (T11.setTop (mkF m 153 #[.val (.int p1), .val (.int p2), .val (.int p3), .val (.int p4), .val (.int wq), .val (.int eq), .val (.int pp), .val (.int qq), .val (.int lo), .val (.int hi), .val (.ref b7), .val (.int (eq - wq)), .val (.int ((eq - wq) + (23040 : Int32)))] [(.int (1 : Int32))])) _
      refine XS.goto X11.here hx rfl (pc0 := 153) (pc' := 157) rfl (hb hby at_153) (by decide) (by decide) ?_
      exact kt
    refine GoW.adv sg12 ?_
    refine GoW.ret (v := (some (.int (1 : Int32)))) X11 hS9 (by rw [e11]; exact (Nat.le_refl _)) (fun h => by rw [Bd.returns] at h; cases h) Bd.notSynchronized (fun fs hr => retN X11 hx (t := .boolean) Bd.returns (by simp) (hb hby at_157) hr) ?_ (by decide) (by decide)
    show Q_rm0 Z p1 p2 p3 p4 h0 n0 (some (.int (1 : Int32))) T11.heap _
    rw [e11]
    exact ⟨rfl, N11⟩
  · have hlt2 : ¬ eq.toInt < wq.toInt := fun z => hlt (Int32.lt_iff_toInt_lt.mpr (by rw [hd]; show _ < 0; omega))
    have hx1 := own_cross_b (fun z => hlt2 (hcv.mp z))
    have he := hd
    have cx := own_q (eq - wq) (by rw [he]; omega)
    rw [he] at cx
    have hwd := own_width_a (by rw [hx1] <;> decide)
    have hce := own_ceq d1 cx
    have sg13 : ∀ t, Steps p.tables e below (T9.setTop (mkF m 138 #[.val (.int p1), .val (.int p2), .val (.int p3), .val (.int p4), .val (.int wq), .val (.int eq), .val (.int pp), .val (.int qq), .val (.int lo), .val (.int hi), .val (.ref b7), .val (.int (eq - wq)), .val (.int (eq - wq))] [(.ref b7)])) t → Steps p.tables e below (T9.setTop (mkF m 109 #[.val (.int p1), .val (.int p2), .val (.int p3), .val (.int p4), .val (.int wq), .val (.int eq), .val (.int pp), .val (.int qq), .val (.int lo), .val (.int hi), .unset, .unset, .unset] [(.ref b7)])) t := by
      intro t kt
      show Steps p.tables e below (T9.setTop (mkF m 109 #[.val (.int p1), .val (.int p2), .val (.int p3), .val (.int p4), .val (.int wq), .val (.int eq), .val (.int pp), .val (.int qq), .val (.int lo), .val (.int hi), .unset, .unset, .unset] [(.ref b7)])) _
      refine XS.astore X9.here hx rfl (hb hby at_109) rfl rfl (l' := #[.val (.int p1), .val (.int p2), .val (.int p3), .val (.int p4), .val (.int wq), .val (.int eq), .val (.int pp), .val (.int qq), .val (.int lo), .val (.int hi), .val (.ref b7), .unset, .unset]) rfl ?_
      show Steps p.tables e below (T9.setTop (mkF m 111 #[.val (.int p1), .val (.int p2), .val (.int p3), .val (.int p4), .val (.int wq), .val (.int eq), .val (.int pp), .val (.int qq), .val (.int lo), .val (.int hi), .val (.ref b7), .unset, .unset] [])) _
      refine XS.iload X9.here hx rfl (hb hby at_111) rfl ?_
      show Steps p.tables e below (T9.setTop (mkF m 113 #[.val (.int p1), .val (.int p2), .val (.int p3), .val (.int p4), .val (.int wq), .val (.int eq), .val (.int pp), .val (.int qq), .val (.int lo), .val (.int hi), .val (.ref b7), .unset, .unset] [(.int eq)])) _
      refine XS.iload X9.here hx rfl (hb hby at_113) rfl ?_
      show Steps p.tables e below (T9.setTop (mkF m 115 #[.val (.int p1), .val (.int p2), .val (.int p3), .val (.int p4), .val (.int wq), .val (.int eq), .val (.int pp), .val (.int qq), .val (.int lo), .val (.int hi), .val (.ref b7), .unset, .unset] [(.int wq), (.int eq)])) _
      refine XS.isub X9.here hx rfl (hb hby at_115) rfl ?_
      show Steps p.tables e below (T9.setTop (mkF m 116 #[.val (.int p1), .val (.int p2), .val (.int p3), .val (.int p4), .val (.int wq), .val (.int eq), .val (.int pp), .val (.int qq), .val (.int lo), .val (.int hi), .val (.ref b7), .unset, .unset] [(.int (eq - wq))])) _
      refine XS.istore X9.here hx rfl (hb hby at_116) rfl (l' := #[.val (.int p1), .val (.int p2), .val (.int p3), .val (.int p4), .val (.int wq), .val (.int eq), .val (.int pp), .val (.int qq), .val (.int lo), .val (.int hi), .val (.ref b7), .val (.int (eq - wq)), .unset]) rfl ?_
      show Steps p.tables e below (T9.setTop (mkF m 118 #[.val (.int p1), .val (.int p2), .val (.int p3), .val (.int p4), .val (.int wq), .val (.int eq), .val (.int pp), .val (.int qq), .val (.int lo), .val (.int hi), .val (.ref b7), .val (.int (eq - wq)), .unset] [])) _
      refine XS.iload X9.here hx rfl (hb hby at_118) rfl ?_
      show Steps p.tables e below (T9.setTop (mkF m 120 #[.val (.int p1), .val (.int p2), .val (.int p3), .val (.int p4), .val (.int wq), .val (.int eq), .val (.int pp), .val (.int qq), .val (.int lo), .val (.int hi), .val (.ref b7), .val (.int (eq - wq)), .unset] [(.int (eq - wq))])) _
      refine XS.ifYes X9.here hx rfl (pc0 := 120) (pc' := 132) rfl (hb hby at_120) rfl ((if0 _ _).trans (flt (hlt : ¬ ((eq - wq) < (0 : Int32)))).2.1) (by decide) (by decide) ?_
      show Steps p.tables e below (T9.setTop (mkF m 132 #[.val (.int p1), .val (.int p2), .val (.int p3), .val (.int p4), .val (.int wq), .val (.int eq), .val (.int pp), .val (.int qq), .val (.int lo), .val (.int hi), .val (.ref b7), .val (.int (eq - wq)), .unset] [])) _
      refine XS.iload X9.here hx rfl (hb hby at_132) rfl ?_
      show Steps p.tables e below (T9.setTop (mkF m 134 #[.val (.int p1), .val (.int p2), .val (.int p3), .val (.int p4), .val (.int wq), .val (.int eq), .val (.int pp), .val (.int qq), .val (.int lo), .val (.int hi), .val (.ref b7), .val (.int (eq - wq)), .unset] [(.int (eq - wq))])) _
      refine XS.istore X9.here hx rfl (hb hby at_134) rfl (l' := #[.val (.int p1), .val (.int p2), .val (.int p3), .val (.int p4), .val (.int wq), .val (.int eq), .val (.int pp), .val (.int qq), .val (.int lo), .val (.int hi), .val (.ref b7), .val (.int (eq - wq)), .val (.int (eq - wq))]) rfl ?_
      show Steps p.tables e below (T9.setTop (mkF m 136 #[.val (.int p1), .val (.int p2), .val (.int p3), .val (.int p4), .val (.int wq), .val (.int eq), .val (.int pp), .val (.int qq), .val (.int lo), .val (.int hi), .val (.ref b7), .val (.int (eq - wq)), .val (.int (eq - wq))] [])) _
      refine XS.aload X9.here hx rfl (hb hby at_136) rfl rfl ?_
      exact kt
    refine GoW.adv sg13 ?_
    obtain ⟨cq14, kq14, q14a, q14b, q14c⟩ := isOf hZ9 rfl p9_0
    obtain ⟨_, _, ⟨T14, L14, k14, n14⟩, -, X14, ⟨Lc14, hQ14, l14, y14, z14⟩, st14⟩ := X9.virtualBack hx (y := (⟨"com/example/ostra/ostra/core/Box", "width", "()D"⟩ : MethodName)) (z := (⟨"com/example/ostra/ostra/core/Box", "width", "()D"⟩ : MethodName)) hown9 (mvT hZ9 (hw _ (List.mem_of_getElem? (i := 45) rfl))) (mvT hZ9 (hw _ (List.mem_of_getElem? (i := 46) rfl))) (notFace_of_selects (args := #[]) (mvT hZ9 (hw _ (List.mem_of_getElem? (i := 48) rfl)))) (mvT hZ9 (hw _ (List.mem_of_getElem? (i := 48) rfl))) (mvT hZ9 (hw _ (List.mem_of_getElem? (i := 47) rfl))) (by decide) (backOf (W := 0) (rm_width l Z a0 hw [] b7 (FP.ddiv (FP.i2d wq) (4634204016564240384 : UInt64)) (FP.ddiv (FP.i2d eq) (4634204016564240384 : UInt64)) T9.heap n0 Z9 p9_0 p9_1 p9_3 ⟨Own.num_of d1.fin, Own.num_of d2.fin, Own.num_of d3.fin⟩) hZ9 (hw _ (List.mem_of_getElem? (i := 49) rfl)) (hw _ (List.mem_of_getElem? (i := 10) rfl)) (by decide) (by decide)) q14a q14c (g := (mkF m 138 #[.val (.int p1), .val (.int p2), .val (.int p3), .val (.int p4), .val (.int wq), .val (.int eq), .val (.int pp), .val (.int qq), .val (.int lo), .val (.int hi), .val (.ref b7), .val (.int (eq - wq)), .val (.int (eq - wq))] [(.ref b7)])) rfl (by rw [hml]; rfl) (Steps.refl _) (argsL := []) (rest := []) (lenOf pd_ocD rfl) rfl (by show 2 * 0 + _ ≤ _; exact Nat.le_of_eq rfl) (hb hby at_138) (fun _ _ => ⟨rfl, rfl, (by decide : 9 + 0 ≤ _), (by decide : 92 + 0 ≤ _)⟩)
    dsimp only [Pt.U, Pt.locs, Pt.cells, Pt.slots] at X14 l14 y14 z14 st14 hQ14
    subst l14 y14 z14
    obtain ⟨rfl, N14q, e14⟩ := hQ14
    have N14 := Fr.app N9 N14q
    refine GoW.tr st14 ?_
    show GoW p.tables e below s _ _ _ (T14.setTop (mkF m 141 #[.val (.int p1), .val (.int p2), .val (.int p3), .val (.int p4), .val (.int wq), .val (.int eq), .val (.int pp), .val (.int qq), .val (.int lo), .val (.int hi), .val (.ref b7), .val (.int (eq - wq)), .val (.int (eq - wq))] [(.double (own_width (FP.ddiv (FP.i2d wq) (4634204016564240384 : UInt64)) (FP.ddiv (FP.i2d eq) (4634204016564240384 : UInt64))))]))
    rw [hwd]
    show GoW p.tables e below s _ _ _ (T14.setTop (mkF m 141 #[.val (.int p1), .val (.int p2), .val (.int p3), .val (.int p4), .val (.int wq), .val (.int eq), .val (.int pp), .val (.int qq), .val (.int lo), .val (.int hi), .val (.ref b7), .val (.int (eq - wq)), .val (.int (eq - wq))] [(.double (FP.dsub (FP.ddiv (FP.i2d eq) (4634204016564240384 : UInt64)) (FP.ddiv (FP.i2d wq) (4634204016564240384 : UInt64))))]))
    have sg15 : ∀ t, Steps p.tables e below (T14.setTop (mkF m 157 #[.val (.int p1), .val (.int p2), .val (.int p3), .val (.int p4), .val (.int wq), .val (.int eq), .val (.int pp), .val (.int qq), .val (.int lo), .val (.int hi), .val (.ref b7), .val (.int (eq - wq)), .val (.int (eq - wq))] [(.int (1 : Int32))])) t → Steps p.tables e below (T14.setTop (mkF m 141 #[.val (.int p1), .val (.int p2), .val (.int p3), .val (.int p4), .val (.int wq), .val (.int eq), .val (.int pp), .val (.int qq), .val (.int lo), .val (.int hi), .val (.ref b7), .val (.int (eq - wq)), .val (.int (eq - wq))] [(.double (FP.dsub (FP.ddiv (FP.i2d eq) (4634204016564240384 : UInt64)) (FP.ddiv (FP.i2d wq) (4634204016564240384 : UInt64))))])) t := by
      intro t kt
      show Steps p.tables e below (T14.setTop (mkF m 141 #[.val (.int p1), .val (.int p2), .val (.int p3), .val (.int p4), .val (.int wq), .val (.int eq), .val (.int pp), .val (.int qq), .val (.int lo), .val (.int hi), .val (.ref b7), .val (.int (eq - wq)), .val (.int (eq - wq))] [(.double (FP.dsub (FP.ddiv (FP.i2d eq) (4634204016564240384 : UInt64)) (FP.ddiv (FP.i2d wq) (4634204016564240384 : UInt64))))])) _
      refine XS.iload X14.here hx rfl (hb hby at_141) rfl ?_
      show Steps p.tables e below (T14.setTop (mkF m 143 #[.val (.int p1), .val (.int p2), .val (.int p3), .val (.int p4), .val (.int wq), .val (.int eq), .val (.int pp), .val (.int qq), .val (.int lo), .val (.int hi), .val (.ref b7), .val (.int (eq - wq)), .val (.int (eq - wq))] [(.int (eq - wq)), (.double (FP.dsub (FP.ddiv (FP.i2d eq) (4634204016564240384 : UInt64)) (FP.ddiv (FP.i2d wq) (4634204016564240384 : UInt64))))])) _
      refine own_i2d X14.here hx rfl (hb hby at_143) rfl ?_
      show Steps p.tables e below (T14.setTop (mkF m 144 #[.val (.int p1), .val (.int p2), .val (.int p3), .val (.int p4), .val (.int wq), .val (.int eq), .val (.int pp), .val (.int qq), .val (.int lo), .val (.int hi), .val (.ref b7), .val (.int (eq - wq)), .val (.int (eq - wq))] [(.double (FP.i2d (eq - wq))), (.double (FP.dsub (FP.ddiv (FP.i2d eq) (4634204016564240384 : UInt64)) (FP.ddiv (FP.i2d wq) (4634204016564240384 : UInt64))))])) _
      refine X14.ldc2DoubleC hx hown9 (mvT hZ9 (hw _ (List.mem_of_getElem? (i := 11) rfl))) (g := (mkF m 144 #[.val (.int p1), .val (.int p2), .val (.int p3), .val (.int p4), .val (.int wq), .val (.int eq), .val (.int pp), .val (.int qq), .val (.int lo), .val (.int hi), .val (.ref b7), .val (.int (eq - wq)), .val (.int (eq - wq))] [(.double (FP.i2d (eq - wq))), (.double (FP.dsub (FP.ddiv (FP.i2d eq) (4634204016564240384 : UInt64)) (FP.ddiv (FP.i2d wq) (4634204016564240384 : UInt64))))])) rfl (hb hby at_144) _ ?_
      show Steps p.tables e below (T14.setTop (mkF m 147 #[.val (.int p1), .val (.int p2), .val (.int p3), .val (.int p4), .val (.int wq), .val (.int eq), .val (.int pp), .val (.int qq), .val (.int lo), .val (.int hi), .val (.ref b7), .val (.int (eq - wq)), .val (.int (eq - wq))] [(.double (4634204016564240384 : UInt64)), (.double (FP.i2d (eq - wq))), (.double (FP.dsub (FP.ddiv (FP.i2d eq) (4634204016564240384 : UInt64)) (FP.ddiv (FP.i2d wq) (4634204016564240384 : UInt64))))])) _
      refine own_ddiv X14.here hx rfl (hb hby at_147) rfl (Own.num_of cx.fin) ?_
      show Steps p.tables e below (T14.setTop (mkF m 148 #[.val (.int p1), .val (.int p2), .val (.int p3), .val (.int p4), .val (.int wq), .val (.int eq), .val (.int pp), .val (.int qq), .val (.int lo), .val (.int hi), .val (.ref b7), .val (.int (eq - wq)), .val (.int (eq - wq))] [(.double (FP.ddiv (FP.i2d (eq - wq)) (4634204016564240384 : UInt64))), (.double (FP.dsub (FP.ddiv (FP.i2d eq) (4634204016564240384 : UInt64)) (FP.ddiv (FP.i2d wq) (4634204016564240384 : UInt64))))])) _
      refine own_dcmp X14.here hx rfl (hb hby at_148) rfl ?_
      show Steps p.tables e below (T14.setTop (mkF m 149 #[.val (.int p1), .val (.int p2), .val (.int p3), .val (.int p4), .val (.int wq), .val (.int eq), .val (.int pp), .val (.int qq), .val (.int lo), .val (.int hi), .val (.ref b7), .val (.int (eq - wq)), .val (.int (eq - wq))] [(.int (cmpValue (FP.dcmp (FP.dsub (FP.ddiv (FP.i2d eq) (4634204016564240384 : UInt64)) (FP.ddiv (FP.i2d wq) (4634204016564240384 : UInt64))) (FP.ddiv (FP.i2d (eq - wq)) (4634204016564240384 : UInt64))) .l))])) _
      refine XS.ifNo X14.here hx rfl (hb hby at_149) rfl ((if0 _ _).trans (teq ((by rw [Own.cv_eq hce] <;> decide) : (cmpValue (FP.dcmp (FP.dsub (FP.ddiv (FP.i2d eq) (4634204016564240384 : UInt64)) (FP.ddiv (FP.i2d wq) (4634204016564240384 : UInt64))) (FP.ddiv (FP.i2d (eq - wq)) (4634204016564240384 : UInt64))) .l) = (0 : Int32))).2) ?_
      show Steps p.tables e below (T14.setTop (mkF m 152 #[.val (.int p1), .val (.int p2), .val (.int p3), .val (.int p4), .val (.int wq), .val (.int eq), .val (.int pp), .val (.int qq), .val (.int lo), .val (.int hi), .val (.ref b7), .val (.int (eq - wq)), .val (.int (eq - wq))] [])) _
      refine XS.iconst X14.here hx rfl (hb hby at_152) ?_
      show Steps p.tables e below (T14.setTop (mkF m 153 #[.val (.int p1), .val (.int p2), .val (.int p3), .val (.int p4), .val (.int wq), .val (.int eq), .val (.int pp), .val (.int qq), .val (.int lo), .val (.int hi), .val (.ref b7), .val (.int (eq - wq)), .val (.int (eq - wq))] [(.int (1 : Int32))])) _
      refine XS.goto X14.here hx rfl (pc0 := 153) (pc' := 157) rfl (hb hby at_153) (by decide) (by decide) ?_
      exact kt
    refine GoW.adv sg15 ?_
    refine GoW.ret (v := (some (.int (1 : Int32)))) X14 hS9 (by rw [e14]; exact (Nat.le_refl _)) (fun h => by rw [Bd.returns] at h; cases h) Bd.notSynchronized (fun fs hr => retN X14 hx (t := .boolean) Bd.returns (by simp) (hb hby at_157) hr) ?_ (by decide) (by decide)
    show Q_rm0 Z p1 p2 p3 p4 h0 n0 (some (.int (1 : Int32))) T14.heap _
    rw [e14]
    exact ⟨rfl, N14⟩
set_option maxRecDepth 65536 in
set_option maxHeartbeats 40000000 in
theorem comes_1 {Post : Tables → Env → Array Value → State → Outcome → State → Prop} (hpost : ∀ tb e args s v u, (limb_1_1.after args s (.returned v) u = true ∧ limb_1_2.after args s (.returned v) u = true ∧ True) → ReturnedEndW s (.returned v) u (Jvm.fieldLocs frame_1_writes args s ++ Jvm.arrayLocs frame_1_arrays args s ++ Jvm.staticLocs frame_1_statics s) 24 4224 → Post tb e args s (.returned v) u) :
    ArmFor flags0 classFile x code maxLocals ret World_1 tables_1 room_1 Calls_1 rest_1 Pre_1 Post := by
  intro l hfl _ _ p e ha hc hk s m args below hf hA hF happ hP
  obtain ⟨hcalls, hrest, hpre⟩ := hP
  obtain ⟨-, -, -, hnamed, -, -, -, hat⟩ := (Spec.applies_iff hf).mp happ
  obtain ⟨hg, hn⟩ := and_e (Cond.before_iff.mp (show (Jvm.Cond.and given_1 narrow_1).before args s = true from hpre))
  obtain ⟨g1, g2⟩ := and_e hg
  obtain ⟨g3, g4⟩ := and_e g2
  obtain ⟨g5, g6⟩ := and_e g4
  obtain ⟨g7, g8⟩ := and_e g6
  obtain ⟨w0, w1, w2, w3, rfl⟩ : ∃ w0 w1 w2 w3 : Value, args = #[w0, w1, w2, w3] := by
    have hs : args.size = 4 := by simpa [Cond.value, given_1] using g1
    obtain ⟨L⟩ := args
    match L, hs with
    | [w0, w1, w2, w3], _ => exact ⟨w0, w1, w2, w3, rfl⟩
  have hw := fun d (hd : d ∈ tables_1) => atoms_spec (ws := Jvm.Cond.code x code maxLocals ret :: tables_1) hat d (List.mem_cons_of_mem _ hd)
  have hfit : Fit s := fun {y c} hc i hi => by
    obtain ⟨ha, rfl⟩ := Array.getElem?_eq_some_iff.mp hc
    have q := List.all_eq_true.mp ((Array.all_eq_true_iff_forall_mem.mp hF) _ (Array.getElem_mem ha)) i (List.mem_range.mpr hi)
    simpa [Array.getElem?_eq_getElem hi] using q
  obtain ⟨i0, ei0⟩ := is_v g3
  obtain rfl : w0 = (.int i0) := Option.some.inj ei0
  obtain ⟨i1, ei1⟩ := is_v g5
  obtain rfl : w1 = (.int i1) := Option.some.inj ei1
  obtain ⟨i2, ei2⟩ := is_v g7
  obtain rfl : w2 = (.int i2) := Option.some.inj ei2
  obtain ⟨i3, ei3⟩ := is_v g8
  obtain rfl : w3 = (.int i3) := Option.some.inj ei3
  obtain ⟨n, o, h1, h2, h3, _, L, rfl, ⟨rfl, N⟩, hq⟩ := rm0 l s _ hw tables_1 i0 i1 i2 i3  s.heap s.heap.size (Nat.le_refl _)  p e ha hc hk s m _ below hf ((Spec.applies_iff_loose hf).mp happ).1 ⟨rfl, State.Warmed39.refl s, rfl⟩ trivial
  refine ⟨n, _, h1, h2, h3, hpost _ _ _ _ _ _ ⟨Cond.after_iff.mpr rfl, Cond.after_iff.mpr (eq_i res_at (Term.int_eval (1)) rfl), trivial⟩ ⟨hq.1, hq.2.1, hq.2.2.1, (hq.2.2.2.sift fun y hy => Or.inr (N y hy)).mono (by decide) (by decide)⟩⟩
theorem main_1_1 : Claimed_1_1 := comes_1 fun _ _ _ _ _ _ h hF => ⟨h.1, hF⟩
theorem main_1_2 : Claimed_1_2 := comes_1 fun _ _ _ _ _ _ h hF => ⟨h.2.1, hF⟩
end Jvm.Pilot.@@N@@
namespace Jvm.Pilot.@@N@@
open Jvm Jvm.ClassFile Sem Op Lib Jvm.Free Jvm.Stand Jvm.Pilot.@@N@@.Jvm.D
/-! MADE BY PROGRAM (witnessworld.py) out of the Statement's table words and the real class files: 16 classes; the members and pool entries that the words name. The judged class is class 1, her method 1. -/
namespace start1
open Jvm.ClassFile
def u (s : String) : CpInfo := .utf8 (stringToUtf16 s)
/-- a pool by its gaps: so many unusable entries, then the entry; so many at the end -/
def gap : Nat → List CpInfo → List CpInfo
  | 0, r => r
  | n + 1, r => .unusable :: gap n r
def poolList (es : List (Nat × CpInfo)) (last : Nat) : List CpInfo := es.foldr (fun e r => gap e.1 (e.2 :: r)) (gap last [])
def pool (es : List (Nat × CpInfo)) (last : Nat) : Array CpInfo := ⟨poolList es last⟩
def fileOf (pool : Array CpInfo) (this : Nat) (attrs : Array Attribute := #[]) (ms : Array MethodInfo := #[]) (fl : Nat := 33) (sup : Nat := 0) (ifs : Array Nat := #[]) (fds : Array FieldInfo := #[]) : ClassFile where
  minorVersion := 0
  majorVersion := 65
  constantPool := pool
  accessFlags := fl
  thisClass := this
  superClass := sup
  interfaces := ifs
  fields := fds
  methods := ms
  attributes := attrs
def plain (name : String) (sup : Option ClassId) : Class where
  name := name
  kind := .ordinary
  loader := none
  accessFlags := 33
  super := sup
  interfaces := #[]
  cf := none
  fields := #[]
  methods := #[]
  instanceTypes := #[]
  staticTypes := #[]
  resolved := #[]
  callSites := []
  init := .initialized
  statics := none
  mirror := none

def pool0 : Array CpInfo := pool [(5, u "<init>"), (0, u "()V"), (1, .class_ 10), (1, u "java/lang/Object")] 113

def k0c0 : Code := { maxStack := 0, maxLocals := 1, code := object_method_1_code, exceptionTable := #[], attributes := #[] }
def k0m0 : Method := { name := "<init>", desc := "()V", sig := { parameters := [], returnType := none }, accessFlags := 1, code := some k0c0 }
/-- java/lang/Object -/
def k0 : Class := { plain "java/lang/Object" none with
  accessFlags := 33
  interfaces := #[]
  cf := some (fileOf pool0 8 #[] #[{ accessFlags := 1, nameIndex := 5, descriptorIndex := 6, attributes := #[] }] 33 0 #[] #[])
  fields := #[]
  methods := #[k0m0]
  instanceTypes := #[]
  staticTypes := #[]
  resolved := Array.replicate 124 none
  statics := none }

def pool1 : Array CpInfo := pool [(2, .class_ 4), (1, u "java/lang/Object"), (0, u "<init>"), (0, u "()V"), (0, .integer 2147483647), (0, .methodref 9 10), (0, .class_ 11), (0, .nameAndType 12 13), (0, u "java/lang/Math"), (0, u "min"), (0, u "(II)I"), (0, .methodref 9 15), (0, .nameAndType 16 13), (0, u "max"), (0, .class_ 18), (0, u "com/example/ostra/ostra/core/Box"), (0, .double 4634204016564240384), (1, .methodref 17 22), (0, .nameAndType 5 23), (0, u "(DDDD)V"), (0, .methodref 17 25), (0, .nameAndType 26 27), (0, u "width"), (0, u "()D"), (0, .class_ 29), (0, u "com/example/ostra/ostra/core/BoxWidthPinLaw"), (2, u "law"), (0, u "(IIII)Z")] 3

def k1m0 : Method := { name := "<init>", desc := "()V", sig := { parameters := [], returnType := none }, accessFlags := 1, code := none }
def k1c1 : Code := { maxStack := 12, maxLocals := 13, code := code, exceptionTable := #[], attributes := #[] }
def k1m1 : Method := { name := "law", desc := "(IIII)Z", sig := { parameters := [.int, .int, .int, .int], returnType := some .boolean }, accessFlags := 9, code := some k1c1 }
/-- com/example/ostra/ostra/core/BoxWidthPinLaw -/
def k1 : Class := { plain "com/example/ostra/ostra/core/BoxWidthPinLaw" (some 0) with
  accessFlags := 49
  interfaces := #[]
  cf := some (fileOf pool1 28 #[] #[{ accessFlags := 1, nameIndex := 5, descriptorIndex := 6, attributes := #[] }, { accessFlags := 9, nameIndex := 32, descriptorIndex := 33, attributes := #[] }] 49 2 #[] #[])
  fields := #[]
  methods := #[k1m0, k1m1]
  instanceTypes := #[]
  staticTypes := #[]
  resolved := Array.replicate 37 none
  statics := none }

def pool2 : Array CpInfo := pool [(1, .class_ 2), (0, u "java/lang/Math"), (1, .class_ 6), (1, u "java/lang/Object"), (0, u "<init>"), (0, u "()V"), (89, .class_ 100), (1, u "java/lang/Math$RandomNumberGeneratorHolder"), (71, u "negativeZeroFloatBits"), (0, u "J"), (2, u "negativeZeroDoubleBits"), (21, u "max"), (2, u "min"), (43, u "$assertionsDisabled"), (0, u "Z"), (88, u "(II)I"), (2, u "twoToTheDoubleScaleDown"), (0, u "D"), (4, u "twoToTheDoubleScaleUp"), (9, u "E"), (3, u "PI"), (2, u "TAU"), (2, u "DEGREES_TO_RADIANS"), (0, u "RADIANS_TO_DEGREES")] 94

def k2m0 : Method := { name := "<init>", desc := "()V", sig := { parameters := [], returnType := none }, accessFlags := 2, code := none }
def k2c1 : Code := { maxStack := 2, maxLocals := 2, code := jdk_29_method_65_code, exceptionTable := #[], attributes := #[] }
def k2m1 : Method := { name := "max", desc := "(II)I", sig := { parameters := [.int, .int], returnType := some .int }, accessFlags := 9, code := some k2c1 }
def k2c2 : Code := { maxStack := 2, maxLocals := 2, code := jdk_29_method_69_code, exceptionTable := #[], attributes := #[] }
def k2m2 : Method := { name := "min", desc := "(II)I", sig := { parameters := [.int, .int], returnType := some .int }, accessFlags := 9, code := some k2c2 }
/-- java/lang/Math -/
def k2 : Class := { plain "java/lang/Math" (some 0) with
  accessFlags := 49
  interfaces := #[]
  cf := some (fileOf pool2 1 #[.nestMembers #[98]] #[{ accessFlags := 2, nameIndex := 7, descriptorIndex := 8, attributes := #[] }, { accessFlags := 9, nameIndex := 198, descriptorIndex := 335, attributes := #[] }, { accessFlags := 9, nameIndex := 201, descriptorIndex := 335, attributes := #[] }] 49 4 #[] #[{ accessFlags := 25, nameIndex := 354, descriptorIndex := 339, attributes := #[] }, { accessFlags := 25, nameIndex := 358, descriptorIndex := 339, attributes := #[] }, { accessFlags := 25, nameIndex := 361, descriptorIndex := 339, attributes := #[] }, { accessFlags := 26, nameIndex := 364, descriptorIndex := 339, attributes := #[] }, { accessFlags := 26, nameIndex := 365, descriptorIndex := 339, attributes := #[] }, { accessFlags := 26, nameIndex := 172, descriptorIndex := 173, attributes := #[] }, { accessFlags := 26, nameIndex := 176, descriptorIndex := 173, attributes := #[] }, { accessFlags := 8, nameIndex := 344, descriptorIndex := 339, attributes := #[] }, { accessFlags := 8, nameIndex := 338, descriptorIndex := 339, attributes := #[] }, { accessFlags := 4120, nameIndex := 245, descriptorIndex := 246, attributes := #[] }])
  fields := #[{ name := "E", type := .double, accessFlags := 25, slot := 0, constantValue := 0 }, { name := "PI", type := .double, accessFlags := 25, slot := 1, constantValue := 0 }, { name := "TAU", type := .double, accessFlags := 25, slot := 2, constantValue := 0 }, { name := "DEGREES_TO_RADIANS", type := .double, accessFlags := 26, slot := 3, constantValue := 0 }, { name := "RADIANS_TO_DEGREES", type := .double, accessFlags := 26, slot := 4, constantValue := 0 }, { name := "negativeZeroFloatBits", type := .long, accessFlags := 26, slot := 5, constantValue := 0 }, { name := "negativeZeroDoubleBits", type := .long, accessFlags := 26, slot := 6, constantValue := 0 }, { name := "twoToTheDoubleScaleUp", type := .double, accessFlags := 8, slot := 7, constantValue := 0 }, { name := "twoToTheDoubleScaleDown", type := .double, accessFlags := 8, slot := 8, constantValue := 0 }, { name := "$assertionsDisabled", type := .boolean, accessFlags := 4120, slot := 9, constantValue := 0 }]
  methods := #[k2m0, k2m1, k2m2]
  instanceTypes := #[]
  staticTypes := #[.double, .double, .double, .double, .double, .long, .long, .double, .double, .boolean]
  resolved := Array.replicate 460 none
  statics := none }

def pool3 : Array CpInfo := pool [(1, .methodref 2 3), (0, .class_ 4), (0, .nameAndType 5 6), (0, u "java/lang/Object"), (0, u "<init>"), (0, u "()V"), (0, .class_ 8), (0, u "java/lang/Record")] 13

def k3c0 : Code := { maxStack := 1, maxLocals := 1, code := jdk_30_method_1_code, exceptionTable := #[], attributes := #[] }
def k3m0 : Method := { name := "<init>", desc := "()V", sig := { parameters := [], returnType := none }, accessFlags := 4, code := some k3c0 }
/-- java/lang/Record -/
def k3 : Class := { plain "java/lang/Record" (some 0) with
  accessFlags := 1057
  interfaces := #[]
  cf := some (fileOf pool3 7 #[] #[{ accessFlags := 4, nameIndex := 5, descriptorIndex := 6, attributes := #[] }] 1057 2 #[] #[])
  fields := #[]
  methods := #[k3m0]
  instanceTypes := #[]
  staticTypes := #[]
  resolved := Array.replicate 22 none
  statics := none }

def pool4 : Array CpInfo := pool [(1, .methodref 2 3), (0, .class_ 4), (0, .nameAndType 5 6), (0, u "java/lang/Record"), (0, u "<init>"), (0, u "()V"), (0, .string 8), (0, u "west"), (0, .methodref 10 11), (0, .class_ 12), (0, .nameAndType 13 14), (0, u "com/example/ostra/ostra/core/Box"), (0, u "requireWithin"), (0, u "(Ljava/lang/String;DI)V"), (0, .string 16), (0, u "south"), (0, .string 18), (0, u "east"), (0, .string 20), (0, u "north"), (9, .fieldref 10 31), (0, .nameAndType 8 32), (0, u "D"), (0, .fieldref 10 34), (0, .nameAndType 16 32), (0, .fieldref 10 36), (0, .nameAndType 18 32), (0, .fieldref 10 38), (0, .nameAndType 20 32), (2, u "(DDDD)V"), (41, u "()D"), (11, .methodref 10 96), (0, .nameAndType 97 98), (0, u "crossesAntimeridian"), (0, u "()Z"), (7, .double 4645040803167600640), (27, u "width")] 41

def k4c0 : Code := { maxStack := 6, maxLocals := 9, code := prog_4_method_1_code, exceptionTable := #[], attributes := #[] }
def k4m0 : Method := { name := "<init>", desc := "(DDDD)V", sig := { parameters := [.double, .double, .double, .double], returnType := none }, accessFlags := 1, code := some k4c0 }
def k4c1 : Code := { maxStack := 4, maxLocals := 1, code := prog_4_method_9_code, exceptionTable := #[], attributes := #[] }
def k4m1 : Method := { name := "crossesAntimeridian", desc := "()Z", sig := { parameters := [], returnType := some .boolean }, accessFlags := 1, code := some k4c1 }
def k4c2 : Code := { maxStack := 4, maxLocals := 1, code := prog_4_method_10_code, exceptionTable := #[], attributes := #[] }
def k4m2 : Method := { name := "width", desc := "()D", sig := { parameters := [], returnType := some .double }, accessFlags := 1, code := some k4c2 }
def k4c3 : Code := { maxStack := 7, maxLocals := 4, code := prog_4_method_11_code, exceptionTable := #[], attributes := #[] }
def k4m3 : Method := { name := "requireWithin", desc := "(Ljava/lang/String;DI)V", sig := { parameters := [(.object "java/lang/String"), .double, .int], returnType := none }, accessFlags := 10, code := some k4c3 }
/-- com/example/ostra/ostra/core/Box -/
def k4 : Class := { plain "com/example/ostra/ostra/core/Box" (some 3) with
  accessFlags := 49
  interfaces := #[]
  cf := some (fileOf pool4 10 #[] #[{ accessFlags := 1, nameIndex := 5, descriptorIndex := 41, attributes := #[] }, { accessFlags := 1, nameIndex := 97, descriptorIndex := 98, attributes := #[] }, { accessFlags := 1, nameIndex := 134, descriptorIndex := 83, attributes := #[] }, { accessFlags := 10, nameIndex := 13, descriptorIndex := 14, attributes := #[] }] 49 2 #[] #[{ accessFlags := 18, nameIndex := 8, descriptorIndex := 32, attributes := #[] }, { accessFlags := 18, nameIndex := 16, descriptorIndex := 32, attributes := #[] }, { accessFlags := 18, nameIndex := 18, descriptorIndex := 32, attributes := #[] }, { accessFlags := 18, nameIndex := 20, descriptorIndex := 32, attributes := #[] }])
  fields := #[{ name := "west", type := .double, accessFlags := 18, slot := 0, constantValue := 0 }, { name := "south", type := .double, accessFlags := 18, slot := 1, constantValue := 0 }, { name := "east", type := .double, accessFlags := 18, slot := 2, constantValue := 0 }, { name := "north", type := .double, accessFlags := 18, slot := 3, constantValue := 0 }]
  methods := #[k4m0, k4m1, k4m2, k4m3]
  instanceTypes := #[.double, .double, .double, .double]
  staticTypes := #[]
  resolved := Array.replicate 176 none
  statics := none }

def pool5 : Array CpInfo := pool [(1, .class_ 2), (0, u "java/io/Serializable"), (0, .class_ 4), (0, u "java/lang/Object")] 2

/-- java/io/Serializable -/
def k5 : Class := { plain "java/io/Serializable" (some 0) with
  accessFlags := 1537
  interfaces := #[]
  cf := some (fileOf pool5 1 #[] #[] 1537 3 #[] #[])
  fields := #[]
  methods := #[]
  instanceTypes := #[]
  staticTypes := #[]
  resolved := Array.replicate 7 none
  statics := none }

def pool6 : Array CpInfo := pool [(1, .class_ 2), (0, u "java/lang/Comparable"), (0, .class_ 4), (0, u "java/lang/Object")] 7

/-- java/lang/Comparable -/
def k6 : Class := { plain "java/lang/Comparable" (some 0) with
  accessFlags := 1537
  interfaces := #[]
  cf := some (fileOf pool6 1 #[] #[] 1537 3 #[] #[])
  fields := #[]
  methods := #[]
  instanceTypes := #[]
  staticTypes := #[]
  resolved := Array.replicate 12 none
  statics := none }

def pool7 : Array CpInfo := pool [(2, .class_ 4), (1, u "java/lang/CharSequence"), (42, .class_ 48), (0, u "java/lang/CharSequence$1CodePointIterator"), (10, .class_ 60), (0, u "java/lang/CharSequence$1CharIterator"), (5, .class_ 67), (0, u "java/lang/Object")] 63

/-- java/lang/CharSequence -/
def k7 : Class := { plain "java/lang/CharSequence" (some 0) with
  accessFlags := 1537
  interfaces := #[]
  cf := some (fileOf pool7 2 #[.nestMembers #[47, 59]] #[] 1537 66 #[] #[])
  fields := #[]
  methods := #[]
  instanceTypes := #[]
  staticTypes := #[]
  resolved := Array.replicate 131 none
  statics := none }

def pool8 : Array CpInfo := pool [(1, .class_ 2), (0, u "java/lang/constant/Constable"), (0, .class_ 4), (0, u "java/lang/Object")] 6

/-- java/lang/constant/Constable -/
def k8 : Class := { plain "java/lang/constant/Constable" (some 0) with
  accessFlags := 1537
  interfaces := #[]
  cf := some (fileOf pool8 1 #[] #[] 1537 3 #[] #[])
  fields := #[]
  methods := #[]
  instanceTypes := #[]
  staticTypes := #[]
  resolved := Array.replicate 11 none
  statics := none }

def pool9 : Array CpInfo := pool [(1, .class_ 2), (0, u "java/lang/constant/ConstantDesc"), (0, .class_ 4), (0, u "java/lang/Object")] 32

/-- java/lang/constant/ConstantDesc -/
def k9 : Class := { plain "java/lang/constant/ConstantDesc" (some 0) with
  accessFlags := 1537
  interfaces := #[]
  cf := some (fileOf pool9 1 #[] #[] 1537 3 #[] #[])
  fields := #[]
  methods := #[]
  instanceTypes := #[]
  staticTypes := #[]
  resolved := Array.replicate 37 none
  statics := none }

def pool10 : Array CpInfo := pool [(2, .class_ 4), (1, u "java/lang/Object"), (0, u "<init>"), (0, u "()V"), (3, .class_ 12), (1, u "java/lang/String"), (0, u "value"), (0, u "[B"), (2, u "coder"), (0, u "B"), (2, u "hash"), (0, u "I"), (2, u "hashIsZero"), (0, u "Z"), (13, u "COMPACT_STRINGS"), (534, .class_ 576), (0, u "java/lang/CharSequence"), (22, u "CASE_INSENSITIVE_ORDER"), (0, u "Ljava/util/Comparator;"), (500, u "serialPersistentFields"), (0, u "[Ljava/io/ObjectStreamField;"), (0, .class_ 1104), (0, u "java/lang/String$CaseInsensitiveComparator"), (1, .class_ 1107), (0, u "java/io/Serializable"), (0, .class_ 1109), (0, u "java/lang/Comparable"), (0, .class_ 1111), (0, u "java/lang/constant/Constable"), (0, .class_ 1113), (0, u "java/lang/constant/ConstantDesc"), (2, u "serialVersionUID"), (0, u "J"), (3, u "REPL"), (0, u "C"), (2, u "LATIN1"), (1, u "UTF16")] 323

def k10m0 : Method := { name := "<init>", desc := "()V", sig := { parameters := [], returnType := none }, accessFlags := 1, code := none }
/-- java/lang/String -/
def k10 : Class := { plain "java/lang/String" (some 0) with
  accessFlags := 49
  interfaces := #[5, 6, 7, 8, 9]
  cf := some (fileOf pool10 10 #[.nestMembers #[1103]] #[{ accessFlags := 1, nameIndex := 5, descriptorIndex := 6, attributes := #[] }] 49 2 #[1106, 1108, 575, 1110, 1112] #[{ accessFlags := 18, nameIndex := 13, descriptorIndex := 14, attributes := #[] }, { accessFlags := 18, nameIndex := 17, descriptorIndex := 18, attributes := #[] }, { accessFlags := 2, nameIndex := 21, descriptorIndex := 22, attributes := #[] }, { accessFlags := 2, nameIndex := 25, descriptorIndex := 26, attributes := #[] }, { accessFlags := 26, nameIndex := 1116, descriptorIndex := 1117, attributes := #[] }, { accessFlags := 24, nameIndex := 40, descriptorIndex := 26, attributes := #[] }, { accessFlags := 26, nameIndex := 1101, descriptorIndex := 1102, attributes := #[] }, { accessFlags := 26, nameIndex := 1121, descriptorIndex := 1122, attributes := #[] }, { accessFlags := 25, nameIndex := 599, descriptorIndex := 600, attributes := #[] }, { accessFlags := 24, nameIndex := 1125, descriptorIndex := 18, attributes := #[] }, { accessFlags := 24, nameIndex := 1127, descriptorIndex := 18, attributes := #[] }])
  fields := #[{ name := "value", type := (.array .byte), accessFlags := 18, slot := 0, constantValue := 0 }, { name := "coder", type := .byte, accessFlags := 18, slot := 1, constantValue := 0 }, { name := "hash", type := .int, accessFlags := 2, slot := 2, constantValue := 0 }, { name := "hashIsZero", type := .boolean, accessFlags := 2, slot := 3, constantValue := 0 }, { name := "serialVersionUID", type := .long, accessFlags := 26, slot := 0, constantValue := 0 }, { name := "COMPACT_STRINGS", type := .boolean, accessFlags := 24, slot := 1, constantValue := 0 }, { name := "serialPersistentFields", type := (.array (.object "java/io/ObjectStreamField")), accessFlags := 26, slot := 2, constantValue := 0 }, { name := "REPL", type := .char, accessFlags := 26, slot := 3, constantValue := 0 }, { name := "CASE_INSENSITIVE_ORDER", type := (.object "java/util/Comparator"), accessFlags := 25, slot := 4, constantValue := 0 }, { name := "LATIN1", type := .byte, accessFlags := 24, slot := 5, constantValue := 0 }, { name := "UTF16", type := .byte, accessFlags := 24, slot := 6, constantValue := 0 }]
  methods := #[k10m0]
  instanceTypes := #[(.array .byte), .byte, .int, .boolean]
  staticTypes := #[.long, .boolean, (.array (.object "java/io/ObjectStreamField")), .char, (.object "java/util/Comparator"), .byte, .byte]
  resolved := Array.replicate 1451 none
  statics := none }

def pool11 : Array CpInfo := pool [(1, u "java/lang/Cloneable"), (0, .class_ 1), (0, u "java/lang/Object"), (0, .class_ 3)] 3

/-- java/lang/Cloneable -/
def k11 : Class := { plain "java/lang/Cloneable" (some 0) with
  accessFlags := 1537
  interfaces := #[]
  cf := some (fileOf pool11 2 #[] #[] 1537 4 #[] #[])
  fields := #[]
  methods := #[]
  instanceTypes := #[]
  staticTypes := #[]
  resolved := Array.replicate 8 none
  statics := none }

/-- the primitive byte -/
def k12 : Class := { plain "byte" none with kind := .primitive 'B', accessFlags := 0x411 }
/-- [B -/
def k13 : Class := { plain "[B" (some 0) with kind := .array 12 .byte, interfaces := #[11, 5], accessFlags := 1041 }

/-- the primitive int -/
def k14 : Class := { plain "int" none with kind := .primitive 'I', accessFlags := 0x411 }
/-- [I -/
def k15 : Class := { plain "[I" (some 0) with kind := .array 14 .int, interfaces := #[11, 5], accessFlags := 1041 }

def heap : Heap := #[]
def classes : Array Class := #[k0, k1, k2, k3, k4, k5, k6, k7, k8, k9, k10, k11, k12, k13, k14, k15]
def interned : List (Array UInt16 × Addr) := []
def slotsUsed : Nat := 0
def theMethod : MethodId := ⟨1, 1⟩
def args0 : Array Value := #[.int 5, .int 5, .int 5, .int 5]
def aboutOver (below : List Frame) : State where
  vm := { classes := classes, interned := interned.toArray }
  heap := heap
  slotsUsed := slotsUsed
  threads := #[{ frames := .invoking theMethod args0 :: below }]
def below0 : List Frame := [.native { method := ⟨0, 0⟩, args := #[] }]
def about1 : State := aboutOver below0
def p0 : Program := .bare "" "" ""
def e0 : Env := launch0.env 0 0 0
theorem w_frames : about1.frames = Frame.invoking theMethod args0 :: below0 := rfl
set_option maxRecDepth 65536 in
theorem w_args : argsFit about1.vm theMethod args0 = true := by decide +kernel
set_option maxRecDepth 65536 in
theorem w_heap : heapFits about1 = true := by decide +kernel
set_option maxRecDepth 65536 in
theorem w_runnable : about1.curStatus? = some .runnable := by decide +kernel
set_option maxRecDepth 65536 in
theorem w_alone : about1.alone = true := by decide +kernel
set_option maxRecDepth 65536 in
theorem w_named : about1.methodNamed? x = some theMethod := by decide +kernel
set_option maxRecDepth 65536 in
theorem w_hears : about1.hears theMethod below0 = true := by decide +kernel
set_option maxRecDepth 65536 in
theorem w_ripe : about1.ripe theMethod args0 below0 = true := by decide +kernel
theorem w_running : about1.status = .running := rfl
set_option maxRecDepth 65536 in
theorem w_room : about1.hasRoom e0.platform room_1 = true :=
  launch0.hasRoom_least _ room_1 (by decide +kernel) (by decide +kernel) (by decide +kernel) (by decide +kernel) (by decide +kernel) (by decide +kernel)
theorem allAtoms_all (ts : List Jvm.Cond) (a : Array Jvm.Value) (st : Jvm.State) : (allAtoms ts).before a st = ts.all (fun c => c.before a st) := by
  induction ts with
  | nil => rfl
  | cons c t ih =>
    show (Jvm.Cond.and c (allAtoms t)).before a st = _
    rw [Jvm.Cond.before_and, ih, List.all_cons]
def words1 : List Jvm.Cond := Jvm.Cond.code x code maxLocals ret :: tables_1
/-- a 'code' word, met by the world's own term for the bytes: nothing is compared byte by byte -/
theorem code_word {y : MethodName} {bytes : ByteArray} {mx : Nat} {rt : Option FieldType} {a : Array Value} {s : State} {m : MethodId} {meth : Method} {c : Code} (h1 : s.methodNamed? y = some m) (h2 : s.vm.method? m = some meth) (h3 : meth.code = some c) (h4 : c.code = bytes)
    (h5 : (c.maxLocals == mx && c.exceptionTable.isEmpty && decide (c.maxStack ≤ mostOperands) && decide (meth.sig.returnType = rt) && !meth.locks && decide (parseMethodDescriptor y.desc = some meth.sig)) = true) : (Jvm.Cond.code y bytes mx rt).before a s = true := by
  simp only [Bool.and_eq_true, beq_iff_eq, Bool.not_eq_true', decide_eq_true_eq] at h5
  obtain ⟨⟨⟨⟨⟨g1, g2⟩, g3⟩, g4⟩, g5⟩, g6⟩ := h5
  simp [Cond.before, Cond.holds, Cond.value, h1, h2, h3, h4, g1, g2, g3, g4, g5, g6]
def isCode : Jvm.Cond → Bool
  | .code _ _ _ _ => true
  | _ => false
theorem all_split {L : List Jvm.Cond} {P : Jvm.Cond → Bool} (h1 : L.all (fun c => isCode c || P c) = true) (h2 : ∀ c ∈ L.filter isCode, P c = true) : L.all P = true := by
  refine List.all_eq_true.mpr fun c hc => ?_
  have h := List.all_eq_true.mp h1 c hc
  rcases Bool.eq_false_or_eq_true (isCode c) with hi | hi
  · exact h2 c (List.mem_filter.mpr ⟨hc, hi⟩)
  · simpa [hi] using h
set_option maxRecDepth 65536 in
theorem w_c0 : (Jvm.Cond.code x code maxLocals ret).before args0 about1 = true := code_word (m := ⟨1, 1⟩) (meth := k1m1) (c := k1c1) (by decide +kernel) rfl rfl rfl (by decide +kernel)
set_option maxRecDepth 65536 in
theorem w_c1 : (Jvm.Cond.code ({ cls := "java/lang/Math", name := "min", desc := "(II)I" } : Jvm.MethodName) jdk_29_method_69_code (2 : Nat) (Option.some Jvm.ClassFile.FieldType.int)).before args0 about1 = true := code_word (m := ⟨2, 2⟩) (meth := k2m2) (c := k2c2) (by decide +kernel) rfl rfl rfl (by decide +kernel)
set_option maxRecDepth 65536 in
theorem w_c2 : (Jvm.Cond.code ({ cls := "java/lang/Math", name := "max", desc := "(II)I" } : Jvm.MethodName) jdk_29_method_65_code (2 : Nat) (Option.some Jvm.ClassFile.FieldType.int)).before args0 about1 = true := code_word (m := ⟨2, 1⟩) (meth := k2m1) (c := k2c1) (by decide +kernel) rfl rfl rfl (by decide +kernel)
set_option maxRecDepth 65536 in
theorem w_c3 : (Jvm.Cond.code ({ cls := "com/example/ostra/ostra/core/Box", name := "<init>", desc := "(DDDD)V" } : Jvm.MethodName) prog_4_method_1_code (9 : Nat) (Option.none : Option Jvm.ClassFile.FieldType)).before args0 about1 = true := code_word (m := ⟨4, 0⟩) (meth := k4m0) (c := k4c0) (by decide +kernel) rfl rfl rfl (by decide +kernel)
set_option maxRecDepth 65536 in
theorem w_c4 : (Jvm.Cond.code ({ cls := "java/lang/Record", name := "<init>", desc := "()V" } : Jvm.MethodName) jdk_30_method_1_code (1 : Nat) (Option.none : Option Jvm.ClassFile.FieldType)).before args0 about1 = true := code_word (m := ⟨3, 0⟩) (meth := k3m0) (c := k3c0) (by decide +kernel) rfl rfl rfl (by decide +kernel)
set_option maxRecDepth 65536 in
theorem w_c5 : (Jvm.Cond.code ({ cls := "java/lang/Object", name := "<init>", desc := "()V" } : Jvm.MethodName) object_method_1_code (1 : Nat) (Option.none : Option Jvm.ClassFile.FieldType)).before args0 about1 = true := code_word (m := ⟨0, 0⟩) (meth := k0m0) (c := k0c0) (by decide +kernel) rfl rfl rfl (by decide +kernel)
set_option maxRecDepth 65536 in
theorem w_c6 : (Jvm.Cond.code ({ cls := "com/example/ostra/ostra/core/Box", name := "requireWithin", desc := "(Ljava/lang/String;DI)V" } : Jvm.MethodName) prog_4_method_11_code (4 : Nat) (Option.none : Option Jvm.ClassFile.FieldType)).before args0 about1 = true := code_word (m := ⟨4, 3⟩) (meth := k4m3) (c := k4c3) (by decide +kernel) rfl rfl rfl (by decide +kernel)
set_option maxRecDepth 65536 in
theorem w_c7 : (Jvm.Cond.code ({ cls := "com/example/ostra/ostra/core/Box", name := "width", desc := "()D" } : Jvm.MethodName) prog_4_method_10_code (1 : Nat) (Option.some Jvm.ClassFile.FieldType.double)).before args0 about1 = true := code_word (m := ⟨4, 2⟩) (meth := k4m2) (c := k4c2) (by decide +kernel) rfl rfl rfl (by decide +kernel)
set_option maxRecDepth 65536 in
theorem w_c8 : (Jvm.Cond.code ({ cls := "com/example/ostra/ostra/core/Box", name := "crossesAntimeridian", desc := "()Z" } : Jvm.MethodName) prog_4_method_9_code (1 : Nat) (Option.some Jvm.ClassFile.FieldType.boolean)).before args0 about1 = true := code_word (m := ⟨4, 1⟩) (meth := k4m1) (c := k4c1) (by decide +kernel) rfl rfl rfl (by decide +kernel)
def codes1 : List Jvm.Cond := [Jvm.Cond.code x code maxLocals ret, Jvm.Cond.code ({ cls := "java/lang/Math", name := "min", desc := "(II)I" } : Jvm.MethodName) jdk_29_method_69_code (2 : Nat) (Option.some Jvm.ClassFile.FieldType.int), Jvm.Cond.code ({ cls := "java/lang/Math", name := "max", desc := "(II)I" } : Jvm.MethodName) jdk_29_method_65_code (2 : Nat) (Option.some Jvm.ClassFile.FieldType.int), Jvm.Cond.code ({ cls := "com/example/ostra/ostra/core/Box", name := "<init>", desc := "(DDDD)V" } : Jvm.MethodName) prog_4_method_1_code (9 : Nat) (Option.none : Option Jvm.ClassFile.FieldType), Jvm.Cond.code ({ cls := "java/lang/Record", name := "<init>", desc := "()V" } : Jvm.MethodName) jdk_30_method_1_code (1 : Nat) (Option.none : Option Jvm.ClassFile.FieldType), Jvm.Cond.code ({ cls := "java/lang/Object", name := "<init>", desc := "()V" } : Jvm.MethodName) object_method_1_code (1 : Nat) (Option.none : Option Jvm.ClassFile.FieldType), Jvm.Cond.code ({ cls := "com/example/ostra/ostra/core/Box", name := "requireWithin", desc := "(Ljava/lang/String;DI)V" } : Jvm.MethodName) prog_4_method_11_code (4 : Nat) (Option.none : Option Jvm.ClassFile.FieldType), Jvm.Cond.code ({ cls := "com/example/ostra/ostra/core/Box", name := "width", desc := "()D" } : Jvm.MethodName) prog_4_method_10_code (1 : Nat) (Option.some Jvm.ClassFile.FieldType.double), Jvm.Cond.code ({ cls := "com/example/ostra/ostra/core/Box", name := "crossesAntimeridian", desc := "()Z" } : Jvm.MethodName) prog_4_method_9_code (1 : Nat) (Option.some Jvm.ClassFile.FieldType.boolean)]
set_option maxRecDepth 65536 in
theorem codes_eq : words1.filter isCode = codes1 := rfl
theorem w_codes : ∀ c ∈ words1.filter isCode, c.before args0 about1 = true := by
  rw [codes_eq]
  intro c hc
  simp only [codes1, List.mem_cons, List.not_mem_nil, or_false] at hc
  rcases hc with rfl | rfl | rfl | rfl | rfl | rfl | rfl | rfl | rfl
  · exact w_c0
  · exact w_c1
  · exact w_c2
  · exact w_c3
  · exact w_c4
  · exact w_c5
  · exact w_c6
  · exact w_c7
  · exact w_c8
set_option maxRecDepth 65536 in
theorem w_t1 : (words1.take 24).all (fun c => isCode c || c.before args0 about1) = true := by decide +kernel
set_option maxRecDepth 65536 in
theorem w_t2 : ((words1.drop 24).take 24).all (fun c => isCode c || c.before args0 about1) = true := by decide +kernel
set_option maxRecDepth 65536 in
theorem w_t3 : ((words1.drop 24).drop 24).all (fun c => isCode c || c.before args0 about1) = true := by decide +kernel
theorem w_tables : (allAtoms (Jvm.Cond.code x code maxLocals ret :: tables_1)).before args0 about1 = true := by
  rw [allAtoms_all]
  show words1.all (fun c => c.before args0 about1) = true
  refine all_split ?_ w_codes
  rw [← List.take_append_drop 24 words1, List.all_append, w_t1, ← List.take_append_drop 24 (words1.drop 24), List.all_append, w_t2, w_t3]
  rfl
set_option maxRecDepth 65536 in
theorem w_case : (Jvm.Cond.and given_1 narrow_1).before args0 about1 = true := by decide +kernel
theorem w_applies : (headSpec (Jvm.Cond.code x code maxLocals ret :: tables_1) room_1).applies x e0.platform about1 = true :=
  (Spec.applies_iff w_frames).mpr ⟨w_running, w_runnable, w_alone, w_named, w_hears, w_ripe, w_room, w_tables⟩
theorem atStart : AtStart classFile x code maxLocals ret World_1 tables_1 room_1 Calls_1 rest_1 Pre_1 launch0 p0 e0 about1 theMethod args0 below0 :=
  ⟨lists_1, trivial, launch0.admits_env _ _ _, launch0.least_env, fairChoices_fair.cas, fairChoices_fair.clock, w_frames, w_args, w_heap, w_applies, trivial, trivial, w_case⟩
end start1
theorem witness_1 : WitnessClaimed_1 := ⟨start1.p0, start1.e0, start1.about1, start1.theMethod, start1.args0, start1.below0, start1.atStart⟩
end Jvm.Pilot.@@N@@
