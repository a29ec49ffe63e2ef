import JvmDerived
import JvmDerived.Pilot.@@N@@Statement
import JvmDerived.Pilot.@@N@@Code
set_option linter.unusedVariables false
set_option linter.unusedSimpArgs false
@@BLOCK:NumsL.lean.txt@@
namespace Jvm.RoadKit
open Sem ClassFile Op Lib Jvm.Stand Jvm.Free Jvm.LawKit
section OwnSteps
variable {tb : Tables} [Ours tb] {e : Env} {below : List Frame} {T target : State} {m : MethodId} {c : Code} {g : JFrame}
theorem own_dloadN (h : At T m c below) (hx : tb.exec = Jvm.exec) (hg : g.method = m) {k : Fin 4} {v : UInt64} (hd : decode c.code g.pc = .ok (.dload_n k, 1)) (hl : g.locals[k.val]? = some (.val (.double v)))
    (hr : Steps tb e below (T.setTop { g with pc := g.pc + 1, stack := .double v :: g.stack }) target) : Steps tb e below (T.setTop g) target := by
  subst hg
  jvm_step h [h.top, hx, hd, hl]
  exact hr
theorem own_dload (h : At T m c below) (hx : tb.exec = Jvm.exec) (hg : g.method = m) {k : Nat} {v : UInt64} (hd : decode c.code g.pc = .ok (.dload k, 2)) (hl : g.locals[k]? = some (.val (.double v)))
    (hr : Steps tb e below (T.setTop { g with pc := g.pc + 2, stack := .double v :: g.stack }) target) : Steps tb e below (T.setTop g) target := by
  subst hg
  jvm_step h [h.top, hx, hd, hl]
  exact hr
theorem own_dstoreN (h : At T m c below) (hx : tb.exec = Jvm.exec) (hg : g.method = m) {k : Fin 4} {x : UInt64} {rest : List Value} {l' : Array Slot} (hd : decode c.code g.pc = .ok (.dstore_n k, 1)) (hs : g.stack = .double x :: rest) (hl : storeLocals g.locals k.val (.double x) = some l')
    (hr : Steps tb e below (T.setTop { g with pc := g.pc + 1, stack := rest, locals := l' }) target) : Steps tb e below (T.setTop g) target := by
  subst hg
  jvm_step h [h.top, hx, hd, hs, hl]
  exact hr
theorem own_dstore (h : At T m c below) (hx : tb.exec = Jvm.exec) (hg : g.method = m) {k : Nat} {x : UInt64} {rest : List Value} {l' : Array Slot} (hd : decode c.code g.pc = .ok (.dstore k, 2)) (hs : g.stack = .double x :: rest) (hl : storeLocals g.locals k (.double x) = some l')
    (hr : Steps tb e below (T.setTop { g with pc := g.pc + 2, stack := rest, locals := l' }) target) : Steps tb e below (T.setTop g) target := by
  subst hg
  jvm_step h [h.top, hx, hd, hs, hl]
  exact hr
theorem own_i2d (h : At T m c below) (hx : tb.exec = Jvm.exec) (hg : g.method = m) {x : Int32} {rest : List Value} (hd : decode c.code g.pc = .ok (.i2d, 1)) (hs : g.stack = .int x :: rest)
    (hr : Steps tb e below (T.setTop { g with pc := g.pc + 1, stack := .double (FP.i2d x) :: rest }) target) : Steps tb e below (T.setTop g) target := by
  subst hg
  jvm_step h [h.top, hx, hd, hs]
  exact hr
theorem own_l2d (h : At T m c below) (hx : tb.exec = Jvm.exec) (hg : g.method = m) {x : Int64} {rest : List Value} (hd : decode c.code g.pc = .ok (.l2d, 1)) (hs : g.stack = .long x :: rest)
    (hr : Steps tb e below (T.setTop { g with pc := g.pc + 1, stack := .double (FP.l2d x) :: rest }) target) : Steps tb e below (T.setTop g) target := by
  subst hg
  jvm_step h [h.top, hx, hd, hs]
  exact hr
theorem own_d2l (h : At T m c below) (hx : tb.exec = Jvm.exec) (hg : g.method = m) {x : UInt64} {rest : List Value} (hd : decode c.code g.pc = .ok (.d2l, 1)) (hs : g.stack = .double x :: rest)
    (hr : Steps tb e below (T.setTop { g with pc := g.pc + 1, stack := .long (FP.d2l x) :: rest }) target) : Steps tb e below (T.setTop g) target := by
  subst hg
  jvm_step h [h.top, hx, hd, hs]
  exact hr
theorem own_d2i (h : At T m c below) (hx : tb.exec = Jvm.exec) (hg : g.method = m) {x : UInt64} {rest : List Value} (hd : decode c.code g.pc = .ok (.d2i, 1)) (hs : g.stack = .double x :: rest)
    (hr : Steps tb e below (T.setTop { g with pc := g.pc + 1, stack := .int (FP.d2i x) :: rest }) target) : Steps tb e below (T.setTop g) target := by
  subst hg
  jvm_step h [h.top, hx, hd, hs]
  exact hr
theorem own_dneg (h : At T m c below) (hx : tb.exec = Jvm.exec) (hg : g.method = m) {x : UInt64} {rest : List Value} (hd : decode c.code g.pc = .ok (.dneg, 1)) (hs : g.stack = .double x :: rest)
    (hr : Steps tb e below (T.setTop { g with pc := g.pc + 1, stack := .double (FP.dneg x) :: rest }) target) : Steps tb e below (T.setTop g) target := by
  subst hg
  jvm_step h [h.top, hx, hd, hs]
  exact hr
theorem own_dcmp (h : At T m c below) (hx : tb.exec = Jvm.exec) (hg : g.method = m) {op : CmpOp} {x y : UInt64} {rest : List Value} (hd : decode c.code g.pc = .ok (.dcmp op, 1)) (hs : g.stack = .double y :: .double x :: rest)
    (hr : Steps tb e below (T.setTop { g with pc := g.pc + 1, stack := .int (cmpValue (FP.dcmp x y) op) :: rest }) target) : Steps tb e below (T.setTop g) target := by
  subst hg
  jvm_step h [h.top, hx, hd, hs]
  exact hr
theorem own_dconst0 (h : At T m c below) (hx : tb.exec = Jvm.exec) (hg : g.method = m) (hd : decode c.code g.pc = .ok (.dconst 0, 1))
    (hr : Steps tb e below (T.setTop { g with pc := g.pc + 1, stack := .double (0 : UInt64) :: g.stack }) target) : Steps tb e below (T.setTop g) target := by
  subst hg
  jvm_step h [h.top, hx, hd]
  exact hr
theorem own_dconst1 (h : At T m c below) (hx : tb.exec = Jvm.exec) (hg : g.method = m) (hd : decode c.code g.pc = .ok (.dconst 1, 1))
    (hr : Steps tb e below (T.setTop { g with pc := g.pc + 1, stack := .double (4607182418800017408 : UInt64) :: g.stack }) target) : Steps tb e below (T.setTop g) target := by
  subst hg
  jvm_step h [h.top, hx, hd]
  exact hr
/-- no NaN, as the steps' law asks it -/
abbrev OwnNum (x : UInt64) : Prop := x &&& 0x7fffffffffffffff ≤ 0x7ff0000000000000
theorem own_dadd (h : At T m c below) (hx : tb.exec = Jvm.exec) (hg : g.method = m) {x y : UInt64} {rest : List Value} (hd : decode c.code g.pc = .ok (.dadd, 1)) (hs : g.stack = .double y :: .double x :: rest) (hn : OwnNum (FP.dadd x y))
    (hr : Steps tb e below (T.setTop { g with pc := g.pc + 1, stack := .double (FP.dadd x y) :: rest }) target) : Steps tb e below (T.setTop g) target := by
  subst hg
  obtain ⟨gm, gpc, gl, gs, gk, ge, gr⟩ := g
  cases hs
  jvm_step h [h.top, hx, hd, Op.dadd.at_number h.top hn]
  exact hr
theorem own_dsub (h : At T m c below) (hx : tb.exec = Jvm.exec) (hg : g.method = m) {x y : UInt64} {rest : List Value} (hd : decode c.code g.pc = .ok (.dsub, 1)) (hs : g.stack = .double y :: .double x :: rest) (hn : OwnNum (FP.dsub x y))
    (hr : Steps tb e below (T.setTop { g with pc := g.pc + 1, stack := .double (FP.dsub x y) :: rest }) target) : Steps tb e below (T.setTop g) target := by
  subst hg
  obtain ⟨gm, gpc, gl, gs, gk, ge, gr⟩ := g
  cases hs
  jvm_step h [h.top, hx, hd, Op.dsub.at_number h.top hn]
  exact hr
theorem own_dmul (h : At T m c below) (hx : tb.exec = Jvm.exec) (hg : g.method = m) {x y : UInt64} {rest : List Value} (hd : decode c.code g.pc = .ok (.dmul, 1)) (hs : g.stack = .double y :: .double x :: rest) (hn : OwnNum (FP.dmul x y))
    (hr : Steps tb e below (T.setTop { g with pc := g.pc + 1, stack := .double (FP.dmul x y) :: rest }) target) : Steps tb e below (T.setTop g) target := by
  subst hg
  obtain ⟨gm, gpc, gl, gs, gk, ge, gr⟩ := g
  cases hs
  jvm_step h [h.top, hx, hd, Op.dmul.at_number h.top hn]
  exact hr
theorem own_ddiv (h : At T m c below) (hx : tb.exec = Jvm.exec) (hg : g.method = m) {x y : UInt64} {rest : List Value} (hd : decode c.code g.pc = .ok (.ddiv, 1)) (hs : g.stack = .double y :: .double x :: rest) (hn : OwnNum (FP.ddiv x y))
    (hr : Steps tb e below (T.setTop { g with pc := g.pc + 1, stack := .double (FP.ddiv x y) :: rest }) target) : Steps tb e below (T.setTop g) target := by
  subst hg
  obtain ⟨gm, gpc, gl, gs, gk, ge, gr⟩ := g
  cases hs
  jvm_step h [h.top, hx, hd, Op.ddiv.at_number h.top hn]
  exact hr
end OwnSteps
/-- the run from S ends by a return, with what Q says of its value, the heap and the places written -/
def Go (tb : Tables) (e : Env) (below : List Frame) (s : State) (k n : Nat) (Q : Option Value → Heap → List Loc → Prop) (S : State) : Prop :=
  ∃ s₂ o, Steps tb e below S s₂ ∧ s₂.status = .running ∧ Ended s₂ below o ∧ ∃ v L, o = .returned v ∧ Q v s₂.heap L ∧ FrameEnd s o s₂ L k n
theorem Go.adv {tb : Tables} {e : Env} {below : List Frame} {s : State} {k n : Nat} {Q : Option Value → Heap → List Loc → Prop} {S S' : State} (h : ∀ t, Steps tb e below S' t → Steps tb e below S t) (g : Go tb e below s k n Q S') : Go tb e below s k n Q S := by
  obtain ⟨s₂, o, h1, h2⟩ := g
  exact ⟨s₂, o, h _ h1, h2⟩
theorem Go.tr {tb : Tables} {e : Env} {below : List Frame} {s : State} {k n : Nat} {Q : Option Value → Heap → List Loc → Prop} {S S' : State} (h : Steps tb e below S S') (g : Go tb e below s k n Q S') : Go tb e below s k n Q S := by
  obtain ⟨s₂, o, h1, h2⟩ := g
  exact ⟨s₂, o, h.trans h1, h2⟩
theorem Go.start {tb : Tables} {e : Env} {below : List Frame} {s : State} {k n : Nat} {Q : Option Value → Heap → List Loc → Prop} {T : State} {g g' : JFrame} (q : g = g') (h : Go tb e below s k n Q (T.setTop g')) :
    ∃ s₂ o, Steps tb e below (T.setTop g) s₂ ∧ s₂.status = .running ∧ Ended s₂ below o ∧ ∃ v L, o = .returned v ∧ Q v s₂.heap L ∧ FrameEnd s o s₂ L k n := by
  subst q; exact h
theorem own_staKeep0 {Z : State} {h h' : Heap} {C n d : String} {w : Value} (F : Sta Z h C n d w) (K : Keep h h' []) : Sta Z h' C n d w := by
  obtain ⟨cf, i, k, f, st, cell, h1, h2, h3, h4, h5, h6, h7⟩ := F
  exact ⟨cf, i, k, f, st, cell, h1, h2, h3, h4, K.2.1 st cell h5 nin0, h6, h7⟩
theorem own_staKeep {Z : State} {h h' : Heap} {C n d D : String} {w : Value} {a : Addr} (F : Sta Z h C n d w) (K : Keep h h' [a]) (E : Exa Z h a D) : Sta Z h' C n d w := by
  obtain ⟨cf, i, k, f, st, cell, h1, h2, h3, h4, h5, h6, h7⟩ := F
  obtain ⟨c2, k2, e1, -, -, e4, -⟩ := E
  refine ⟨cf, i, k, f, st, cell, h1, h2, h3, h4, K.2.1 st cell h5 fun hm => ?_, h6, h7⟩
  cases List.mem_singleton.mp hm
  cases h5.symm.trans e1
  rw [h6] at e4; cases e4
section OwnRet
variable {p : Program} {l : Launch} {e : Env} {R : Room} {s : State} {m : MethodId} {args : Array Value} {below : List Frame} {meth : Method} {c : Code} {T : State} {locs : List Loc} {cells slots : Nat}
theorem Go.ret (X : Stand p l e R s m args below meth c T locs cells slots) {v : Option Value} (hv : meth.sig.returnType = none → v = none) (hlk : meth.locks = false) {k n : Nat} {Q : Option Value → Heap → List Loc → Prop} {S : State}
    (hs : ∀ fs, (∀ (f : JFrame) (acts : List Action), f.method = m → f.locked = none → f.entered = [] → (doReturn e (T.setTop f) acts v).1 = T.setFrames fs) → Steps p.tables e below S (T.setFrames fs))
    (hQ : Q v T.heap locs) (hk : cells ≤ k) (hn : slots ≤ n) : Go p.tables e below s k n Q S := by
  obtain ⟨fs, hr, hrun, hended, hW, hsame⟩ := X.leave (v := v) hv hlk
  exact ⟨_, _, hs fs hr, hrun, hended, _, _, rfl, hQ, ⟨_, rfl⟩, hW, hsame.mono hk hn⟩
/-- the same, where String constants may have been made: the wide frame -/
def GoW (tb : Tables) (e : Env) (below : List Frame) (s : State) (k n : Nat) (Q : Option Value → Heap → List Loc → Prop) (S : State) : Prop :=
  ∃ s₂ o, Steps tb e below S s₂ ∧ s₂.status = .running ∧ Ended s₂ below o ∧ ∃ v L, o = .returned v ∧ Q v s₂.heap L ∧ ReturnedEndW s o s₂ L k n
theorem GoW.adv {tb : Tables} {e : Env} {below : List Frame} {s : State} {k n : Nat} {Q : Option Value → Heap → List Loc → Prop} {S S' : State} (h : ∀ t, Steps tb e below S' t → Steps tb e below S t) (g : GoW tb e below s k n Q S') : GoW tb e below s k n Q S := by
  obtain ⟨s₂, o, h1, h2⟩ := g
  exact ⟨s₂, o, h _ h1, h2⟩
theorem GoW.tr {tb : Tables} {e : Env} {below : List Frame} {s : State} {k n : Nat} {Q : Option Value → Heap → List Loc → Prop} {S S' : State} (h : Steps tb e below S S') (g : GoW tb e below s k n Q S') : GoW tb e below s k n Q S := by
  obtain ⟨s₂, o, h1, h2⟩ := g
  exact ⟨s₂, o, h.trans h1, h2⟩
theorem GoW.start {tb : Tables} {e : Env} {below : List Frame} {s : State} {k n : Nat} {Q : Option Value → Heap → List Loc → Prop} {T : State} {g g' : JFrame} (q : g = g') (h : GoW tb e below s k n Q (T.setTop g')) :
    ∃ s₂ o, Steps tb e below (T.setTop g) s₂ ∧ s₂.status = .running ∧ Ended s₂ below o ∧ ∃ v L, o = .returned v ∧ Q v s₂.heap L ∧ ReturnedEndW s o s₂ L k n := by
  subst q; exact h
theorem GoW.ret {vm : Vm} (X : Stand p l e R (s.setVm vm) m args below meth c T locs cells slots) {kk : Nat} (hS : s.Since vm kk) (hkk : kk ≤ T.heap.size) {v : Option Value} (hv : meth.sig.returnType = none → v = none) (hlk : meth.locks = false) {k n : Nat} {Q : Option Value → Heap → List Loc → Prop} {S : State}
    (hs : ∀ fs, (∀ (f : JFrame) (acts : List Action), f.method = m → f.locked = none → f.entered = [] → (doReturn e (T.setTop f) acts v).1 = T.setFrames fs) → Steps p.tables e below S (T.setFrames fs))
    (hQ : Q v T.heap locs) (hk : cells ≤ k) (hn : slots ≤ n) : GoW p.tables e below s k n Q S := by
  obtain ⟨fs, hr, hrun, hended, h1, h2, h3, h4⟩ := X.leaveW hS hkk (v := v) hv hlk
  exact ⟨_, _, hs fs hr, hrun, hended, _, _, rfl, hQ, h1, h2, h3, h4.mono hk hn⟩
end OwnRet
end Jvm.RoadKit
namespace Jvm.Own
open Jvm.FP.Core
/-- a datum times 2^k -/
def sh (k : Int) : Datum → Datum
  | .nan => .nan
  | .inf s => .inf s
  | .fin s c q => .fin s c (q + k)
/-- the double a is i / 2^k -/
def Dy (k : Nat) (i : Int) (a : UInt64) : Prop := Whole i (sh k (val64 a))
theorem whole_shape {i : Int} {d : Datum} (h : Whole i d) : ∃ s c q, d = .fin s c q := by
  cases d with
  | nan => exact h.elim
  | inf => exact h.elim
  | fin s c q => exact ⟨s, c, q, rfl⟩
theorem sh_shape {k : Int} {i : Int} {d : Datum} (h : Whole i (sh k d)) : ∃ s c q, d = .fin s c q := by
  cases d with
  | nan => exact h.elim
  | inf => exact h.elim
  | fin s c q => exact ⟨s, c, q, rfl⟩
theorem units_sh (c : Nat) (q e k : Int) : inUnits c (q + k) (e + k) = inUnits c q e := by
  show c * 2 ^ (q + k - (e + k)).toNat = c * 2 ^ (q - e).toNat
  rw [show q + k - (e + k) = q - e by omega]
theorem sum_sh (k : Int) (s : Bool) (c : Nat) (q : Int) (t : Bool) (d : Nat) (r : Int) : exactSum (.fin s c (q + k)) (.fin t d (r + k)) = sh k (exactSum (.fin s c q) (.fin t d r)) := by
  have hm : min (q + k) (r + k) = min q r + k := by omega
  have hu : sumUnits s c (q + k) t d (r + k) (min q r + k) = sumUnits s c q t d r (min q r) := by
    show signed s (inUnits c (q + k) (min q r + k)) + signed t (inUnits d (r + k) (min q r + k)) = signed s (inUnits c q (min q r)) + signed t (inUnits d r (min q r))
    rw [units_sh, units_sh]
  show Datum.fin (sumSign s t (sumUnits s c (q + k) t d (r + k) (min (q + k) (r + k)))) (sumUnits s c (q + k) t d (r + k) (min (q + k) (r + k))).natAbs (min (q + k) (r + k)) = Datum.fin (sumSign s t (sumUnits s c q t d r (min q r))) (sumUnits s c q t d r (min q r)).natAbs (min q r + k)
  rw [hm, hu]
theorem round_sh {k : Nat} (hk : k ≤ 900) {i : Int} (hi : i.natAbs ≤ 2 ^ 53) {d : Datum} (h : Whole i (sh k d)) : Whole i (sh k (round b64 d)) := by
  obtain ⟨s, c, q, rfl⟩ := sh_shape h
  have h' : Whole i (.fin s c (q + k)) := h
  by_cases h0 : i = 0
  · have hc : c = 0 := (whole_zero h').mpr h0
    subst hc
    subst h0
    have e1 : round b64 (.fin s 0 q) = .fin s 0 b64.qmin := (if_pos rfl : roundRatio b64 s 0 1 q = _)
    rw [e1]
    show signed s (0 * 2 ^ (b64.qmin + k).toNat) = 0 * _
    rw [Nat.zero_mul, Int.zero_mul]
    exact signed_zero s
  · obtain ⟨c0, q0, hfit, hv⟩ := natFit good_b64 wide_b64 s (n := i.natAbs) (show _ ≤ 2 ^ 53 from hi)
    have hs := whole_sign h' h0
    have hn := whole_natAbs h'
    have hW : Whole i (.fin s i.natAbs 0) := by rw [hs]; exact whole_ofInt i
    have e1 : round b64 (.fin s i.natAbs 0) = .fin s c0 q0 := roundRatio_exact good_b64 (by decide) hfit hv
    have hW2 := whole_round good_b64 wide_b64 (show _ ≤ 2 ^ 53 from hi) hW
    rw [e1] at hW2
    have hq : -100 ≤ q0 := by
      refine Int.not_lt.mp fun hlt => ?_
      have p1 : (q0 - 0).toNat = 0 := by omega
      have p2 : 2 ^ 101 ≤ 2 ^ (0 - q0).toNat := Nat.pow_le_pow_right (by decide) (by omega)
      have p3 : 1 * 2 ^ (0 - q0).toNat ≤ i.natAbs * 2 ^ (0 - q0).toNat := Nat.mul_le_mul_right _ (by omega)
      have p4 : c0 < 2 ^ 53 := hfit.1
      rw [hv, p1, Nat.pow_zero, Nat.mul_one, Nat.mul_one, Nat.one_mul] at p3
      have p5 : (2 : Nat) ^ 53 ≤ 2 ^ 101 := Nat.pow_le_pow_right (by decide) (by decide)
      exact absurd (Nat.lt_of_le_of_lt (Nat.le_trans p2 p3) p4) (Nat.not_lt.mpr p5)
    have hfit' : Jvm.FP.Core.fits b64 (.fin s c0 (q0 - k)) := by
      obtain ⟨f1, f2, f3, f4⟩ := hfit
      refine ⟨f1, ?_, by omega, Or.inr ?_⟩
      · rw [qmin_b64]; omega
      · rcases f4 with f4 | f4
        · rw [qmin_b64] at f4; omega
        · exact f4
    have e2 : round b64 (.fin s c q) = .fin s c0 (q0 - k) := by
      show roundRatio b64 s c 1 q = _
      rw [roundRatio_congr (A' := i.natAbs) (B' := 1) (e' := -(k : Int)) (by decide) (by decide) (by
        rw [show q - -(k : Int) = q + k by omega, show -(k : Int) - q = -(q + k) by omega, Nat.mul_one, Nat.mul_one]; exact hn)]
      exact roundRatio_exact good_b64 (by decide) hfit' (by
        rw [show -(k : Int) - (q0 - k) = 0 - q0 by omega, show q0 - k - -(k : Int) = q0 - 0 by omega]; exact hv)
    rw [e2]
    show Whole i (.fin s c0 (q0 - k + k))
    rw [Int.sub_add_cancel]
    exact hW2
theorem Dy.of {i : Int} {a : UInt64} (h : DInt i a) : Dy 0 i a := by
  have h1 : Whole i (val64 a) := h
  obtain ⟨s, c, q, e⟩ := whole_shape h1
  show Whole i (sh 0 (val64 a))
  rw [e] at h1 ⊢
  show Whole i (.fin s c (q + 0))
  rw [Int.add_zero]; exact h1
theorem Dy.int {i : Int} {a : UInt64} (h : Dy 0 i a) : DInt i a := by
  have h1 : Whole i (sh 0 (val64 a)) := h
  obtain ⟨s, c, q, e⟩ := sh_shape h1
  show Whole i (val64 a)
  rw [e] at h1 ⊢
  have h2 : Whole i (.fin s c (q + 0)) := h1
  rw [Int.add_zero] at h2; exact h2
theorem Dy.fin {k : Nat} {i : Int} {a : UInt64} (h : Dy k i a) : DFin a := sh_shape h
theorem Dy.add {k : Nat} {i j : Int} {a b : UInt64} (ha : Dy k i a) (hb : Dy k j b) (hk : k ≤ 900) (h : (i + j).natAbs ≤ 2 ^ 53) : Dy k (i + j) (dadd a b) := by
  show Whole _ (sh k (val64 (dadd a b)))
  rw [val64_dadd]
  refine round_sh hk h ?_
  have ha' : Whole i (sh k (val64 a)) := ha
  have hb' : Whole j (sh k (val64 b)) := hb
  obtain ⟨s, c, q, e1⟩ := sh_shape ha'
  obtain ⟨t, d, r, e2⟩ := sh_shape hb'
  rw [e1] at ha' ⊢
  rw [e2] at hb' ⊢
  rw [← sum_sh]
  exact whole_sum ha' hb'
theorem Dy.sub {k : Nat} {i j : Int} {a b : UInt64} (ha : Dy k i a) (hb : Dy k j b) (hk : k ≤ 900) (h : (i - j).natAbs ≤ 2 ^ 53) : Dy k (i - j) (dsub a b) := by
  show Whole _ (sh k (val64 (dsub a b)))
  rw [val64_dsub]
  refine round_sh hk h ?_
  have ha' : Whole i (sh k (val64 a)) := ha
  have hb' : Whole j (sh k (val64 b)) := hb
  obtain ⟨s, c, q, e1⟩ := sh_shape ha'
  obtain ⟨t, d, r, e2⟩ := sh_shape hb'
  rw [e1] at ha' ⊢
  rw [e2] at hb' ⊢
  show Whole (i - j) (sh k (exactSum (.fin s c q) (.fin (!t) d r)))
  rw [← sum_sh]
  exact whole_sum ha' (whole_negate hb')
theorem Dy.mul {k n : Nat} {i j : Int} {a b : UInt64} (ha : Dy k i a) (hb : Dy n j b) (hk : k + n ≤ 900) (h : (i * j).natAbs ≤ 2 ^ 53) : Dy (k + n) (i * j) (dmul a b) := by
  show Whole _ (sh ((k + n : Nat) : Int) (val64 (dmul a b)))
  rw [val64_dmul]
  refine round_sh hk h ?_
  have ha' : Whole i (sh k (val64 a)) := ha
  have hb' : Whole j (sh n (val64 b)) := hb
  obtain ⟨s, c, q, e1⟩ := sh_shape ha'
  obtain ⟨t, d, r, e2⟩ := sh_shape hb'
  rw [e1] at ha' ⊢
  rw [e2] at hb' ⊢
  have hp : Whole (i * j) (.fin (s != t) (c * d) ((q + k) + (r + n))) := whole_product ha' hb'
  show Whole (i * j) (.fin (s != t) (c * d) (q + r + ((k + n : Nat) : Int)))
  rw [show q + r + ((k + n : Nat) : Int) = (q + k) + (r + n) by omega]
  exact hp
theorem Dy.cmp {k : Nat} {i j : Int} {a b : UInt64} (ha : Dy k i a) (hb : Dy k j b) : dcmp a b = some (compare i j) := by
  have ha' : Whole i (sh k (val64 a)) := ha
  have hb' : Whole j (sh k (val64 b)) := hb
  show order (val64 a) (val64 b) = _
  obtain ⟨s, c, q, e1⟩ := sh_shape ha'
  obtain ⟨t, d, r, e2⟩ := sh_shape hb'
  rw [e1] at ha' ⊢
  rw [e2] at hb' ⊢
  rw [← order_whole ha' hb']
  show some (compare (signed s (inUnits c q (min q r))) (signed t (inUnits d r (min q r)))) = some (compare (signed s (inUnits c (q + k) (min (q + k) (r + k)))) (signed t (inUnits d (r + k) (min (q + k) (r + k)))))
  rw [show min (q + (k : Int)) (r + k) = min q r + k by omega, units_sh, units_sh]
theorem whole_up {i : Int} {s : Bool} {c : Nat} {q : Int} (n : Nat) (h : Whole i (.fin s c q)) : Whole (i * ((2 ^ n : Nat) : Int)) (.fin s c (q + n)) := by
  have h1 : signed s (c * 2 ^ q.toNat) = i * ((2 ^ (-q).toNat : Nat) : Int) := h
  show signed s (c * 2 ^ (q + n).toNat) = i * ((2 ^ n : Nat) : Int) * ((2 ^ (-(q + n)).toNat : Nat) : Int)
  have p2 : ((2 ^ (-q).toNat : Nat) : Int) ≠ 0 := by
    have := Nat.two_pow_pos (-q).toNat; omega
  refine Int.eq_of_mul_eq_mul_right p2 ?_
  have hx : (q + n).toNat + (-q).toNat = q.toNat + (n + (-(q + n)).toNat) := by omega
  rw [← signed_mul, Nat.mul_assoc, ← Nat.pow_add, hx, Nat.pow_add, ← Nat.mul_assoc, signed_mul, h1, Nat.pow_add, Int.natCast_mul]
  ac_rfl
theorem Dy.up {k : Nat} {i : Int} {a : UInt64} (n : Nat) (h : Dy k i a) : Dy (k + n) (i * ((2 ^ n : Nat) : Int)) a := by
  have h1 : Whole i (sh k (val64 a)) := h
  obtain ⟨s, c, q, e⟩ := sh_shape h1
  show Whole _ (sh ((k + n : Nat) : Int) (val64 a))
  rw [e] at h1 ⊢
  have h2 : Whole i (.fin s c (q + k)) := h1
  have h3 := whole_up n h2
  show Whole _ (.fin s c (q + ((k + n : Nat) : Int)))
  rw [show q + ((k + n : Nat) : Int) = q + k + n by omega]
  exact h3
/-- divided by 2^n -/
theorem Dy.div2 {k n : Nat} {i : Int} {a b : UInt64} {mm : Nat} {r : Int} (h : Dy k i a) (hb : val64 b = .fin false (2 ^ mm) r) (hr : r + mm = n) (hk : k + n ≤ 900) (hi : i.natAbs ≤ 2 ^ 53) : Dy (k + n) i (ddiv a b) := by
  have h1 : Whole i (sh k (val64 a)) := h
  obtain ⟨s, c, q, e⟩ := sh_shape h1
  show Whole _ (sh ((k + n : Nat) : Int) (val64 (ddiv a b)))
  rw [val64_ddiv, hb]
  rw [e] at h1 ⊢
  have hp : 0 < 2 ^ mm := Nat.two_pow_pos mm
  have e1 : quotient b64 (.fin s c q) (.fin false (2 ^ mm) r) = round b64 (.fin s c (q - n)) := by
    show (if 2 ^ mm = 0 then _ else roundRatio b64 (s != false) c (2 ^ mm) (q - r)) = roundRatio b64 s c 1 (q - n)
    rw [if_neg (by omega), show (s != false) = s by cases s <;> rfl]
    refine roundRatio_congr hp (by decide) ?_
    rw [show (q - r - (q - (n : Int))).toNat = mm by omega, show (q - (n : Int) - (q - r)).toNat = 0 by omega, Nat.pow_zero, Nat.mul_one, Nat.mul_one]
  rw [e1]
  refine round_sh hk hi ?_
  have h2 : Whole i (.fin s c (q + k)) := h1
  show Whole i (.fin s c (q - n + ((k + n : Nat) : Int)))
  rw [show q - (n : Int) + ((k + n : Nat) : Int) = q + k by omega]
  exact h2
/-- the quotient of two whole numbers, as a rounded ratio -/
theorem div_ratio {i j : Int} {a b : UInt64} (ha : DInt i a) (hb : DInt j b) (hi : 0 ≤ i) (hj : 0 < j) : ∃ s, val64 (ddiv a b) = roundRatio b64 s i.natAbs j.natAbs 0 ∧ (0 < i → s = false) := by
  have ha' : Whole i (val64 a) := ha
  have hb' : Whole j (val64 b) := hb
  obtain ⟨s, c, q, e1⟩ := whole_shape ha'
  obtain ⟨t, d, r, e2⟩ := whole_shape hb'
  rw [val64_ddiv]
  rw [e1] at ha' ⊢
  rw [e2] at hb' ⊢
  have hd : d ≠ 0 := fun h => by have := (whole_zero hb').mp h; omega
  have ht : t = false := by rw [whole_sign hb' (by omega)]; exact decide_eq_false (by omega)
  have h1 := whole_natAbs ha'
  have h2 := whole_natAbs hb'
  refine ⟨s, ?_, fun h => by rw [whole_sign ha' (by omega)]; exact decide_eq_false (by omega)⟩
  subst ht
  show (if d = 0 then _ else roundRatio b64 (s != false) c d (q - r)) = _
  rw [if_neg hd, show (s != false) = s by cases s <;> rfl]
  refine roundRatio_congr (by omega) (by omega) ?_
  have hx : (q - r - 0).toNat + (-q).toNat + r.toNat = (0 - (q - r)).toNat + q.toNat + (-r).toNat := by omega
  generalize (q - r - 0).toNat = u at hx ⊢
  generalize (0 - (q - r)).toNat = v at hx ⊢
  generalize q.toNat = a1 at hx h1
  generalize (-q).toNat = a2 at hx h1
  generalize r.toNat = b1 at hx h2
  generalize (-r).toNat = b2 at hx h2
  generalize i.natAbs = I at h1 ⊢
  generalize j.natAbs = J at h2 ⊢
  refine Nat.eq_of_mul_eq_mul_right (Nat.two_pow_pos (a1 + b2)) ?_
  calc c * J * 2 ^ u * 2 ^ (a1 + b2) = (c * 2 ^ a1) * (J * 2 ^ b2) * 2 ^ u := by rw [Nat.pow_add]; ac_rfl
    _ = (I * 2 ^ a2) * (d * 2 ^ b1) * 2 ^ u := by rw [h1, ← h2]
    _ = I * d * 2 ^ (u + a2 + b1) := by simp only [Nat.pow_add]; ac_rfl
    _ = I * d * 2 ^ (v + a1 + b2) := by rw [hx]
    _ = I * d * 2 ^ v * 2 ^ (a1 + b2) := by simp only [Nat.pow_add]; ac_rfl
theorem units0 (A : Nat) : inUnits A 0 b64.qmin = A * one64 := by
  show A * 2 ^ (0 - b64.qmin).toNat = A * 2 ^ 1074
  have h1 : (0 - b64.qmin).toNat = 1074 := by decide
  rw [h1]
theorem ratio_le {s : Bool} {A B : Nat} (hB : 0 < B) {V : UInt64} (hV : DFin V) (h : A * one64 ≤ zmag b64 (val64 V) * B) : zmag b64 (roundRatio b64 s A B 0) ≤ zmag b64 (val64 V) := by
  refine zmag_roundRatio_le good_b64 hB (val64_fits V) hV.ne_nan (Int.le_refl _) (by rw [qmin_b64]; decide) ?_
  rw [units0, Int.sub_self]
  show A * one64 ≤ zmag b64 (val64 V) * 1 * B
  rw [Nat.mul_one]; exact h
theorem ratio_ge {s : Bool} {A B : Nat} (hB : 0 < B) {V : UInt64} (h : zmag b64 (val64 V) * B ≤ A * one64) : zmag b64 (val64 V) ≤ zmag b64 (roundRatio b64 s A B 0) := by
  refine zmag_roundRatio_ge good_b64 hB (val64_fits V) (Int.le_refl _) (by rw [qmin_b64]; decide) ?_
  rw [units0, Int.sub_self]
  show zmag b64 (val64 V) * 1 * B ≤ A * one64
  rw [Nat.mul_one]; exact h
/-- 1, the number next below it, and 2^-53, in units -/
theorem z_one : zmag b64 (val64 4607182418800017408) = 2 ^ 53 * 2 ^ 1021 := by decide +kernel
theorem z_pred : zmag b64 (val64 4607182418800017407) = (2 ^ 53 - 1) * 2 ^ 1021 := by decide +kernel
theorem z_tiny : zmag b64 (val64 4368491638549381120) = 2 ^ 1021 := by decide +kernel
theorem f_one : DFin 4607182418800017408 := (fin_bits _).mpr (by decide +kernel)
theorem f_pred : DFin 4607182418800017407 := (fin_bits _).mpr (by decide +kernel)
theorem one_split : one64 = 2 ^ 53 * 2 ^ 1021 := by
  show 2 ^ 1074 = _
  rw [← Nat.pow_add]
theorem zv_one : zval b64 (val64 4607182418800017408) = ((2 ^ 53 * 2 ^ 1021 : Nat) : Int) := by decide +kernel
theorem ratio_one {s : Bool} {A B : Nat} (hB : 0 < B) (h : A ≤ B) : zmag b64 (roundRatio b64 s A B 0) ≤ 2 ^ 53 * 2 ^ 1021 := by
  rw [← z_one]
  refine ratio_le hB f_one ?_
  rw [z_one, ← one_split, Nat.mul_comm]
  exact Nat.mul_le_mul_left _ h
theorem ratio_eq {s : Bool} {B : Nat} (hB : 0 < B) : zmag b64 (roundRatio b64 s B B 0) = 2 ^ 53 * 2 ^ 1021 := by
  refine Nat.le_antisymm (ratio_one hB (Nat.le_refl _)) ?_
  rw [← z_one]
  refine ratio_ge hB ?_
  rw [z_one, ← one_split, Nat.mul_comm]
  exact Nat.le_refl _
theorem ratio_lt {s : Bool} {A B : Nat} (h : A < B) (hB : B ≤ 2 ^ 53) : zmag b64 (roundRatio b64 s A B 0) < 2 ^ 53 * 2 ^ 1021 := by
  have h1 : zmag b64 (roundRatio b64 s A B 0) ≤ zmag b64 (val64 4607182418800017407) := by
    refine ratio_le (by omega) f_pred ?_
    rw [z_pred, one_split]
    have h2 : A * 2 ^ 53 ≤ (2 ^ 53 - 1) * B := by omega
    calc A * (2 ^ 53 * 2 ^ 1021) = A * 2 ^ 53 * 2 ^ 1021 := by rw [Nat.mul_assoc]
      _ ≤ (2 ^ 53 - 1) * B * 2 ^ 1021 := Nat.mul_le_mul_right _ h2
      _ = (2 ^ 53 - 1) * 2 ^ 1021 * B := Nat.mul_right_comm _ _ _
  rw [z_pred] at h1
  refine Nat.lt_of_le_of_lt h1 ?_
  exact Nat.mul_lt_mul_of_pos_right (by decide) (Nat.two_pow_pos _)
theorem ratio_pos {s : Bool} {A B : Nat} (hA : 0 < A) (hB : 0 < B) (h : B ≤ 2 ^ 53) : 0 < zmag b64 (roundRatio b64 s A B 0) := by
  have h1 : zmag b64 (val64 4368491638549381120) ≤ zmag b64 (roundRatio b64 s A B 0) := by
    refine ratio_ge hB ?_
    rw [z_tiny, one_split]
    have h2 : B ≤ A * 2 ^ 53 := Nat.le_trans h (Nat.le_mul_of_pos_left _ hA)
    calc 2 ^ 1021 * B = B * 2 ^ 1021 := Nat.mul_comm _ _
      _ ≤ A * 2 ^ 53 * 2 ^ 1021 := Nat.mul_le_mul_right _ h2
      _ = A * (2 ^ 53 * 2 ^ 1021) := by rw [Nat.mul_assoc]
  rw [z_tiny] at h1
  exact Nat.lt_of_lt_of_le (Nat.two_pow_pos _) h1
theorem ratio_zero {s : Bool} {B : Nat} : zmag b64 (roundRatio b64 s 0 B 0) = 0 := by
  have e1 : roundRatio b64 s 0 B 0 = .fin s 0 b64.qmin := if_pos rfl
  rw [e1]
  show 0 * _ = 0
  exact Nat.zero_mul _
theorem ratio_ne_nan {s : Bool} {A B : Nat} {e : Int} : roundRatio b64 s A B e ≠ .nan := roundRatio_ne_nan _ _ _ _ _
theorem zv0 : zval b64 (val64 0) = 0 := zval64_zero
theorem nn0 : val64 0 ≠ .nan := by rw [val64_zero]; exact Datum.noConfusion
theorem nn1 : val64 4607182418800017408 ≠ .nan := f_one.ne_nan
/-- a quotient of two whole numbers i ≤ j stands to 1 and to 0 as i stands to j and to 0 -/
theorem div_cmp {i j : Int} {a b : UInt64} (ha : DInt i a) (hb : DInt j b) (hi : 0 ≤ i) (hij : i ≤ j) (hj : 0 < j) (hJ : j ≤ 2 ^ 53) :
    dcmp (ddiv a b) 4607182418800017408 = some (if i = j then .eq else .lt) ∧ dcmp (ddiv a b) 0 = some (if i = 0 then .eq else .gt) ∧ dcmp 0 (ddiv a b) = some (if i = 0 then .eq else .lt) := by
  obtain ⟨s, hv, hs⟩ := div_ratio ha hb hi hj
  have nn : val64 (ddiv a b) ≠ .nan := by rw [hv]; exact ratio_ne_nan
  have hB : 0 < j.natAbs := by omega
  have hz : zval b64 (val64 (ddiv a b)) = ((zmag b64 (roundRatio b64 s i.natAbs j.natAbs 0) : Nat) : Int) := by
    rw [hv]
    show signed (sgn (roundRatio b64 s i.natAbs j.natAbs 0)) _ = _
    rw [sgn_roundRatio]
    by_cases h0 : 0 < i
    · rw [hs h0]; rfl
    · rw [show i.natAbs = 0 by omega, ratio_zero]; exact signed_zero s
  have hlt : ¬ i = j → zmag b64 (roundRatio b64 s i.natAbs j.natAbs 0) < 2 ^ 53 * 2 ^ 1021 := fun h => ratio_lt (by omega) (by omega)
  have heq : i = j → zmag b64 (roundRatio b64 s i.natAbs j.natAbs 0) = 2 ^ 53 * 2 ^ 1021 := fun h => by rw [h]; exact ratio_eq hB
  have hp : ¬ i = 0 → 0 < zmag b64 (roundRatio b64 s i.natAbs j.natAbs 0) := fun h => ratio_pos (by omega) hB (by omega)
  have hzero : i = 0 → zmag b64 (roundRatio b64 s i.natAbs j.natAbs 0) = 0 := fun h => by rw [show i.natAbs = 0 by omega]; exact ratio_zero
  generalize zmag b64 (roundRatio b64 s i.natAbs j.natAbs 0) = w at *
  have z1 := zv_one
  generalize 2 ^ 53 * 2 ^ 1021 = o1 at *
  refine ⟨?_, ?_, ?_⟩
  · by_cases h : i = j
    · rw [if_pos h]; exact dcmp_eq.mpr ⟨nn, nn1, by rw [hz, z1, heq h]⟩
    · rw [if_neg h]; exact dcmp_lt.mpr ⟨nn, nn1, by rw [hz, z1]; have := hlt h; omega⟩
  · by_cases h : i = 0
    · rw [if_pos h]; exact dcmp_eq.mpr ⟨nn, nn0, by rw [hz, zv0, hzero h]; rfl⟩
    · rw [if_neg h]; exact dcmp_gt.mpr ⟨nn, nn0, by rw [hz, zv0]; have := hp h; omega⟩
  · by_cases h : i = 0
    · rw [if_pos h]; exact dcmp_eq.mpr ⟨nn0, nn, by rw [hz, zv0, hzero h]; rfl⟩
    · rw [if_neg h]; exact dcmp_lt.mpr ⟨nn0, nn, by rw [hz, zv0]; have := hp h; omega⟩
/-- two quotients of one ratio compare as equal -/
theorem div_same {i j i' j' : Int} {a b a' b' : UInt64} (ha : DInt i a) (hb : DInt j b) (ha' : DInt i' a') (hb' : DInt j' b') (hi : 0 ≤ i) (hj : 0 < j) (hi' : 0 ≤ i') (hj' : 0 < j') (h : i * j' = i' * j) :
    dcmp (ddiv a b) (ddiv a' b') = some .eq := by
  obtain ⟨s, hv, hs⟩ := div_ratio ha hb hi hj
  obtain ⟨s', hv', hs'⟩ := div_ratio ha' hb' hi' hj'
  have nn : val64 (ddiv a b) ≠ .nan := by rw [hv]; exact ratio_ne_nan
  have nn' : val64 (ddiv a' b') ≠ .nan := by rw [hv']; exact ratio_ne_nan
  refine dcmp_eq.mpr ⟨nn, nn', ?_⟩
  rw [hv, hv']
  by_cases h0 : i = 0
  · have h1 : i' = 0 := by
      rw [h0, Int.zero_mul] at h
      rcases Int.mul_eq_zero.mp h.symm with h | h
      · exact h
      · omega
    rw [h0, h1]
    have e1 : ∀ (t : Bool) (B : Nat), zval b64 (roundRatio b64 t 0 B 0) = 0 := fun t B => by
      show signed _ (zmag b64 (roundRatio b64 t 0 B 0)) = 0
      rw [ratio_zero]; exact signed_zero _
    exact (e1 _ _).trans (e1 _ _).symm
  · have h1 : 0 < i' := by
      rcases Int.lt_or_eq_of_le hi' with h2 | h2
      · exact h2
      · exfalso
        rw [← h2, Int.zero_mul] at h
        rcases Int.mul_eq_zero.mp h with h | h <;> omega
    rw [hs (by omega), hs' h1]
    congr 1
    refine roundRatio_congr (by omega) (by omega) ?_
    have := congrArg Int.natAbs h
    rw [Int.natAbs_mul, Int.natAbs_mul] at this
    rw [this]
/-- a quotient that is whole -/
theorem div_int {i j k : Int} {a b : UInt64} (ha : DInt i a) (hb : DInt j b) (hi : 0 < i) (hj : 0 < j) (h : i = k * j) (hk : k.natAbs ≤ 2 ^ 53) : DInt k (ddiv a b) := by
  obtain ⟨s, hv, hs⟩ := div_ratio ha hb (by omega) hj
  obtain rfl := hs hi
  have hk0 : 0 < k := by
    refine Int.not_le.mp fun hn => ?_
    have := Int.mul_nonneg (show 0 ≤ -k by omega) (Int.le_of_lt hj)
    rw [Int.neg_mul] at this
    omega
  obtain ⟨c, q, hfit, hq⟩ := natFit good_b64 wide_b64 false (n := k.natAbs) (show _ ≤ 2 ^ 53 from hk)
  show Whole k (val64 (ddiv a b))
  rw [hv]
  have hn : i.natAbs = k.natAbs * j.natAbs := by rw [h, Int.natAbs_mul]
  have e1 : roundRatio b64 false i.natAbs j.natAbs 0 = .fin false c q := roundRatio_exact good_b64 (by omega) hfit (by
    rw [hn, Nat.mul_right_comm, hq]; rw [Nat.mul_one]; ac_rfl)
  have e2 : round b64 (.fin false k.natAbs 0) = .fin false c q := roundRatio_exact good_b64 (by decide) hfit hq
  have hW : Whole k (.fin false k.natAbs 0) := by
    have := whole_ofInt k
    have e3 : ofInt k = .fin false k.natAbs 0 := by
      show Datum.fin (decide (k < 0)) k.natAbs 0 = _
      rw [decide_eq_false (by omega)]
    rw [e3] at this; exact this
  have := whole_round good_b64 wide_b64 (show _ ≤ 2 ^ 53 from hk) hW
  rw [e2] at this
  rw [e1]; exact this
/-- no NaN, as the steps ask it -/
theorem num_of {x : UInt64} (h : DFin x) : x &&& 0x7fffffffffffffff ≤ 0x7ff0000000000000 := by
  have h1 := (fin_bits x).mp h
  rw [UInt64.le_iff_toNat_le, mask_toNat]
  show x.toNat % 2 ^ 63 ≤ 9218868437227405312
  omega
theorem num_nan {x : UInt64} (h : dIsNaN x = false) : x &&& 0x7fffffffffffffff ≤ 0x7ff0000000000000 := by
  have h1 := (ne_nan x).mp ((notNaN_iff x).mp h)
  rw [UInt64.le_iff_toNat_le, mask_toNat]
  show x.toNat % 2 ^ 63 ≤ 9218868437227405312
  exact h1
theorem cv_eq {x y : UInt64} {op : ClassFile.CmpOp} (h : dcmp x y = some .eq) : Jvm.Op.cmpValue (Jvm.FP.dcmp x y) op = 0 := by
  show Jvm.Op.cmpValue (dcmp x y) op = 0
  rw [h]; rfl
theorem cv_lt {x y : UInt64} {op : ClassFile.CmpOp} (h : dcmp x y = some .lt) : Jvm.Op.cmpValue (Jvm.FP.dcmp x y) op = -1 := by
  show Jvm.Op.cmpValue (dcmp x y) op = -1
  rw [h]; rfl
theorem cv_gt {x y : UInt64} {op : ClassFile.CmpOp} (h : dcmp x y = some .gt) : Jvm.Op.cmpValue (Jvm.FP.dcmp x y) op = 1 := by
  show Jvm.Op.cmpValue (dcmp x y) op = 1
  rw [h]; rfl
end Jvm.Own
namespace Jvm.Pilot.@@N@@
open Jvm Jvm.ClassFile Sem Op Lib Jvm.Free Jvm.Stand Jvm.LawKit Jvm.RoadKit Bundle Jvm.Pilot.@@N@@.Jvm.D

def own_min (x y : Int32) : Int32 := if y < x then y else x
theorem own_min_a {x y : Int32} (h : y < x) : own_min x y = y := if_pos h
theorem own_min_b {x y : Int32} (h : ¬ y < x) : own_min x y = x := if_neg h
def own_max (x y : Int32) : Int32 := if x < y then y else x
theorem own_max_a {x y : Int32} (h : x < y) : own_max x y = y := if_pos h
theorem own_max_b {x y : Int32} (h : ¬ x < y) : own_max x y = x := if_neg h
theorem own_mm {x y : Int32} (hx : 0 ≤ x.toInt) (hy : 0 ≤ y.toInt) : 0 ≤ (own_min x y).toInt ∧ (own_min x y).toInt ≤ (own_max x y).toInt := by
  by_cases h : y < x
  · have h2 : ¬ x < y := by rw [Int32.lt_iff_toInt_lt] at h ⊢; omega
    rw [own_min_a h, own_max_b h2]; rw [Int32.lt_iff_toInt_lt] at h; exact ⟨hy, by omega⟩
  · by_cases h2 : x < y
    · rw [own_min_b h, own_max_a h2]; rw [Int32.lt_iff_toInt_lt] at h; exact ⟨hx, by omega⟩
    · rw [own_min_b h, own_max_b h2]; exact ⟨hx, by omega⟩
theorem own_mask (x : Int32) : 0 ≤ (x &&& (2147483647 : Int32)).toInt := by
  rw [Kit.i32_mask x 2147483647 (k := 31) (by decide) (by decide)]; omega
def OwnLink (d1 d2 d3 : UInt64) (p2 : Int32) : Prop := (0 : Int32) < (cmpValue (FP.dcmp d1 (0 : UInt64)) .l) ∧ ¬ ((cmpValue (FP.dcmp d2 (0 : UInt64)) .l) < (0 : Int32)) ∧ ¬ ((cmpValue (FP.dcmp d3 (0 : UInt64)) .l) < (0 : Int32)) ∧ ¬ (p2 < (1 : Int32))
def OwnCap (d1 cap : UInt64) : Prop := ¬ ((cmpValue (FP.dcmp d1 (0 : UInt64)) .l) < (0 : Int32)) ∧ ¬ ((0 : Int32) < (cmpValue (FP.dcmp d1 cap) .g))
theorem own_link : OwnLink 4607182418800017408 0 0 1 := by unfold OwnLink; decide +kernel
theorem own_cap1 : OwnCap 4607182418800017408 4607182418800017408 := by unfold OwnCap; decide +kernel
theorem own_cap0 : OwnCap 0 4607182418800017408 := by unfold OwnCap; decide +kernel
def own_force (x y z : Int32) : Int32 := if x < y then 0 else if x < z then 1 else 0
theorem own_force_a {x y z : Int32} (h : x < y) : own_force x y z = (0 : Int32) := if_pos h
theorem own_force_b {x y z : Int32} (h : ¬ x < y) (h2 : x < z) : own_force x y z = (1 : Int32) := (if_neg h).trans (if_pos h2)
theorem own_force_c {x y z : Int32} (h : ¬ x < y) (h2 : ¬ x < z) : own_force x y z = (0 : Int32) := (if_neg h).trans (if_neg h2)
theorem own_lc_lt {x y : Int64} (h : x < y) : lcmpW x y < (0 : Int32) := by
  have h1 : ¬ y < x := by rw [Int64.lt_iff_toInt_lt] at h ⊢; omega
  have h2 : ¬ x = y := fun q => by rw [q, Int64.lt_iff_toInt_lt] at h; omega
  show (if x > y then (1 : Int32) else if x = y then 0 else -1) < 0
  rw [if_neg h1, if_neg h2]; decide
theorem own_lc_nlt {x y : Int64} (h : ¬ x < y) : ¬ (lcmpW x y < (0 : Int32)) := by
  show ¬ ((if x > y then (1 : Int32) else if x = y then 0 else -1) < 0)
  by_cases h1 : y < x
  · rw [if_pos h1]; decide
  · have h2 : x = y := Int64.toInt.inj (by rw [Int64.lt_iff_toInt_lt] at h h1; omega)
    rw [if_neg h1, if_pos h2]; decide
theorem own_dif (x y : Int32) : (x.toInt64 - y.toInt64).toInt = x.toInt - y.toInt := by
  have a1 := x.toInt_lt; have a2 := x.le_toInt; have a3 := y.toInt_lt; have a4 := y.le_toInt
  rw [Kit.i64_sub (by rw [Kit.i64_of_i32, Kit.i64_of_i32]; omega) (by rw [Kit.i64_of_i32, Kit.i64_of_i32]; omega), Kit.i64_of_i32, Kit.i64_of_i32]
theorem own_d0 {x y : Int32} : (x.toInt64 - y.toInt64) < (0 : Int64) ↔ x < y := by
  rw [Int64.lt_iff_toInt_lt, Int32.lt_iff_toInt_lt, own_dif]; show _ < 0 ↔ _; omega
theorem own_d1 {x y z : Int32} : (x.toInt64 - y.toInt64) < (z.toInt64 - y.toInt64) ↔ x < z := by
  rw [Int64.lt_iff_toInt_lt, Int32.lt_iff_toInt_lt, own_dif, own_dif]; omega
theorem own_ft {mn mx : Int32} (h : 0 ≤ mn.toInt ∧ mn.toInt ≤ mx.toInt) (q : ¬ (mn = mx)) : 0 ≤ mn.toInt ∧ mn.toInt < mx.toInt := by
  have : mn.toInt ≠ mx.toInt := fun z => q (Int32.toInt.inj z)
  omega
theorem own_fa {mx : Int32} (h : mx = (2147483647 : Int32)) : 0 ≤ (mx - (1 : Int32)).toInt ∧ (mx - (1 : Int32)).toInt < mx.toInt := by subst h; decide
theorem own_fb {mn mx : Int32} (h : 0 ≤ mn.toInt ∧ mn.toInt ≤ mx.toInt) (q : ¬ (mx = (2147483647 : Int32))) : 0 ≤ mn.toInt ∧ mn.toInt < (mx + (1 : Int32)).toInt := by
  have a := mx.toInt_lt
  have : mx.toInt ≠ 2147483647 := fun z => q (Int32.toInt.inj z)
  rw [Kit.i32_add (by show _ ≤ _ + 1; omega) (by show _ + 1 < _; omega)]
  show _ ∧ _ < _ + 1
  omega
theorem d1_0 : decode jdk_29_method_69_code 0 = .ok (.iload_n 0, 1) := by decide +kernel
theorem d1_1 : decode jdk_29_method_69_code 1 = .ok (.iload_n 1, 1) := by decide +kernel
theorem d1_2 : decode jdk_29_method_69_code 2 = .ok (.if_icmp .gt 7, 3) := by decide +kernel
theorem d1_9 : decode jdk_29_method_69_code 9 = .ok (.iload_n 1, 1) := by decide +kernel
theorem d1_10 : decode jdk_29_method_69_code 10 = .ok (.ireturn, 1) := by decide +kernel
theorem d1_5 : decode jdk_29_method_69_code 5 = .ok (.iload_n 0, 1) := by decide +kernel
theorem d1_6 : decode jdk_29_method_69_code 6 = .ok (.goto 4, 3) := by decide +kernel
theorem ef_rm_min (m : MethodId) (x0 : Int32) (x1 : Int32) : entryFrame m #[(.int x0), (.int x1)] 2 = mkF m 0 #[.val (.int x0), .val (.int x1)] [] := by first | (simp [entryFrame, mkF, argsToLocals, Value.category]; done) | rfl
def Q_rm_min (Z : State) (p1 : Int32) (p2 : Int32) (h0 : Heap) (n0 : Nat) (v : Option Value) (h : Heap) (L : List Loc) : Prop := v = some (.int (own_min p1 p2)) ∧ Fr n0 L ∧ h = h0
set_option maxRecDepth 65536 in
set_option maxHeartbeats 40000000 in
theorem rm_min (l : Launch) (Z : State) (a0 : Array Value) (hw : ∀ d ∈ tables_1, d.before a0 Z = true) (ws : List Jvm.Cond) (p1 : Int32) (p2 : Int32) (h0 : Heap) (n0 : Nat) (Z0 : n0 ≤ h0.size)  :
    MetFree l (⟨"java/lang/Math", "min", "(II)I"⟩ : MethodName) (head1 (Jvm.Cond.code (⟨"java/lang/Math", "min", "(II)I"⟩ : MethodName) jdk_29_method_69_code 2 (some .int) :: ws) ({ frames := 0, cells := 0, slots := 0, locals := 0 } : Room)) (fun a U => a = #[(.int p1), (.int p2)] ∧ Z.Warmed39 U.vm ∧ U.heap = h0) (fun _ _ _ _ _ => True) (fun _ U o U' => ∃ v L, o = .returned v ∧ Q_rm_min Z p1 p2 h0 n0 v U'.heap L ∧ FrameEnd U o U' L ({ frames := 0, cells := 0, slots := 0, locals := 0 } : Room).cells ({ frames := 0, cells := 0, slots := 0, locals := 0 } : Room).slots) := by
  refine MetFree.of_bodySF (Jvm.Free.JP.mathPlain rfl (by decide +kernel)) hisR ?_
  intro p e s m args below meth c s₁ Bd hml0 hP hK
  obtain ⟨rfl, hZ, hh⟩ := hP
  have hx := Bd.exec
  have hby := Bd.bytes
  have hml : c.maxLocals = 2 := hml0
  have hown : s.vm.findClass "java/lang/Math" = some m.cls := findClass_of_methodNamed Bd.named
  have hnm := (name_of_methodNamed Bd.named Bd.method).1
  have X0 : Stand p l e ({ frames := 0, cells := 0, slots := 0, locals := 0 } : Room) s m #[(.int p1), (.int p2)] below meth c s₁ [] 0 0 := Stand.of_body Bd
  have e0 : s₁.heap = h0 := by rw [← hh, Bd.state]; rfl
  have N0 := Fr.nil n0
  refine Go.start (Q := Q_rm_min Z p1 p2 h0 n0) (ef_rm_min m p1 p2) ?_
  by_cases hc : p2 < p1
  · have sg1 : ∀ t, Steps p.tables e below (s₁.setTop (mkF m 10 #[.val (.int p1), .val (.int p2)] [(.int p2)])) t → Steps p.tables e below (s₁.setTop (mkF m 0 #[.val (.int p1), .val (.int p2)] [])) t := by
      intro t kt
      show Steps p.tables e below (s₁.setTop (mkF m 0 #[.val (.int p1), .val (.int p2)] [])) _
      refine XS.iloadN X0.here hx rfl (hb hby d1_0) rfl ?_
      show Steps p.tables e below (s₁.setTop (mkF m 1 #[.val (.int p1), .val (.int p2)] [(.int p1)])) _
      refine XS.iloadN X0.here hx rfl (hb hby d1_1) rfl ?_
      show Steps p.tables e below (s₁.setTop (mkF m 2 #[.val (.int p1), .val (.int p2)] [(.int p2), (.int p1)])) _
      refine XS.icmpYes X0.here hx rfl (pc0 := 2) (pc' := 9) rfl (hb hby d1_2) rfl (tlt (hc : p2 < p1)).2.2.1 (by decide) (by decide) ?_
      show Steps p.tables e below (s₁.setTop (mkF m 9 #[.val (.int p1), .val (.int p2)] [])) _
      refine XS.iloadN X0.here hx rfl (hb hby d1_9) rfl ?_
      exact kt
    refine Go.adv sg1 ?_
    refine Go.ret (v := (some (.int p2))) X0 (fun h => by rw [Bd.returns] at h; cases h) Bd.notSynchronized (fun fs hr => retOut X0 hx Bd.returns rfl (Or.inl ⟨rfl, Or.inl rfl, _, rfl⟩) (hb hby d1_10) hr) ?_ (by decide) (by decide)
    show Q_rm_min Z p1 p2 h0 n0 (some (.int p2)) s₁.heap _
    rw [e0]
    exact ⟨congrArg (fun z => some (Value.int z)) (own_min_a hc).symm, N0, rfl⟩
  · have sg2 : ∀ t, Steps p.tables e below (s₁.setTop (mkF m 10 #[.val (.int p1), .val (.int p2)] [(.int p1)])) t → Steps p.tables e below (s₁.setTop (mkF m 0 #[.val (.int p1), .val (.int p2)] [])) t := by
      intro t kt
      show Steps p.tables e below (s₁.setTop (mkF m 0 #[.val (.int p1), .val (.int p2)] [])) _
      refine XS.iloadN X0.here hx rfl (hb hby d1_0) rfl ?_
      show Steps p.tables e below (s₁.setTop (mkF m 1 #[.val (.int p1), .val (.int p2)] [(.int p1)])) _
      refine XS.iloadN X0.here hx rfl (hb hby d1_1) rfl ?_
      show Steps p.tables e below (s₁.setTop (mkF m 2 #[.val (.int p1), .val (.int p2)] [(.int p2), (.int p1)])) _
      refine XS.icmpNo X0.here hx rfl (hb hby d1_2) rfl (flt (hc : ¬ (p2 < p1))).2.2.1 ?_
      show Steps p.tables e below (s₁.setTop (mkF m 5 #[.val (.int p1), .val (.int p2)] [])) _
      refine XS.iloadN X0.here hx rfl (hb hby d1_5) rfl ?_
      show Steps p.tables e below (s₁.setTop (mkF m 6 #[.val (.int p1), .val (.int p2)] [(.int p1)])) _
      refine XS.goto X0.here hx rfl (pc0 := 6) (pc' := 10) rfl (hb hby d1_6) (by decide) (by decide) ?_
      exact kt
    refine Go.adv sg2 ?_
    refine Go.ret (v := (some (.int p1))) X0 (fun h => by rw [Bd.returns] at h; cases h) Bd.notSynchronized (fun fs hr => retOut X0 hx Bd.returns rfl (Or.inl ⟨rfl, Or.inl rfl, _, rfl⟩) (hb hby d1_10) hr) ?_ (by decide) (by decide)
    show Q_rm_min Z p1 p2 h0 n0 (some (.int p1)) s₁.heap _
    rw [e0]
    exact ⟨congrArg (fun z => some (Value.int z)) (own_min_b hc).symm, N0, rfl⟩
theorem d2_0 : decode jdk_29_method_65_code 0 = .ok (.iload_n 0, 1) := by decide +kernel
theorem d2_1 : decode jdk_29_method_65_code 1 = .ok (.iload_n 1, 1) := by decide +kernel
theorem d2_2 : decode jdk_29_method_65_code 2 = .ok (.if_icmp .lt 7, 3) := by decide +kernel
theorem d2_9 : decode jdk_29_method_65_code 9 = .ok (.iload_n 1, 1) := by decide +kernel
theorem d2_10 : decode jdk_29_method_65_code 10 = .ok (.ireturn, 1) := by decide +kernel
theorem d2_5 : decode jdk_29_method_65_code 5 = .ok (.iload_n 0, 1) := by decide +kernel
theorem d2_6 : decode jdk_29_method_65_code 6 = .ok (.goto 4, 3) := by decide +kernel
theorem ef_rm_max (m : MethodId) (x0 : Int32) (x1 : Int32) : entryFrame m #[(.int x0), (.int x1)] 2 = mkF m 0 #[.val (.int x0), .val (.int x1)] [] := by first | (simp [entryFrame, mkF, argsToLocals, Value.category]; done) | rfl
def Q_rm_max (Z : State) (p1 : Int32) (p2 : Int32) (h0 : Heap) (n0 : Nat) (v : Option Value) (h : Heap) (L : List Loc) : Prop := v = some (.int (own_max p1 p2)) ∧ Fr n0 L ∧ h = h0
set_option maxRecDepth 65536 in
set_option maxHeartbeats 40000000 in
theorem rm_max (l : Launch) (Z : State) (a0 : Array Value) (hw : ∀ d ∈ tables_1, d.before a0 Z = true) (ws : List Jvm.Cond) (p1 : Int32) (p2 : Int32) (h0 : Heap) (n0 : Nat) (Z0 : n0 ≤ h0.size)  :
    MetFree l (⟨"java/lang/Math", "max", "(II)I"⟩ : MethodName) (head1 (Jvm.Cond.code (⟨"java/lang/Math", "max", "(II)I"⟩ : MethodName) jdk_29_method_65_code 2 (some .int) :: ws) ({ frames := 0, cells := 0, slots := 0, locals := 0 } : Room)) (fun a U => a = #[(.int p1), (.int p2)] ∧ Z.Warmed39 U.vm ∧ U.heap = h0) (fun _ _ _ _ _ => True) (fun _ U o U' => ∃ v L, o = .returned v ∧ Q_rm_max Z p1 p2 h0 n0 v U'.heap L ∧ FrameEnd U o U' L ({ frames := 0, cells := 0, slots := 0, locals := 0 } : Room).cells ({ frames := 0, cells := 0, slots := 0, locals := 0 } : Room).slots) := by
  refine MetFree.of_bodySF (Jvm.Free.JP.mathPlain rfl (by decide +kernel)) hisR ?_
  intro p e s m args below meth c s₁ Bd hml0 hP hK
  obtain ⟨rfl, hZ, hh⟩ := hP
  have hx := Bd.exec
  have hby := Bd.bytes
  have hml : c.maxLocals = 2 := hml0
  have hown : s.vm.findClass "java/lang/Math" = some m.cls := findClass_of_methodNamed Bd.named
  have hnm := (name_of_methodNamed Bd.named Bd.method).1
  have X0 : Stand p l e ({ frames := 0, cells := 0, slots := 0, locals := 0 } : Room) s m #[(.int p1), (.int p2)] below meth c s₁ [] 0 0 := Stand.of_body Bd
  have e0 : s₁.heap = h0 := by rw [← hh, Bd.state]; rfl
  have N0 := Fr.nil n0
  refine Go.start (Q := Q_rm_max Z p1 p2 h0 n0) (ef_rm_max m p1 p2) ?_
  by_cases hc : p1 < p2
  · have sg1 : ∀ t, Steps p.tables e below (s₁.setTop (mkF m 10 #[.val (.int p1), .val (.int p2)] [(.int p2)])) t → Steps p.tables e below (s₁.setTop (mkF m 0 #[.val (.int p1), .val (.int p2)] [])) t := by
      intro t kt
      show Steps p.tables e below (s₁.setTop (mkF m 0 #[.val (.int p1), .val (.int p2)] [])) _
      refine XS.iloadN X0.here hx rfl (hb hby d2_0) rfl ?_
      show Steps p.tables e below (s₁.setTop (mkF m 1 #[.val (.int p1), .val (.int p2)] [(.int p1)])) _
      refine XS.iloadN X0.here hx rfl (hb hby d2_1) rfl ?_
      show Steps p.tables e below (s₁.setTop (mkF m 2 #[.val (.int p1), .val (.int p2)] [(.int p2), (.int p1)])) _
      refine XS.icmpYes X0.here hx rfl (pc0 := 2) (pc' := 9) rfl (hb hby d2_2) rfl (tlt (hc : p1 < p2)).1 (by decide) (by decide) ?_
      show Steps p.tables e below (s₁.setTop (mkF m 9 #[.val (.int p1), .val (.int p2)] [])) _
      refine XS.iloadN X0.here hx rfl (hb hby d2_9) rfl ?_
      exact kt
    refine Go.adv sg1 ?_
    refine Go.ret (v := (some (.int p2))) X0 (fun h => by rw [Bd.returns] at h; cases h) Bd.notSynchronized (fun fs hr => retOut X0 hx Bd.returns rfl (Or.inl ⟨rfl, Or.inl rfl, _, rfl⟩) (hb hby d2_10) hr) ?_ (by decide) (by decide)
    show Q_rm_max Z p1 p2 h0 n0 (some (.int p2)) s₁.heap _
    rw [e0]
    exact ⟨congrArg (fun z => some (Value.int z)) (own_max_a hc).symm, N0, rfl⟩
  · have sg2 : ∀ t, Steps p.tables e below (s₁.setTop (mkF m 10 #[.val (.int p1), .val (.int p2)] [(.int p1)])) t → Steps p.tables e below (s₁.setTop (mkF m 0 #[.val (.int p1), .val (.int p2)] [])) t := by
      intro t kt
      show Steps p.tables e below (s₁.setTop (mkF m 0 #[.val (.int p1), .val (.int p2)] [])) _
      refine XS.iloadN X0.here hx rfl (hb hby d2_0) rfl ?_
      show Steps p.tables e below (s₁.setTop (mkF m 1 #[.val (.int p1), .val (.int p2)] [(.int p1)])) _
      refine XS.iloadN X0.here hx rfl (hb hby d2_1) rfl ?_
      show Steps p.tables e below (s₁.setTop (mkF m 2 #[.val (.int p1), .val (.int p2)] [(.int p2), (.int p1)])) _
      refine XS.icmpNo X0.here hx rfl (hb hby d2_2) rfl (flt (hc : ¬ (p1 < p2))).1 ?_
      show Steps p.tables e below (s₁.setTop (mkF m 5 #[.val (.int p1), .val (.int p2)] [])) _
      refine XS.iloadN X0.here hx rfl (hb hby d2_5) rfl ?_
      show Steps p.tables e below (s₁.setTop (mkF m 6 #[.val (.int p1), .val (.int p2)] [(.int p1)])) _
      refine XS.goto X0.here hx rfl (pc0 := 6) (pc' := 10) rfl (hb hby d2_6) (by decide) (by decide) ?_
      exact kt
    refine Go.adv sg2 ?_
    refine Go.ret (v := (some (.int p1))) X0 (fun h => by rw [Bd.returns] at h; cases h) Bd.notSynchronized (fun fs hr => retOut X0 hx Bd.returns rfl (Or.inl ⟨rfl, Or.inl rfl, _, rfl⟩) (hb hby d2_10) hr) ?_ (by decide) (by decide)
    show Q_rm_max Z p1 p2 h0 n0 (some (.int p1)) s₁.heap _
    rw [e0]
    exact ⟨congrArg (fun z => some (Value.int z)) (own_max_b hc).symm, N0, rfl⟩
theorem pn3 : plainName "com/example/nudged_routes/nudgedroutes/network/Link" = true := by first | (simp [plainName, overriddenIn]; done) | decide +kernel
theorem d3_0 : decode prog_58_method_2_code 0 = .ok (.aload_n 0, 1) := by decide +kernel
theorem d3_1 : decode prog_58_method_2_code 1 = .ok (.invokespecial 13, 3) := by decide +kernel
theorem d3_4 : decode prog_58_method_2_code 4 = .ok (.dload 5, 2) := by decide +kernel
theorem d3_6 : decode prog_58_method_2_code 6 = .ok (.dconst 0, 1) := by decide +kernel
theorem d3_7 : decode prog_58_method_2_code 7 = .ok (.dcmp .l, 1) := by decide +kernel
theorem d3_8 : decode prog_58_method_2_code 8 = .ok (.ifCond .gt 19, 3) := by decide +kernel
theorem d3_27 : decode prog_58_method_2_code 27 = .ok (.dload 7, 2) := by decide +kernel
theorem d3_29 : decode prog_58_method_2_code 29 = .ok (.dconst 0, 1) := by decide +kernel
theorem d3_30 : decode prog_58_method_2_code 30 = .ok (.dcmp .l, 1) := by decide +kernel
theorem d3_31 : decode prog_58_method_2_code 31 = .ok (.ifCond .ge 19, 3) := by decide +kernel
theorem d3_50 : decode prog_58_method_2_code 50 = .ok (.dload 9, 2) := by decide +kernel
theorem d3_52 : decode prog_58_method_2_code 52 = .ok (.dconst 0, 1) := by decide +kernel
theorem d3_53 : decode prog_58_method_2_code 53 = .ok (.dcmp .l, 1) := by decide +kernel
theorem d3_54 : decode prog_58_method_2_code 54 = .ok (.ifCond .ge 19, 3) := by decide +kernel
theorem d3_73 : decode prog_58_method_2_code 73 = .ok (.iload 11, 2) := by decide +kernel
theorem d3_75 : decode prog_58_method_2_code 75 = .ok (.iconst 1, 1) := by decide +kernel
theorem d3_76 : decode prog_58_method_2_code 76 = .ok (.if_icmp .ge 19, 3) := by decide +kernel
theorem d3_95 : decode prog_58_method_2_code 95 = .ok (.aload_n 0, 1) := by decide +kernel
theorem d3_96 : decode prog_58_method_2_code 96 = .ok (.iload_n 1, 1) := by decide +kernel
theorem d3_97 : decode prog_58_method_2_code 97 = .ok (.putfield 32, 3) := by decide +kernel
theorem d3_100 : decode prog_58_method_2_code 100 = .ok (.aload_n 0, 1) := by decide +kernel
theorem d3_101 : decode prog_58_method_2_code 101 = .ok (.aload_n 2, 1) := by decide +kernel
theorem d3_102 : decode prog_58_method_2_code 102 = .ok (.putfield 36, 3) := by decide +kernel
theorem d3_105 : decode prog_58_method_2_code 105 = .ok (.aload_n 0, 1) := by decide +kernel
theorem d3_106 : decode prog_58_method_2_code 106 = .ok (.aload_n 3, 1) := by decide +kernel
theorem d3_107 : decode prog_58_method_2_code 107 = .ok (.putfield 40, 3) := by decide +kernel
theorem d3_110 : decode prog_58_method_2_code 110 = .ok (.aload_n 0, 1) := by decide +kernel
theorem d3_111 : decode prog_58_method_2_code 111 = .ok (.aload 4, 2) := by decide +kernel
theorem d3_113 : decode prog_58_method_2_code 113 = .ok (.putfield 44, 3) := by decide +kernel
theorem d3_116 : decode prog_58_method_2_code 116 = .ok (.aload_n 0, 1) := by decide +kernel
theorem d3_117 : decode prog_58_method_2_code 117 = .ok (.dload 5, 2) := by decide +kernel
theorem d3_119 : decode prog_58_method_2_code 119 = .ok (.putfield 47, 3) := by decide +kernel
theorem d3_122 : decode prog_58_method_2_code 122 = .ok (.aload_n 0, 1) := by decide +kernel
theorem d3_123 : decode prog_58_method_2_code 123 = .ok (.dload 7, 2) := by decide +kernel
theorem d3_125 : decode prog_58_method_2_code 125 = .ok (.putfield 51, 3) := by decide +kernel
theorem d3_128 : decode prog_58_method_2_code 128 = .ok (.aload_n 0, 1) := by decide +kernel
theorem d3_129 : decode prog_58_method_2_code 129 = .ok (.dload 9, 2) := by decide +kernel
theorem d3_131 : decode prog_58_method_2_code 131 = .ok (.putfield 54, 3) := by decide +kernel
theorem d3_134 : decode prog_58_method_2_code 134 = .ok (.aload_n 0, 1) := by decide +kernel
theorem d3_135 : decode prog_58_method_2_code 135 = .ok (.iload 11, 2) := by decide +kernel
theorem d3_137 : decode prog_58_method_2_code 137 = .ok (.putfield 57, 3) := by decide +kernel
theorem d3_140 : decode prog_58_method_2_code 140 = .ok (.return_, 1) := by decide +kernel
theorem ef_rm_link (m : MethodId) (x0 : Addr) (x1 : Int32) (x2 : Addr) (x5 : UInt64) (x6 : UInt64) (x7 : UInt64) (x8 : Int32) : entryFrame m #[(.ref x0), (.int x1), (.ref x2), .null, .null, (.double x5), (.double x6), (.double x7), (.int x8)] 12 = mkF m 0 #[.val (.ref x0), .val (.int x1), .val (.ref x2), .val .null, .val .null, .val (.double x5), .second, .val (.double x6), .second, .val (.double x7), .second, .val (.int x8)] [] := by first | (simp [entryFrame, mkF, argsToLocals, Value.category]; done) | rfl
def Q_rm_link (Z : State) (a1 : Addr) (p1 : Int32) (a2 : Addr) (d1 : UInt64) (d2 : UInt64) (d3 : UInt64) (p2 : Int32) (u_index : Value) (u_id : Value) (u_from : Value) (u_to : Value) (u_capacityVph : Value) (u_lengthM : Value) (u_freeFlowTimeS : Value) (u_lanes : Value) (h0 : Heap) (n0 : Nat) (v : Option Value) (h : Heap) (L : List Loc) : Prop := v = none ∧ Fr n0 L ∧ Keep h0 h [a1] ∧ Exa Z h a1 "com/example/nudged_routes/nudgedroutes/network/Link" ∧ Fld Z h a1 "com/example/nudged_routes/nudgedroutes/network/Link" "index" "I" (.int p1) ∧ Fld Z h a1 "com/example/nudged_routes/nudgedroutes/network/Link" "id" "Ljava/lang/String;" (.ref a2) ∧ Fld Z h a1 "com/example/nudged_routes/nudgedroutes/network/Link" "from" "Lcom/example/nudged_routes/nudgedroutes/network/Node;" .null ∧ Fld Z h a1 "com/example/nudged_routes/nudgedroutes/network/Link" "to" "Lcom/example/nudged_routes/nudgedroutes/network/Node;" .null ∧ Fld Z h a1 "com/example/nudged_routes/nudgedroutes/network/Link" "capacityVph" "D" (.double d1) ∧ Fld Z h a1 "com/example/nudged_routes/nudgedroutes/network/Link" "lengthM" "D" (.double d2) ∧ Fld Z h a1 "com/example/nudged_routes/nudgedroutes/network/Link" "freeFlowTimeS" "D" (.double d3) ∧ Fld Z h a1 "com/example/nudged_routes/nudgedroutes/network/Link" "lanes" "I" (.int p2)
set_option maxRecDepth 65536 in
set_option maxHeartbeats 40000000 in
theorem rm_link (l : Launch) (Z : State) (a0 : Array Value) (hw : ∀ d ∈ tables_1, d.before a0 Z = true) (ws : List Jvm.Cond) (a1 : Addr) (p1 : Int32) (a2 : Addr) (d1 : UInt64) (d2 : UInt64) (d3 : UInt64) (p2 : Int32) (u_index : Value) (u_id : Value) (u_from : Value) (u_to : Value) (u_capacityVph : Value) (u_lengthM : Value) (u_freeFlowTimeS : Value) (u_lanes : Value) (h0 : Heap) (n0 : Nat) (Z0 : n0 ≤ h0.size) (E_a1 : Exa Z h0 a1 "com/example/nudged_routes/nudgedroutes/network/Link") (g_a1 : n0 ≤ a1) (F_index_a1 : Fld Z h0 a1 "com/example/nudged_routes/nudgedroutes/network/Link" "index" "I" u_index) (F_id_a1 : Fld Z h0 a1 "com/example/nudged_routes/nudgedroutes/network/Link" "id" "Ljava/lang/String;" u_id) (F_from_a1 : Fld Z h0 a1 "com/example/nudged_routes/nudgedroutes/network/Link" "from" "Lcom/example/nudged_routes/nudgedroutes/network/Node;" u_from) (F_to_a1 : Fld Z h0 a1 "com/example/nudged_routes/nudgedroutes/network/Link" "to" "Lcom/example/nudged_routes/nudgedroutes/network/Node;" u_to) (F_capacityVph_a1 : Fld Z h0 a1 "com/example/nudged_routes/nudgedroutes/network/Link" "capacityVph" "D" u_capacityVph) (F_lengthM_a1 : Fld Z h0 a1 "com/example/nudged_routes/nudgedroutes/network/Link" "lengthM" "D" u_lengthM) (F_freeFlowTimeS_a1 : Fld Z h0 a1 "com/example/nudged_routes/nudgedroutes/network/Link" "freeFlowTimeS" "D" u_freeFlowTimeS) (F_lanes_a1 : Fld Z h0 a1 "com/example/nudged_routes/nudgedroutes/network/Link" "lanes" "I" u_lanes) (hL : OwnLink d1 d2 d3 p2) :
    MetFree l (⟨"com/example/nudged_routes/nudgedroutes/network/Link", "<init>", "(ILjava/lang/String;Lcom/example/nudged_routes/nudgedroutes/network/Node;Lcom/example/nudged_routes/nudgedroutes/network/Node;DDDI)V"⟩ : MethodName) (head1 (Jvm.Cond.code (⟨"com/example/nudged_routes/nudgedroutes/network/Link", "<init>", "(ILjava/lang/String;Lcom/example/nudged_routes/nudgedroutes/network/Node;Lcom/example/nudged_routes/nudgedroutes/network/Node;DDDI)V"⟩ : MethodName) prog_58_method_2_code 12 none :: ws) ({ frames := 1, cells := 0, slots := 0, locals := 12 } : Room)) (fun a U => a = #[(.ref a1), (.int p1), (.ref a2), .null, .null, (.double d1), (.double d2), (.double d3), (.int p2)] ∧ Z.Warmed39 U.vm ∧ U.heap = h0) (fun _ _ _ _ _ => True) (fun _ U o U' => ∃ v L, o = .returned v ∧ Q_rm_link Z a1 p1 a2 d1 d2 d3 p2 u_index u_id u_from u_to u_capacityVph u_lengthM u_freeFlowTimeS u_lanes h0 n0 v U'.heap L ∧ FrameEnd U o U' L ({ frames := 1, cells := 0, slots := 0, locals := 12 } : Room).cells ({ frames := 1, cells := 0, slots := 0, locals := 12 } : Room).slots) := by
  refine MetFree.of_bodySF (plainFor_of_name pn3) hisR ?_
  intro p e s m args below meth c s₁ Bd hml0 hP hK
  obtain ⟨rfl, hZ, hh⟩ := hP
  have hx := Bd.exec
  have hby := Bd.bytes
  have hml : c.maxLocals = 12 := hml0
  have hown : s.vm.findClass "com/example/nudged_routes/nudgedroutes/network/Link" = some m.cls := findClass_of_methodNamed Bd.named
  have hnm := (name_of_methodNamed Bd.named Bd.method).1
  have X0 : Stand p l e ({ frames := 1, cells := 0, slots := 0, locals := 12 } : Room) s m #[(.ref a1), (.int p1), (.ref a2), .null, .null, (.double d1), (.double d2), (.double d3), (.int p2)] below meth c s₁ [] 0 0 := Stand.of_body Bd
  have e0 : s₁.heap = h0 := by rw [← hh, Bd.state]; rfl
  have N0 := Fr.nil n0
  refine Go.start (Q := Q_rm_link Z a1 p1 a2 d1 d2 d3 p2 u_index u_id u_from u_to u_capacityVph u_lengthM u_freeFlowTimeS u_lanes h0 n0) (ef_rm_link m a1 p1 a2 d1 d2 d3 p2) ?_
  have sg1 : ∀ t, Steps p.tables e below (s₁.setTop (mkF m 1 #[.val (.ref a1), .val (.int p1), .val (.ref a2), .val .null, .val .null, .val (.double d1), .second, .val (.double d2), .second, .val (.double d3), .second, .val (.int p2)] [(.ref a1)])) t → Steps p.tables e below (s₁.setTop (mkF m 0 #[.val (.ref a1), .val (.int p1), .val (.ref a2), .val .null, .val .null, .val (.double d1), .second, .val (.double d2), .second, .val (.double d3), .second, .val (.int p2)] [])) t := by
    intro t kt
    show Steps p.tables e below (s₁.setTop (mkF m 0 #[.val (.ref a1), .val (.int p1), .val (.ref a2), .val .null, .val .null, .val (.double d1), .second, .val (.double d2), .second, .val (.double d3), .second, .val (.int p2)] [])) _
    refine XS.aloadN X0.here hx rfl (hb hby d3_0) rfl rfl ?_
    exact kt
  refine Go.adv sg1 ?_
  obtain ⟨T2, X2, e2, st2⟩ := initO X0 hx hZ hown (hw _ (List.mem_of_getElem? (i := 22) rfl)) (hw _ (List.mem_of_getElem? (i := 23) rfl)) (hw _ (List.mem_of_getElem? (i := 24) rfl)) e0 (g := (mkF m 1 #[.val (.ref a1), .val (.int p1), .val (.ref a2), .val .null, .val .null, .val (.double d1), .second, .val (.double d2), .second, .val (.double d3), .second, .val (.int p2)] [(.ref a1)])) rfl (by rw [hml]; rfl) rfl (hb hby d3_1) (by decide) (W := 0) (by show 2 * 0 + _ ≤ _; exact Nat.le_of_eq rfl) (by decide)
  refine Go.adv st2 ?_
  show Go p.tables e below s _ _ _ (T2.setTop (mkF m 4 #[.val (.ref a1), .val (.int p1), .val (.ref a2), .val .null, .val .null, .val (.double d1), .second, .val (.double d2), .second, .val (.double d3), .second, .val (.int p2)] []))
  have sg3 : ∀ t, Steps p.tables e below (T2.setTop (mkF m 97 #[.val (.ref a1), .val (.int p1), .val (.ref a2), .val .null, .val .null, .val (.double d1), .second, .val (.double d2), .second, .val (.double d3), .second, .val (.int p2)] [(.int p1), (.ref a1)])) t → Steps p.tables e below (T2.setTop (mkF m 4 #[.val (.ref a1), .val (.int p1), .val (.ref a2), .val .null, .val .null, .val (.double d1), .second, .val (.double d2), .second, .val (.double d3), .second, .val (.int p2)] [])) t := by
    intro t kt
    show Steps p.tables e below (T2.setTop (mkF m 4 #[.val (.ref a1), .val (.int p1), .val (.ref a2), .val .null, .val .null, .val (.double d1), .second, .val (.double d2), .second, .val (.double d3), .second, .val (.int p2)] [])) _
    refine own_dload X2.here hx rfl (hb hby d3_4) rfl ?_
    show Steps p.tables e below (T2.setTop (mkF m 6 #[.val (.ref a1), .val (.int p1), .val (.ref a2), .val .null, .val .null, .val (.double d1), .second, .val (.double d2), .second, .val (.double d3), .second, .val (.int p2)] [(.double d1)])) _
    refine own_dconst0 X2.here hx rfl (hb hby d3_6) ?_
    show Steps p.tables e below (T2.setTop (mkF m 7 #[.val (.ref a1), .val (.int p1), .val (.ref a2), .val .null, .val .null, .val (.double d1), .second, .val (.double d2), .second, .val (.double d3), .second, .val (.int p2)] [(.double (0 : UInt64)), (.double d1)])) _
    refine own_dcmp X2.here hx rfl (hb hby d3_7) rfl ?_
    show Steps p.tables e below (T2.setTop (mkF m 8 #[.val (.ref a1), .val (.int p1), .val (.ref a2), .val .null, .val .null, .val (.double d1), .second, .val (.double d2), .second, .val (.double d3), .second, .val (.int p2)] [(.int (cmpValue (FP.dcmp d1 (0 : UInt64)) .l))])) _
    refine XS.ifYes X2.here hx rfl (pc0 := 8) (pc' := 27) rfl (hb hby d3_8) rfl ((if0 _ _).trans (tlt (hL.1 : (0 : Int32) < (cmpValue (FP.dcmp d1 (0 : UInt64)) .l))).2.2.1) (by decide) (by decide) ?_
    show Steps p.tables e below (T2.setTop (mkF m 27 #[.val (.ref a1), .val (.int p1), .val (.ref a2), .val .null, .val .null, .val (.double d1), .second, .val (.double d2), .second, .val (.double d3), .second, .val (.int p2)] [])) _
    refine own_dload X2.here hx rfl (hb hby d3_27) rfl ?_
    show Steps p.tables e below (T2.setTop (mkF m 29 #[.val (.ref a1), .val (.int p1), .val (.ref a2), .val .null, .val .null, .val (.double d1), .second, .val (.double d2), .second, .val (.double d3), .second, .val (.int p2)] [(.double d2)])) _
    refine own_dconst0 X2.here hx rfl (hb hby d3_29) ?_
    show Steps p.tables e below (T2.setTop (mkF m 30 #[.val (.ref a1), .val (.int p1), .val (.ref a2), .val .null, .val .null, .val (.double d1), .second, .val (.double d2), .second, .val (.double d3), .second, .val (.int p2)] [(.double (0 : UInt64)), (.double d2)])) _
    refine own_dcmp X2.here hx rfl (hb hby d3_30) rfl ?_
    show Steps p.tables e below (T2.setTop (mkF m 31 #[.val (.ref a1), .val (.int p1), .val (.ref a2), .val .null, .val .null, .val (.double d1), .second, .val (.double d2), .second, .val (.double d3), .second, .val (.int p2)] [(.int (cmpValue (FP.dcmp d2 (0 : UInt64)) .l))])) _
    refine XS.ifYes X2.here hx rfl (pc0 := 31) (pc' := 50) rfl (hb hby d3_31) rfl ((if0 _ _).trans (flt (hL.2.1 : ¬ ((cmpValue (FP.dcmp d2 (0 : UInt64)) .l) < (0 : Int32)))).2.1) (by decide) (by decide) ?_
    show Steps p.tables e below (T2.setTop (mkF m 50 #[.val (.ref a1), .val (.int p1), .val (.ref a2), .val .null, .val .null, .val (.double d1), .second, .val (.double d2), .second, .val (.double d3), .second, .val (.int p2)] [])) _
    refine own_dload X2.here hx rfl (hb hby d3_50) rfl ?_
    show Steps p.tables e below (T2.setTop (mkF m 52 #[.val (.ref a1), .val (.int p1), .val (.ref a2), .val .null, .val .null, .val (.double d1), .second, .val (.double d2), .second, .val (.double d3), .second, .val (.int p2)] [(.double d3)])) _
    refine own_dconst0 X2.here hx rfl (hb hby d3_52) ?_
    show Steps p.tables e below (T2.setTop (mkF m 53 #[.val (.ref a1), .val (.int p1), .val (.ref a2), .val .null, .val .null, .val (.double d1), .second, .val (.double d2), .second, .val (.double d3), .second, .val (.int p2)] [(.double (0 : UInt64)), (.double d3)])) _
    refine own_dcmp X2.here hx rfl (hb hby d3_53) rfl ?_
    show Steps p.tables e below (T2.setTop (mkF m 54 #[.val (.ref a1), .val (.int p1), .val (.ref a2), .val .null, .val .null, .val (.double d1), .second, .val (.double d2), .second, .val (.double d3), .second, .val (.int p2)] [(.int (cmpValue (FP.dcmp d3 (0 : UInt64)) .l))])) _
    refine XS.ifYes X2.here hx rfl (pc0 := 54) (pc' := 73) rfl (hb hby d3_54) rfl ((if0 _ _).trans (flt (hL.2.2.1 : ¬ ((cmpValue (FP.dcmp d3 (0 : UInt64)) .l) < (0 : Int32)))).2.1) (by decide) (by decide) ?_
    show Steps p.tables e below (T2.setTop (mkF m 73 #[.val (.ref a1), .val (.int p1), .val (.ref a2), .val .null, .val .null, .val (.double d1), .second, .val (.double d2), .second, .val (.double d3), .second, .val (.int p2)] [])) _
    refine XS.iload X2.here hx rfl (hb hby d3_73) rfl ?_
    show Steps p.tables e below (T2.setTop (mkF m 75 #[.val (.ref a1), .val (.int p1), .val (.ref a2), .val .null, .val .null, .val (.double d1), .second, .val (.double d2), .second, .val (.double d3), .second, .val (.int p2)] [(.int p2)])) _
    refine XS.iconst X2.here hx rfl (hb hby d3_75) ?_
    show Steps p.tables e below (T2.setTop (mkF m 76 #[.val (.ref a1), .val (.int p1), .val (.ref a2), .val .null, .val .null, .val (.double d1), .second, .val (.double d2), .second, .val (.double d3), .second, .val (.int p2)] [(.int (1 : Int32)), (.int p2)])) _
    refine XS.icmpYes X2.here hx rfl (pc0 := 76) (pc' := 95) rfl (hb hby d3_76) rfl (flt (hL.2.2.2 : ¬ (p2 < (1 : Int32)))).2.1 (by decide) (by decide) ?_
    show Steps p.tables e below (T2.setTop (mkF m 95 #[.val (.ref a1), .val (.int p1), .val (.ref a2), .val .null, .val .null, .val (.double d1), .second, .val (.double d2), .second, .val (.double d3), .second, .val (.int p2)] [])) _
    refine XS.aloadN X2.here hx rfl (hb hby d3_95) rfl rfl ?_
    show Steps p.tables e below (T2.setTop (mkF m 96 #[.val (.ref a1), .val (.int p1), .val (.ref a2), .val .null, .val .null, .val (.double d1), .second, .val (.double d2), .second, .val (.double d3), .second, .val (.int p2)] [(.ref a1)])) _
    refine XS.iloadN X2.here hx rfl (hb hby d3_96) rfl ?_
    exact kt
  refine Go.adv sg3 ?_
  obtain ⟨T4, h4, X4, e4, W4, st4⟩ := putF X2 hx hZ hown (host := "") (Or.inl (hw _ (List.mem_of_getElem? (i := 25) rfl))) Via.refl e2 F_index_a1 E_a1 (Or.inr ⟨(hw _ (List.mem_of_getElem? (i := 26) rfl)), rfl, hnm⟩) (hw _ (List.mem_of_getElem? (i := 9) rfl)) (ty := .int) (by decide) rfl rfl (g := (mkF m 97 #[.val (.ref a1), .val (.int p1), .val (.ref a2), .val .null, .val .null, .val (.double d1), .second, .val (.double d2), .second, .val (.double d3), .second, .val (.int p2)] [(.int p1), (.ref a1)])) rfl rfl (hb hby d3_97)
  have Fw4 := F_index_a1.same W4
  have K4 : Keep h0 h4 [a1] := (Keep.refl h0 [a1]).wr W4 (Or.inl (List.mem_of_getElem? (i := 0) rfl))
  have Z4 : n0 ≤ h4.size := Nat.le_trans Z0 (Keep.of_wr W4).1
  have N4 := Fr.snoc X4 N0 g_a1
  refine Go.adv st4 ?_
  show Go p.tables e below s _ _ _ (T4.setTop (mkF m 100 #[.val (.ref a1), .val (.int p1), .val (.ref a2), .val .null, .val .null, .val (.double d1), .second, .val (.double d2), .second, .val (.double d3), .second, .val (.int p2)] []))
  have sg5 : ∀ t, Steps p.tables e below (T4.setTop (mkF m 102 #[.val (.ref a1), .val (.int p1), .val (.ref a2), .val .null, .val .null, .val (.double d1), .second, .val (.double d2), .second, .val (.double d3), .second, .val (.int p2)] [(.ref a2), (.ref a1)])) t → Steps p.tables e below (T4.setTop (mkF m 100 #[.val (.ref a1), .val (.int p1), .val (.ref a2), .val .null, .val .null, .val (.double d1), .second, .val (.double d2), .second, .val (.double d3), .second, .val (.int p2)] [])) t := by
    intro t kt
    show Steps p.tables e below (T4.setTop (mkF m 100 #[.val (.ref a1), .val (.int p1), .val (.ref a2), .val .null, .val .null, .val (.double d1), .second, .val (.double d2), .second, .val (.double d3), .second, .val (.int p2)] [])) _
    refine XS.aloadN X4.here hx rfl (hb hby d3_100) rfl rfl ?_
    show Steps p.tables e below (T4.setTop (mkF m 101 #[.val (.ref a1), .val (.int p1), .val (.ref a2), .val .null, .val .null, .val (.double d1), .second, .val (.double d2), .second, .val (.double d3), .second, .val (.int p2)] [(.ref a1)])) _
    refine XS.aloadN X4.here hx rfl (hb hby d3_101) rfl rfl ?_
    exact kt
  refine Go.adv sg5 ?_
  have f6 := (F_id_a1.other W4 (Or.inr (slot_ne (Or.inr (hw _ (List.mem_of_getElem? (i := 28) rfl))) (Or.inr (hw _ (List.mem_of_getElem? (i := 26) rfl))) (by decide) (t := (.object "java/lang/String")) (t' := .int) (by decide) (by decide))))
  have f7 := (E_a1.wr W4)
  obtain ⟨T8, h8, X8, e8, W8, st8⟩ := putF X4 hx hZ hown (host := "") (Or.inl (hw _ (List.mem_of_getElem? (i := 27) rfl))) Via.refl e4 f6 f7 (Or.inr ⟨(hw _ (List.mem_of_getElem? (i := 28) rfl)), rfl, hnm⟩) (hw _ (List.mem_of_getElem? (i := 9) rfl)) (ty := (.object "java/lang/String")) (by decide) rfl rfl (g := (mkF m 102 #[.val (.ref a1), .val (.int p1), .val (.ref a2), .val .null, .val .null, .val (.double d1), .second, .val (.double d2), .second, .val (.double d3), .second, .val (.int p2)] [(.ref a2), (.ref a1)])) rfl rfl (hb hby d3_102)
  have Fw8 := f6.same W8
  have K8 : Keep h0 h8 [a1] := K4.wr W8 (Or.inl (List.mem_of_getElem? (i := 0) rfl))
  have Z8 : n0 ≤ h8.size := Nat.le_trans Z4 (Keep.of_wr W8).1
  have N8 := Fr.snoc X8 N4 g_a1
  refine Go.adv st8 ?_
  show Go p.tables e below s _ _ _ (T8.setTop (mkF m 105 #[.val (.ref a1), .val (.int p1), .val (.ref a2), .val .null, .val .null, .val (.double d1), .second, .val (.double d2), .second, .val (.double d3), .second, .val (.int p2)] []))
  have sg9 : ∀ t, Steps p.tables e below (T8.setTop (mkF m 107 #[.val (.ref a1), .val (.int p1), .val (.ref a2), .val .null, .val .null, .val (.double d1), .second, .val (.double d2), .second, .val (.double d3), .second, .val (.int p2)] [.null, (.ref a1)])) t → Steps p.tables e below (T8.setTop (mkF m 105 #[.val (.ref a1), .val (.int p1), .val (.ref a2), .val .null, .val .null, .val (.double d1), .second, .val (.double d2), .second, .val (.double d3), .second, .val (.int p2)] [])) t := by
    intro t kt
    show Steps p.tables e below (T8.setTop (mkF m 105 #[.val (.ref a1), .val (.int p1), .val (.ref a2), .val .null, .val .null, .val (.double d1), .second, .val (.double d2), .second, .val (.double d3), .second, .val (.int p2)] [])) _
    refine XS.aloadN X8.here hx rfl (hb hby d3_105) rfl rfl ?_
    show Steps p.tables e below (T8.setTop (mkF m 106 #[.val (.ref a1), .val (.int p1), .val (.ref a2), .val .null, .val .null, .val (.double d1), .second, .val (.double d2), .second, .val (.double d3), .second, .val (.int p2)] [(.ref a1)])) _
    refine XS.aloadN X8.here hx rfl (hb hby d3_106) rfl rfl ?_
    exact kt
  refine Go.adv sg9 ?_
  have f10 := ((F_from_a1.other W4 (Or.inr (slot_ne (Or.inr (hw _ (List.mem_of_getElem? (i := 30) rfl))) (Or.inr (hw _ (List.mem_of_getElem? (i := 26) rfl))) (by decide) (t := (.object "com/example/nudged_routes/nudgedroutes/network/Node")) (t' := .int) (by decide) (by decide)))).other W8 (Or.inr (slot_ne (Or.inr (hw _ (List.mem_of_getElem? (i := 30) rfl))) (Or.inr (hw _ (List.mem_of_getElem? (i := 28) rfl))) (by decide) (t := (.object "com/example/nudged_routes/nudgedroutes/network/Node")) (t' := (.object "java/lang/String")) (by decide) (by decide))))
  have f11 := (f7.wr W8)
  obtain ⟨T12, h12, X12, e12, W12, st12⟩ := putF X8 hx hZ hown (host := "") (Or.inl (hw _ (List.mem_of_getElem? (i := 29) rfl))) Via.refl e8 f10 f11 (Or.inr ⟨(hw _ (List.mem_of_getElem? (i := 30) rfl)), rfl, hnm⟩) (hw _ (List.mem_of_getElem? (i := 9) rfl)) (ty := (.object "com/example/nudged_routes/nudgedroutes/network/Node")) (by decide) rfl rfl (g := (mkF m 107 #[.val (.ref a1), .val (.int p1), .val (.ref a2), .val .null, .val .null, .val (.double d1), .second, .val (.double d2), .second, .val (.double d3), .second, .val (.int p2)] [.null, (.ref a1)])) rfl rfl (hb hby d3_107)
  have Fw12 := f10.same W12
  have K12 : Keep h0 h12 [a1] := K8.wr W12 (Or.inl (List.mem_of_getElem? (i := 0) rfl))
  have Z12 : n0 ≤ h12.size := Nat.le_trans Z8 (Keep.of_wr W12).1
  have N12 := Fr.snoc X12 N8 g_a1
  refine Go.adv st12 ?_
  show Go p.tables e below s _ _ _ (T12.setTop (mkF m 110 #[.val (.ref a1), .val (.int p1), .val (.ref a2), .val .null, .val .null, .val (.double d1), .second, .val (.double d2), .second, .val (.double d3), .second, .val (.int p2)] []))
  have sg13 : ∀ t, Steps p.tables e below (T12.setTop (mkF m 113 #[.val (.ref a1), .val (.int p1), .val (.ref a2), .val .null, .val .null, .val (.double d1), .second, .val (.double d2), .second, .val (.double d3), .second, .val (.int p2)] [.null, (.ref a1)])) t → Steps p.tables e below (T12.setTop (mkF m 110 #[.val (.ref a1), .val (.int p1), .val (.ref a2), .val .null, .val .null, .val (.double d1), .second, .val (.double d2), .second, .val (.double d3), .second, .val (.int p2)] [])) t := by
    intro t kt
    show Steps p.tables e below (T12.setTop (mkF m 110 #[.val (.ref a1), .val (.int p1), .val (.ref a2), .val .null, .val .null, .val (.double d1), .second, .val (.double d2), .second, .val (.double d3), .second, .val (.int p2)] [])) _
    refine XS.aloadN X12.here hx rfl (hb hby d3_110) rfl rfl ?_
    show Steps p.tables e below (T12.setTop (mkF m 111 #[.val (.ref a1), .val (.int p1), .val (.ref a2), .val .null, .val .null, .val (.double d1), .second, .val (.double d2), .second, .val (.double d3), .second, .val (.int p2)] [(.ref a1)])) _
    refine XS.aload X12.here hx rfl (hb hby d3_111) rfl rfl ?_
    exact kt
  refine Go.adv sg13 ?_
  have f14 := (((F_to_a1.other W4 (Or.inr (slot_ne (Or.inr (hw _ (List.mem_of_getElem? (i := 32) rfl))) (Or.inr (hw _ (List.mem_of_getElem? (i := 26) rfl))) (by decide) (t := (.object "com/example/nudged_routes/nudgedroutes/network/Node")) (t' := .int) (by decide) (by decide)))).other W8 (Or.inr (slot_ne (Or.inr (hw _ (List.mem_of_getElem? (i := 32) rfl))) (Or.inr (hw _ (List.mem_of_getElem? (i := 28) rfl))) (by decide) (t := (.object "com/example/nudged_routes/nudgedroutes/network/Node")) (t' := (.object "java/lang/String")) (by decide) (by decide)))).other W12 (Or.inr (slot_ne (Or.inr (hw _ (List.mem_of_getElem? (i := 32) rfl))) (Or.inr (hw _ (List.mem_of_getElem? (i := 30) rfl))) (by decide) (t := (.object "com/example/nudged_routes/nudgedroutes/network/Node")) (t' := (.object "com/example/nudged_routes/nudgedroutes/network/Node")) (by decide) (by decide))))
  have f15 := (f11.wr W12)
  obtain ⟨T16, h16, X16, e16, W16, st16⟩ := putF X12 hx hZ hown (host := "") (Or.inl (hw _ (List.mem_of_getElem? (i := 31) rfl))) Via.refl e12 f14 f15 (Or.inr ⟨(hw _ (List.mem_of_getElem? (i := 32) rfl)), rfl, hnm⟩) (hw _ (List.mem_of_getElem? (i := 9) rfl)) (ty := (.object "com/example/nudged_routes/nudgedroutes/network/Node")) (by decide) rfl rfl (g := (mkF m 113 #[.val (.ref a1), .val (.int p1), .val (.ref a2), .val .null, .val .null, .val (.double d1), .second, .val (.double d2), .second, .val (.double d3), .second, .val (.int p2)] [.null, (.ref a1)])) rfl rfl (hb hby d3_113)
  have Fw16 := f14.same W16
  have K16 : Keep h0 h16 [a1] := K12.wr W16 (Or.inl (List.mem_of_getElem? (i := 0) rfl))
  have Z16 : n0 ≤ h16.size := Nat.le_trans Z12 (Keep.of_wr W16).1
  have N16 := Fr.snoc X16 N12 g_a1
  refine Go.adv st16 ?_
  show Go p.tables e below s _ _ _ (T16.setTop (mkF m 116 #[.val (.ref a1), .val (.int p1), .val (.ref a2), .val .null, .val .null, .val (.double d1), .second, .val (.double d2), .second, .val (.double d3), .second, .val (.int p2)] []))
  have sg17 : ∀ t, Steps p.tables e below (T16.setTop (mkF m 119 #[.val (.ref a1), .val (.int p1), .val (.ref a2), .val .null, .val .null, .val (.double d1), .second, .val (.double d2), .second, .val (.double d3), .second, .val (.int p2)] [(.double d1), (.ref a1)])) t → Steps p.tables e below (T16.setTop (mkF m 116 #[.val (.ref a1), .val (.int p1), .val (.ref a2), .val .null, .val .null, .val (.double d1), .second, .val (.double d2), .second, .val (.double d3), .second, .val (.int p2)] [])) t := by
    intro t kt
    show Steps p.tables e below (T16.setTop (mkF m 116 #[.val (.ref a1), .val (.int p1), .val (.ref a2), .val .null, .val .null, .val (.double d1), .second, .val (.double d2), .second, .val (.double d3), .second, .val (.int p2)] [])) _
    refine XS.aloadN X16.here hx rfl (hb hby d3_116) rfl rfl ?_
    show Steps p.tables e below (T16.setTop (mkF m 117 #[.val (.ref a1), .val (.int p1), .val (.ref a2), .val .null, .val .null, .val (.double d1), .second, .val (.double d2), .second, .val (.double d3), .second, .val (.int p2)] [(.ref a1)])) _
    refine own_dload X16.here hx rfl (hb hby d3_117) rfl ?_
    exact kt
  refine Go.adv sg17 ?_
  have f18 := ((((F_capacityVph_a1.other W4 (Or.inr (slot_ne (Or.inr (hw _ (List.mem_of_getElem? (i := 34) rfl))) (Or.inr (hw _ (List.mem_of_getElem? (i := 26) rfl))) (by decide) (t := .double) (t' := .int) (by decide) (by decide)))).other W8 (Or.inr (slot_ne (Or.inr (hw _ (List.mem_of_getElem? (i := 34) rfl))) (Or.inr (hw _ (List.mem_of_getElem? (i := 28) rfl))) (by decide) (t := .double) (t' := (.object "java/lang/String")) (by decide) (by decide)))).other W12 (Or.inr (slot_ne (Or.inr (hw _ (List.mem_of_getElem? (i := 34) rfl))) (Or.inr (hw _ (List.mem_of_getElem? (i := 30) rfl))) (by decide) (t := .double) (t' := (.object "com/example/nudged_routes/nudgedroutes/network/Node")) (by decide) (by decide)))).other W16 (Or.inr (slot_ne (Or.inr (hw _ (List.mem_of_getElem? (i := 34) rfl))) (Or.inr (hw _ (List.mem_of_getElem? (i := 32) rfl))) (by decide) (t := .double) (t' := (.object "com/example/nudged_routes/nudgedroutes/network/Node")) (by decide) (by decide))))
  have f19 := (f15.wr W16)
  obtain ⟨T20, h20, X20, e20, W20, st20⟩ := putF X16 hx hZ hown (host := "") (Or.inl (hw _ (List.mem_of_getElem? (i := 33) rfl))) Via.refl e16 f18 f19 (Or.inr ⟨(hw _ (List.mem_of_getElem? (i := 34) rfl)), rfl, hnm⟩) (hw _ (List.mem_of_getElem? (i := 9) rfl)) (ty := .double) (by decide) rfl rfl (g := (mkF m 119 #[.val (.ref a1), .val (.int p1), .val (.ref a2), .val .null, .val .null, .val (.double d1), .second, .val (.double d2), .second, .val (.double d3), .second, .val (.int p2)] [(.double d1), (.ref a1)])) rfl rfl (hb hby d3_119)
  have Fw20 := f18.same W20
  have K20 : Keep h0 h20 [a1] := K16.wr W20 (Or.inl (List.mem_of_getElem? (i := 0) rfl))
  have Z20 : n0 ≤ h20.size := Nat.le_trans Z16 (Keep.of_wr W20).1
  have N20 := Fr.snoc X20 N16 g_a1
  refine Go.adv st20 ?_
  show Go p.tables e below s _ _ _ (T20.setTop (mkF m 122 #[.val (.ref a1), .val (.int p1), .val (.ref a2), .val .null, .val .null, .val (.double d1), .second, .val (.double d2), .second, .val (.double d3), .second, .val (.int p2)] []))
  have sg21 : ∀ t, Steps p.tables e below (T20.setTop (mkF m 125 #[.val (.ref a1), .val (.int p1), .val (.ref a2), .val .null, .val .null, .val (.double d1), .second, .val (.double d2), .second, .val (.double d3), .second, .val (.int p2)] [(.double d2), (.ref a1)])) t → Steps p.tables e below (T20.setTop (mkF m 122 #[.val (.ref a1), .val (.int p1), .val (.ref a2), .val .null, .val .null, .val (.double d1), .second, .val (.double d2), .second, .val (.double d3), .second, .val (.int p2)] [])) t := by
    intro t kt
    show Steps p.tables e below (T20.setTop (mkF m 122 #[.val (.ref a1), .val (.int p1), .val (.ref a2), .val .null, .val .null, .val (.double d1), .second, .val (.double d2), .second, .val (.double d3), .second, .val (.int p2)] [])) _
    refine XS.aloadN X20.here hx rfl (hb hby d3_122) rfl rfl ?_
    show Steps p.tables e below (T20.setTop (mkF m 123 #[.val (.ref a1), .val (.int p1), .val (.ref a2), .val .null, .val .null, .val (.double d1), .second, .val (.double d2), .second, .val (.double d3), .second, .val (.int p2)] [(.ref a1)])) _
    refine own_dload X20.here hx rfl (hb hby d3_123) rfl ?_
    exact kt
  refine Go.adv sg21 ?_
  have f22 := (((((F_lengthM_a1.other W4 (Or.inr (slot_ne (Or.inr (hw _ (List.mem_of_getElem? (i := 36) rfl))) (Or.inr (hw _ (List.mem_of_getElem? (i := 26) rfl))) (by decide) (t := .double) (t' := .int) (by decide) (by decide)))).other W8 (Or.inr (slot_ne (Or.inr (hw _ (List.mem_of_getElem? (i := 36) rfl))) (Or.inr (hw _ (List.mem_of_getElem? (i := 28) rfl))) (by decide) (t := .double) (t' := (.object "java/lang/String")) (by decide) (by decide)))).other W12 (Or.inr (slot_ne (Or.inr (hw _ (List.mem_of_getElem? (i := 36) rfl))) (Or.inr (hw _ (List.mem_of_getElem? (i := 30) rfl))) (by decide) (t := .double) (t' := (.object "com/example/nudged_routes/nudgedroutes/network/Node")) (by decide) (by decide)))).other W16 (Or.inr (slot_ne (Or.inr (hw _ (List.mem_of_getElem? (i := 36) rfl))) (Or.inr (hw _ (List.mem_of_getElem? (i := 32) rfl))) (by decide) (t := .double) (t' := (.object "com/example/nudged_routes/nudgedroutes/network/Node")) (by decide) (by decide)))).other W20 (Or.inr (slot_ne (Or.inr (hw _ (List.mem_of_getElem? (i := 36) rfl))) (Or.inr (hw _ (List.mem_of_getElem? (i := 34) rfl))) (by decide) (t := .double) (t' := .double) (by decide) (by decide))))
  have f23 := (f19.wr W20)
  obtain ⟨T24, h24, X24, e24, W24, st24⟩ := putF X20 hx hZ hown (host := "") (Or.inl (hw _ (List.mem_of_getElem? (i := 35) rfl))) Via.refl e20 f22 f23 (Or.inr ⟨(hw _ (List.mem_of_getElem? (i := 36) rfl)), rfl, hnm⟩) (hw _ (List.mem_of_getElem? (i := 9) rfl)) (ty := .double) (by decide) rfl rfl (g := (mkF m 125 #[.val (.ref a1), .val (.int p1), .val (.ref a2), .val .null, .val .null, .val (.double d1), .second, .val (.double d2), .second, .val (.double d3), .second, .val (.int p2)] [(.double d2), (.ref a1)])) rfl rfl (hb hby d3_125)
  have Fw24 := f22.same W24
  have K24 : Keep h0 h24 [a1] := K20.wr W24 (Or.inl (List.mem_of_getElem? (i := 0) rfl))
  have Z24 : n0 ≤ h24.size := Nat.le_trans Z20 (Keep.of_wr W24).1
  have N24 := Fr.snoc X24 N20 g_a1
  refine Go.adv st24 ?_
  show Go p.tables e below s _ _ _ (T24.setTop (mkF m 128 #[.val (.ref a1), .val (.int p1), .val (.ref a2), .val .null, .val .null, .val (.double d1), .second, .val (.double d2), .second, .val (.double d3), .second, .val (.int p2)] []))
  have sg25 : ∀ t, Steps p.tables e below (T24.setTop (mkF m 131 #[.val (.ref a1), .val (.int p1), .val (.ref a2), .val .null, .val .null, .val (.double d1), .second, .val (.double d2), .second, .val (.double d3), .second, .val (.int p2)] [(.double d3), (.ref a1)])) t → Steps p.tables e below (T24.setTop (mkF m 128 #[.val (.ref a1), .val (.int p1), .val (.ref a2), .val .null, .val .null, .val (.double d1), .second, .val (.double d2), .second, .val (.double d3), .second, .val (.int p2)] [])) t := by
    intro t kt
    show Steps p.tables e below (T24.setTop (mkF m 128 #[.val (.ref a1), .val (.int p1), .val (.ref a2), .val .null, .val .null, .val (.double d1), .second, .val (.double d2), .second, .val (.double d3), .second, .val (.int p2)] [])) _
    refine XS.aloadN X24.here hx rfl (hb hby d3_128) rfl rfl ?_
    show Steps p.tables e below (T24.setTop (mkF m 129 #[.val (.ref a1), .val (.int p1), .val (.ref a2), .val .null, .val .null, .val (.double d1), .second, .val (.double d2), .second, .val (.double d3), .second, .val (.int p2)] [(.ref a1)])) _
    refine own_dload X24.here hx rfl (hb hby d3_129) rfl ?_
    exact kt
  refine Go.adv sg25 ?_
  have f26 := ((((((F_freeFlowTimeS_a1.other W4 (Or.inr (slot_ne (Or.inr (hw _ (List.mem_of_getElem? (i := 38) rfl))) (Or.inr (hw _ (List.mem_of_getElem? (i := 26) rfl))) (by decide) (t := .double) (t' := .int) (by decide) (by decide)))).other W8 (Or.inr (slot_ne (Or.inr (hw _ (List.mem_of_getElem? (i := 38) rfl))) (Or.inr (hw _ (List.mem_of_getElem? (i := 28) rfl))) (by decide) (t := .double) (t' := (.object "java/lang/String")) (by decide) (by decide)))).other W12 (Or.inr (slot_ne (Or.inr (hw _ (List.mem_of_getElem? (i := 38) rfl))) (Or.inr (hw _ (List.mem_of_getElem? (i := 30) rfl))) (by decide) (t := .double) (t' := (.object "com/example/nudged_routes/nudgedroutes/network/Node")) (by decide) (by decide)))).other W16 (Or.inr (slot_ne (Or.inr (hw _ (List.mem_of_getElem? (i := 38) rfl))) (Or.inr (hw _ (List.mem_of_getElem? (i := 32) rfl))) (by decide) (t := .double) (t' := (.object "com/example/nudged_routes/nudgedroutes/network/Node")) (by decide) (by decide)))).other W20 (Or.inr (slot_ne (Or.inr (hw _ (List.mem_of_getElem? (i := 38) rfl))) (Or.inr (hw _ (List.mem_of_getElem? (i := 34) rfl))) (by decide) (t := .double) (t' := .double) (by decide) (by decide)))).other W24 (Or.inr (slot_ne (Or.inr (hw _ (List.mem_of_getElem? (i := 38) rfl))) (Or.inr (hw _ (List.mem_of_getElem? (i := 36) rfl))) (by decide) (t := .double) (t' := .double) (by decide) (by decide))))
  have f27 := (f23.wr W24)
  obtain ⟨T28, h28, X28, e28, W28, st28⟩ := putF X24 hx hZ hown (host := "") (Or.inl (hw _ (List.mem_of_getElem? (i := 37) rfl))) Via.refl e24 f26 f27 (Or.inr ⟨(hw _ (List.mem_of_getElem? (i := 38) rfl)), rfl, hnm⟩) (hw _ (List.mem_of_getElem? (i := 9) rfl)) (ty := .double) (by decide) rfl rfl (g := (mkF m 131 #[.val (.ref a1), .val (.int p1), .val (.ref a2), .val .null, .val .null, .val (.double d1), .second, .val (.double d2), .second, .val (.double d3), .second, .val (.int p2)] [(.double d3), (.ref a1)])) rfl rfl (hb hby d3_131)
  have Fw28 := f26.same W28
  have K28 : Keep h0 h28 [a1] := K24.wr W28 (Or.inl (List.mem_of_getElem? (i := 0) rfl))
  have Z28 : n0 ≤ h28.size := Nat.le_trans Z24 (Keep.of_wr W28).1
  have N28 := Fr.snoc X28 N24 g_a1
  refine Go.adv st28 ?_
  show Go p.tables e below s _ _ _ (T28.setTop (mkF m 134 #[.val (.ref a1), .val (.int p1), .val (.ref a2), .val .null, .val .null, .val (.double d1), .second, .val (.double d2), .second, .val (.double d3), .second, .val (.int p2)] []))
  have sg29 : ∀ t, Steps p.tables e below (T28.setTop (mkF m 137 #[.val (.ref a1), .val (.int p1), .val (.ref a2), .val .null, .val .null, .val (.double d1), .second, .val (.double d2), .second, .val (.double d3), .second, .val (.int p2)] [(.int p2), (.ref a1)])) t → Steps p.tables e below (T28.setTop (mkF m 134 #[.val (.ref a1), .val (.int p1), .val (.ref a2), .val .null, .val .null, .val (.double d1), .second, .val (.double d2), .second, .val (.double d3), .second, .val (.int p2)] [])) t := by
    intro t kt
    show Steps p.tables e below (T28.setTop (mkF m 134 #[.val (.ref a1), .val (.int p1), .val (.ref a2), .val .null, .val .null, .val (.double d1), .second, .val (.double d2), .second, .val (.double d3), .second, .val (.int p2)] [])) _
    refine XS.aloadN X28.here hx rfl (hb hby d3_134) rfl rfl ?_
    show Steps p.tables e below (T28.setTop (mkF m 135 #[.val (.ref a1), .val (.int p1), .val (.ref a2), .val .null, .val .null, .val (.double d1), .second, .val (.double d2), .second, .val (.double d3), .second, .val (.int p2)] [(.ref a1)])) _
    refine XS.iload X28.here hx rfl (hb hby d3_135) rfl ?_
    exact kt
  refine Go.adv sg29 ?_
  have f30 := (((((((F_lanes_a1.other W4 (Or.inr (slot_ne (Or.inr (hw _ (List.mem_of_getElem? (i := 40) rfl))) (Or.inr (hw _ (List.mem_of_getElem? (i := 26) rfl))) (by decide) (t := .int) (t' := .int) (by decide) (by decide)))).other W8 (Or.inr (slot_ne (Or.inr (hw _ (List.mem_of_getElem? (i := 40) rfl))) (Or.inr (hw _ (List.mem_of_getElem? (i := 28) rfl))) (by decide) (t := .int) (t' := (.object "java/lang/String")) (by decide) (by decide)))).other W12 (Or.inr (slot_ne (Or.inr (hw _ (List.mem_of_getElem? (i := 40) rfl))) (Or.inr (hw _ (List.mem_of_getElem? (i := 30) rfl))) (by decide) (t := .int) (t' := (.object "com/example/nudged_routes/nudgedroutes/network/Node")) (by decide) (by decide)))).other W16 (Or.inr (slot_ne (Or.inr (hw _ (List.mem_of_getElem? (i := 40) rfl))) (Or.inr (hw _ (List.mem_of_getElem? (i := 32) rfl))) (by decide) (t := .int) (t' := (.object "com/example/nudged_routes/nudgedroutes/network/Node")) (by decide) (by decide)))).other W20 (Or.inr (slot_ne (Or.inr (hw _ (List.mem_of_getElem? (i := 40) rfl))) (Or.inr (hw _ (List.mem_of_getElem? (i := 34) rfl))) (by decide) (t := .int) (t' := .double) (by decide) (by decide)))).other W24 (Or.inr (slot_ne (Or.inr (hw _ (List.mem_of_getElem? (i := 40) rfl))) (Or.inr (hw _ (List.mem_of_getElem? (i := 36) rfl))) (by decide) (t := .int) (t' := .double) (by decide) (by decide)))).other W28 (Or.inr (slot_ne (Or.inr (hw _ (List.mem_of_getElem? (i := 40) rfl))) (Or.inr (hw _ (List.mem_of_getElem? (i := 38) rfl))) (by decide) (t := .int) (t' := .double) (by decide) (by decide))))
  have f31 := (f27.wr W28)
  obtain ⟨T32, h32, X32, e32, W32, st32⟩ := putF X28 hx hZ hown (host := "") (Or.inl (hw _ (List.mem_of_getElem? (i := 39) rfl))) Via.refl e28 f30 f31 (Or.inr ⟨(hw _ (List.mem_of_getElem? (i := 40) rfl)), rfl, hnm⟩) (hw _ (List.mem_of_getElem? (i := 9) rfl)) (ty := .int) (by decide) rfl rfl (g := (mkF m 137 #[.val (.ref a1), .val (.int p1), .val (.ref a2), .val .null, .val .null, .val (.double d1), .second, .val (.double d2), .second, .val (.double d3), .second, .val (.int p2)] [(.int p2), (.ref a1)])) rfl rfl (hb hby d3_137)
  have Fw32 := f30.same W32
  have K32 : Keep h0 h32 [a1] := K28.wr W32 (Or.inl (List.mem_of_getElem? (i := 0) rfl))
  have Z32 : n0 ≤ h32.size := Nat.le_trans Z28 (Keep.of_wr W32).1
  have N32 := Fr.snoc X32 N28 g_a1
  refine Go.adv st32 ?_
  show Go p.tables e below s _ _ _ (T32.setTop (mkF m 140 #[.val (.ref a1), .val (.int p1), .val (.ref a2), .val .null, .val .null, .val (.double d1), .second, .val (.double d2), .second, .val (.double d3), .second, .val (.int p2)] []))
  refine Go.ret (v := none) X32 (fun _ => rfl) Bd.notSynchronized (fun fs hr => X32.returnOut hx Bd.returns (hb hby d3_140) hr) ?_ (by decide) (by decide)
  show Q_rm_link Z a1 p1 a2 d1 d2 d3 p2 u_index u_id u_from u_to u_capacityVph u_lengthM u_freeFlowTimeS u_lanes h0 n0 none T32.heap _
  rw [e32]
  have f33 := (f31.wr W32)
  have f34 := (((((((Fw4.other W8 (Or.inr (slot_ne (Or.inr (hw _ (List.mem_of_getElem? (i := 26) rfl))) (Or.inr (hw _ (List.mem_of_getElem? (i := 28) rfl))) (by decide) (t := .int) (t' := (.object "java/lang/String")) (by decide) (by decide)))).other W12 (Or.inr (slot_ne (Or.inr (hw _ (List.mem_of_getElem? (i := 26) rfl))) (Or.inr (hw _ (List.mem_of_getElem? (i := 30) rfl))) (by decide) (t := .int) (t' := (.object "com/example/nudged_routes/nudgedroutes/network/Node")) (by decide) (by decide)))).other W16 (Or.inr (slot_ne (Or.inr (hw _ (List.mem_of_getElem? (i := 26) rfl))) (Or.inr (hw _ (List.mem_of_getElem? (i := 32) rfl))) (by decide) (t := .int) (t' := (.object "com/example/nudged_routes/nudgedroutes/network/Node")) (by decide) (by decide)))).other W20 (Or.inr (slot_ne (Or.inr (hw _ (List.mem_of_getElem? (i := 26) rfl))) (Or.inr (hw _ (List.mem_of_getElem? (i := 34) rfl))) (by decide) (t := .int) (t' := .double) (by decide) (by decide)))).other W24 (Or.inr (slot_ne (Or.inr (hw _ (List.mem_of_getElem? (i := 26) rfl))) (Or.inr (hw _ (List.mem_of_getElem? (i := 36) rfl))) (by decide) (t := .int) (t' := .double) (by decide) (by decide)))).other W28 (Or.inr (slot_ne (Or.inr (hw _ (List.mem_of_getElem? (i := 26) rfl))) (Or.inr (hw _ (List.mem_of_getElem? (i := 38) rfl))) (by decide) (t := .int) (t' := .double) (by decide) (by decide)))).other W32 (Or.inr (slot_ne (Or.inr (hw _ (List.mem_of_getElem? (i := 26) rfl))) (Or.inr (hw _ (List.mem_of_getElem? (i := 40) rfl))) (by decide) (t := .int) (t' := .int) (by decide) (by decide))))
  have f35 := ((((((Fw8.other W12 (Or.inr (slot_ne (Or.inr (hw _ (List.mem_of_getElem? (i := 28) rfl))) (Or.inr (hw _ (List.mem_of_getElem? (i := 30) rfl))) (by decide) (t := (.object "java/lang/String")) (t' := (.object "com/example/nudged_routes/nudgedroutes/network/Node")) (by decide) (by decide)))).other W16 (Or.inr (slot_ne (Or.inr (hw _ (List.mem_of_getElem? (i := 28) rfl))) (Or.inr (hw _ (List.mem_of_getElem? (i := 32) rfl))) (by decide) (t := (.object "java/lang/String")) (t' := (.object "com/example/nudged_routes/nudgedroutes/network/Node")) (by decide) (by decide)))).other W20 (Or.inr (slot_ne (Or.inr (hw _ (List.mem_of_getElem? (i := 28) rfl))) (Or.inr (hw _ (List.mem_of_getElem? (i := 34) rfl))) (by decide) (t := (.object "java/lang/String")) (t' := .double) (by decide) (by decide)))).other W24 (Or.inr (slot_ne (Or.inr (hw _ (List.mem_of_getElem? (i := 28) rfl))) (Or.inr (hw _ (List.mem_of_getElem? (i := 36) rfl))) (by decide) (t := (.object "java/lang/String")) (t' := .double) (by decide) (by decide)))).other W28 (Or.inr (slot_ne (Or.inr (hw _ (List.mem_of_getElem? (i := 28) rfl))) (Or.inr (hw _ (List.mem_of_getElem? (i := 38) rfl))) (by decide) (t := (.object "java/lang/String")) (t' := .double) (by decide) (by decide)))).other W32 (Or.inr (slot_ne (Or.inr (hw _ (List.mem_of_getElem? (i := 28) rfl))) (Or.inr (hw _ (List.mem_of_getElem? (i := 40) rfl))) (by decide) (t := (.object "java/lang/String")) (t' := .int) (by decide) (by decide))))
  have f36 := (((((Fw12.other W16 (Or.inr (slot_ne (Or.inr (hw _ (List.mem_of_getElem? (i := 30) rfl))) (Or.inr (hw _ (List.mem_of_getElem? (i := 32) rfl))) (by decide) (t := (.object "com/example/nudged_routes/nudgedroutes/network/Node")) (t' := (.object "com/example/nudged_routes/nudgedroutes/network/Node")) (by decide) (by decide)))).other W20 (Or.inr (slot_ne (Or.inr (hw _ (List.mem_of_getElem? (i := 30) rfl))) (Or.inr (hw _ (List.mem_of_getElem? (i := 34) rfl))) (by decide) (t := (.object "com/example/nudged_routes/nudgedroutes/network/Node")) (t' := .double) (by decide) (by decide)))).other W24 (Or.inr (slot_ne (Or.inr (hw _ (List.mem_of_getElem? (i := 30) rfl))) (Or.inr (hw _ (List.mem_of_getElem? (i := 36) rfl))) (by decide) (t := (.object "com/example/nudged_routes/nudgedroutes/network/Node")) (t' := .double) (by decide) (by decide)))).other W28 (Or.inr (slot_ne (Or.inr (hw _ (List.mem_of_getElem? (i := 30) rfl))) (Or.inr (hw _ (List.mem_of_getElem? (i := 38) rfl))) (by decide) (t := (.object "com/example/nudged_routes/nudgedroutes/network/Node")) (t' := .double) (by decide) (by decide)))).other W32 (Or.inr (slot_ne (Or.inr (hw _ (List.mem_of_getElem? (i := 30) rfl))) (Or.inr (hw _ (List.mem_of_getElem? (i := 40) rfl))) (by decide) (t := (.object "com/example/nudged_routes/nudgedroutes/network/Node")) (t' := .int) (by decide) (by decide))))
  have f37 := ((((Fw16.other W20 (Or.inr (slot_ne (Or.inr (hw _ (List.mem_of_getElem? (i := 32) rfl))) (Or.inr (hw _ (List.mem_of_getElem? (i := 34) rfl))) (by decide) (t := (.object "com/example/nudged_routes/nudgedroutes/network/Node")) (t' := .double) (by decide) (by decide)))).other W24 (Or.inr (slot_ne (Or.inr (hw _ (List.mem_of_getElem? (i := 32) rfl))) (Or.inr (hw _ (List.mem_of_getElem? (i := 36) rfl))) (by decide) (t := (.object "com/example/nudged_routes/nudgedroutes/network/Node")) (t' := .double) (by decide) (by decide)))).other W28 (Or.inr (slot_ne (Or.inr (hw _ (List.mem_of_getElem? (i := 32) rfl))) (Or.inr (hw _ (List.mem_of_getElem? (i := 38) rfl))) (by decide) (t := (.object "com/example/nudged_routes/nudgedroutes/network/Node")) (t' := .double) (by decide) (by decide)))).other W32 (Or.inr (slot_ne (Or.inr (hw _ (List.mem_of_getElem? (i := 32) rfl))) (Or.inr (hw _ (List.mem_of_getElem? (i := 40) rfl))) (by decide) (t := (.object "com/example/nudged_routes/nudgedroutes/network/Node")) (t' := .int) (by decide) (by decide))))
  have f38 := (((Fw20.other W24 (Or.inr (slot_ne (Or.inr (hw _ (List.mem_of_getElem? (i := 34) rfl))) (Or.inr (hw _ (List.mem_of_getElem? (i := 36) rfl))) (by decide) (t := .double) (t' := .double) (by decide) (by decide)))).other W28 (Or.inr (slot_ne (Or.inr (hw _ (List.mem_of_getElem? (i := 34) rfl))) (Or.inr (hw _ (List.mem_of_getElem? (i := 38) rfl))) (by decide) (t := .double) (t' := .double) (by decide) (by decide)))).other W32 (Or.inr (slot_ne (Or.inr (hw _ (List.mem_of_getElem? (i := 34) rfl))) (Or.inr (hw _ (List.mem_of_getElem? (i := 40) rfl))) (by decide) (t := .double) (t' := .int) (by decide) (by decide))))
  have f39 := ((Fw24.other W28 (Or.inr (slot_ne (Or.inr (hw _ (List.mem_of_getElem? (i := 36) rfl))) (Or.inr (hw _ (List.mem_of_getElem? (i := 38) rfl))) (by decide) (t := .double) (t' := .double) (by decide) (by decide)))).other W32 (Or.inr (slot_ne (Or.inr (hw _ (List.mem_of_getElem? (i := 36) rfl))) (Or.inr (hw _ (List.mem_of_getElem? (i := 40) rfl))) (by decide) (t := .double) (t' := .int) (by decide) (by decide))))
  have f40 := (Fw28.other W32 (Or.inr (slot_ne (Or.inr (hw _ (List.mem_of_getElem? (i := 38) rfl))) (Or.inr (hw _ (List.mem_of_getElem? (i := 40) rfl))) (by decide) (t := .double) (t' := .int) (by decide) (by decide))))
  exact ⟨rfl, N32, K32, f33, f34, f35, f36, f37, f38, f39, f40, Fw32⟩
theorem pn6 : plainName "com/example/nudged_routes/nudgedroutes/network/Link" = true := by first | (simp [plainName, overriddenIn]; done) | decide +kernel
theorem d6_0 : decode prog_58_method_7_code 0 = .ok (.aload_n 0, 1) := by decide +kernel
theorem d6_1 : decode prog_58_method_7_code 1 = .ok (.getfield 47, 3) := by decide +kernel
theorem d6_4 : decode prog_58_method_7_code 4 = .ok (.dreturn, 1) := by decide +kernel
theorem ef_rm_cap (m : MethodId) (x0 : Addr) : entryFrame m #[(.ref x0)] 1 = mkF m 0 #[.val (.ref x0)] [] := by first | (simp [entryFrame, mkF, argsToLocals, Value.category]; done) | rfl
def Q_rm_cap (Z : State) (a1 : Addr) (v1 : UInt64) (h0 : Heap) (n0 : Nat) (v : Option Value) (h : Heap) (L : List Loc) : Prop := v = some (.double v1) ∧ Fr n0 L ∧ h = h0
set_option maxRecDepth 65536 in
set_option maxHeartbeats 40000000 in
theorem rm_cap (l : Launch) (Z : State) (a0 : Array Value) (hw : ∀ d ∈ tables_1, d.before a0 Z = true) (ws : List Jvm.Cond) (a1 : Addr) (v1 : UInt64) (h0 : Heap) (n0 : Nat) (Z0 : n0 ≤ h0.size) (F_capacityVph_a1 : Fld Z h0 a1 "com/example/nudged_routes/nudgedroutes/network/Link" "capacityVph" "D" (.double v1)) :
    MetFree l (⟨"com/example/nudged_routes/nudgedroutes/network/Link", "capacityVph", "()D"⟩ : MethodName) (head1 (Jvm.Cond.code (⟨"com/example/nudged_routes/nudgedroutes/network/Link", "capacityVph", "()D"⟩ : MethodName) prog_58_method_7_code 1 (some .double) :: ws) ({ frames := 0, cells := 0, slots := 0, locals := 0 } : Room)) (fun a U => a = #[(.ref a1)] ∧ Z.Warmed39 U.vm ∧ U.heap = h0) (fun _ _ _ _ _ => True) (fun _ U o U' => ∃ v L, o = .returned v ∧ Q_rm_cap Z a1 v1 h0 n0 v U'.heap L ∧ FrameEnd U o U' L ({ frames := 0, cells := 0, slots := 0, locals := 0 } : Room).cells ({ frames := 0, cells := 0, slots := 0, locals := 0 } : Room).slots) := by
  refine MetFree.of_bodySF (plainFor_of_name pn6) hisR ?_
  intro p e s m args below meth c s₁ Bd hml0 hP hK
  obtain ⟨rfl, hZ, hh⟩ := hP
  have hx := Bd.exec
  have hby := Bd.bytes
  have hml : c.maxLocals = 1 := hml0
  have hown : s.vm.findClass "com/example/nudged_routes/nudgedroutes/network/Link" = some m.cls := findClass_of_methodNamed Bd.named
  have hnm := (name_of_methodNamed Bd.named Bd.method).1
  have X0 : Stand p l e ({ frames := 0, cells := 0, slots := 0, locals := 0 } : Room) s m #[(.ref a1)] below meth c s₁ [] 0 0 := Stand.of_body Bd
  have e0 : s₁.heap = h0 := by rw [← hh, Bd.state]; rfl
  have N0 := Fr.nil n0
  refine Go.start (Q := Q_rm_cap Z a1 v1 h0 n0) (ef_rm_cap m a1) ?_
  have sg1 : ∀ t, Steps p.tables e below (s₁.setTop (mkF m 1 #[.val (.ref a1)] [(.ref a1)])) t → Steps p.tables e below (s₁.setTop (mkF m 0 #[.val (.ref a1)] [])) t := by
    intro t kt
    show Steps p.tables e below (s₁.setTop (mkF m 0 #[.val (.ref a1)] [])) _
    refine XS.aloadN X0.here hx rfl (hb hby d6_0) rfl rfl ?_
    exact kt
  refine Go.adv sg1 ?_
  obtain ⟨T2, X2, e2, st2⟩ := getF X0 hx hZ hown (host := "") (Or.inl (hw _ (List.mem_of_getElem? (i := 33) rfl))) Via.refl e0 F_capacityVph_a1 (g := (mkF m 1 #[.val (.ref a1)] [(.ref a1)])) rfl rfl (hb hby d6_1)
  refine Go.adv st2 ?_
  show Go p.tables e below s _ _ _ (T2.setTop (mkF m 4 #[.val (.ref a1)] [(.double v1)]))
  refine Go.ret (v := (some (.double v1))) X2 (fun h => by rw [Bd.returns] at h; cases h) Bd.notSynchronized (fun fs hr => retOut X2 hx Bd.returns rfl (Or.inr (Or.inr (Or.inl ⟨rfl, rfl, _, rfl⟩))) (hb hby d6_4) hr) ?_ (by decide) (by decide)
  show Q_rm_cap Z a1 v1 h0 n0 (some (.double v1)) T2.heap _
  rw [e2]
  exact ⟨rfl, N0, rfl⟩
theorem pn5 : plainName "com/example/nudged_routes/nudgedroutes/network/Incident" = true := by first | (simp [plainName, overriddenIn]; done) | decide +kernel
theorem d5_0 : decode prog_56_method_1_code 0 = .ok (.aload_n 0, 1) := by decide +kernel
theorem d5_1 : decode prog_56_method_1_code 1 = .ok (.invokespecial 1, 3) := by decide +kernel
theorem d5_4 : decode prog_56_method_1_code 4 = .ok (.iload_n 2, 1) := by decide +kernel
theorem d5_5 : decode prog_56_method_1_code 5 = .ok (.ifCond .ge 17, 3) := by decide +kernel
theorem d5_22 : decode prog_56_method_1_code 22 = .ok (.iload_n 3, 1) := by decide +kernel
theorem d5_23 : decode prog_56_method_1_code 23 = .ok (.iload_n 2, 1) := by decide +kernel
theorem d5_24 : decode prog_56_method_1_code 24 = .ok (.if_icmp .gt 18, 3) := by decide +kernel
theorem d5_42 : decode prog_56_method_1_code 42 = .ok (.dload 4, 2) := by decide +kernel
theorem d5_44 : decode prog_56_method_1_code 44 = .ok (.dconst 0, 1) := by decide +kernel
theorem d5_45 : decode prog_56_method_1_code 45 = .ok (.dcmp .l, 1) := by decide +kernel
theorem d5_46 : decode prog_56_method_1_code 46 = .ok (.ifCond .lt 13, 3) := by decide +kernel
theorem d5_49 : decode prog_56_method_1_code 49 = .ok (.dload 4, 2) := by decide +kernel
theorem d5_51 : decode prog_56_method_1_code 51 = .ok (.aload_n 1, 1) := by decide +kernel
theorem d5_52 : decode prog_56_method_1_code 52 = .ok (.invokevirtual 19, 3) := by decide +kernel
theorem pd_ocD : parseMethodDescriptor "()D" = some ⟨[], some .double⟩ := by decide +kernel
theorem d5_55 : decode prog_56_method_1_code 55 = .ok (.dcmp .g, 1) := by decide +kernel
theorem d5_56 : decode prog_56_method_1_code 56 = .ok (.ifCond .le 26, 3) := by decide +kernel
theorem d5_82 : decode prog_56_method_1_code 82 = .ok (.aload_n 0, 1) := by decide +kernel
theorem d5_83 : decode prog_56_method_1_code 83 = .ok (.aload_n 1, 1) := by decide +kernel
theorem d5_84 : decode prog_56_method_1_code 84 = .ok (.putfield 32, 3) := by decide +kernel
theorem d5_87 : decode prog_56_method_1_code 87 = .ok (.aload_n 0, 1) := by decide +kernel
theorem d5_88 : decode prog_56_method_1_code 88 = .ok (.iload_n 2, 1) := by decide +kernel
theorem d5_89 : decode prog_56_method_1_code 89 = .ok (.putfield 38, 3) := by decide +kernel
theorem d5_92 : decode prog_56_method_1_code 92 = .ok (.aload_n 0, 1) := by decide +kernel
theorem d5_93 : decode prog_56_method_1_code 93 = .ok (.iload_n 3, 1) := by decide +kernel
theorem d5_94 : decode prog_56_method_1_code 94 = .ok (.putfield 42, 3) := by decide +kernel
theorem d5_97 : decode prog_56_method_1_code 97 = .ok (.aload_n 0, 1) := by decide +kernel
theorem d5_98 : decode prog_56_method_1_code 98 = .ok (.dload 4, 2) := by decide +kernel
theorem d5_100 : decode prog_56_method_1_code 100 = .ok (.putfield 45, 3) := by decide +kernel
theorem d5_103 : decode prog_56_method_1_code 103 = .ok (.return_, 1) := by decide +kernel
theorem ef_rm_inc (m : MethodId) (x0 : Addr) (x1 : Addr) (x2 : Int32) (x3 : Int32) (x4 : UInt64) : entryFrame m #[(.ref x0), (.ref x1), (.int x2), (.int x3), (.double x4)] 6 = mkF m 0 #[.val (.ref x0), .val (.ref x1), .val (.int x2), .val (.int x3), .val (.double x4), .second] [] := by first | (simp [entryFrame, mkF, argsToLocals, Value.category]; done) | rfl
def Q_rm_inc (Z : State) (a1 : Addr) (a2 : Addr) (p1 : Int32) (p2 : Int32) (d1 : UInt64) (u_link : Value) (u_fromS : Value) (u_toS : Value) (u_capacityVph : Value) (cap : UInt64) (h0 : Heap) (n0 : Nat) (v : Option Value) (h : Heap) (L : List Loc) : Prop := v = none ∧ Fr n0 L ∧ Keep h0 h [a1] ∧ Exa Z h a1 "com/example/nudged_routes/nudgedroutes/network/Incident" ∧ Fld Z h a1 "com/example/nudged_routes/nudgedroutes/network/Incident" "link" "Lcom/example/nudged_routes/nudgedroutes/network/Link;" (.ref a2) ∧ Fld Z h a1 "com/example/nudged_routes/nudgedroutes/network/Incident" "fromS" "I" (.int p1) ∧ Fld Z h a1 "com/example/nudged_routes/nudgedroutes/network/Incident" "toS" "I" (.int p2) ∧ Fld Z h a1 "com/example/nudged_routes/nudgedroutes/network/Incident" "capacityVph" "D" (.double d1)
set_option maxRecDepth 65536 in
set_option maxHeartbeats 40000000 in
theorem rm_inc (l : Launch) (Z : State) (a0 : Array Value) (hw : ∀ d ∈ tables_1, d.before a0 Z = true) (ws : List Jvm.Cond) (a1 : Addr) (a2 : Addr) (p1 : Int32) (p2 : Int32) (d1 : UInt64) (u_link : Value) (u_fromS : Value) (u_toS : Value) (u_capacityVph : Value) (cap : UInt64) (h0 : Heap) (n0 : Nat) (Z0 : n0 ≤ h0.size) (E_a1 : Exa Z h0 a1 "com/example/nudged_routes/nudgedroutes/network/Incident") (g_a1 : n0 ≤ a1) (F_link_a1 : Fld Z h0 a1 "com/example/nudged_routes/nudgedroutes/network/Incident" "link" "Lcom/example/nudged_routes/nudgedroutes/network/Link;" u_link) (F_fromS_a1 : Fld Z h0 a1 "com/example/nudged_routes/nudgedroutes/network/Incident" "fromS" "I" u_fromS) (F_toS_a1 : Fld Z h0 a1 "com/example/nudged_routes/nudgedroutes/network/Incident" "toS" "I" u_toS) (F_capacityVph_a1 : Fld Z h0 a1 "com/example/nudged_routes/nudgedroutes/network/Incident" "capacityVph" "D" u_capacityVph) (E_a2 : Exa Z h0 a2 "com/example/nudged_routes/nudgedroutes/network/Link") (F_capacityVph_a2 : Fld Z h0 a2 "com/example/nudged_routes/nudgedroutes/network/Link" "capacityVph" "D" (.double cap)) (hT : ¬ (p1 < (0 : Int32)) ∧ p1 < p2) (hP : OwnCap d1 cap) :
    MetFree l (⟨"com/example/nudged_routes/nudgedroutes/network/Incident", "<init>", "(Lcom/example/nudged_routes/nudgedroutes/network/Link;IID)V"⟩ : MethodName) (head1 (Jvm.Cond.code (⟨"com/example/nudged_routes/nudgedroutes/network/Incident", "<init>", "(Lcom/example/nudged_routes/nudgedroutes/network/Link;IID)V"⟩ : MethodName) prog_56_method_1_code 6 none :: ws) ({ frames := 1, cells := 0, slots := 0, locals := 14 } : Room)) (fun a U => a = #[(.ref a1), (.ref a2), (.int p1), (.int p2), (.double d1)] ∧ Z.Warmed39 U.vm ∧ U.heap = h0) (fun _ _ _ _ _ => True) (fun _ U o U' => ∃ v L, o = .returned v ∧ Q_rm_inc Z a1 a2 p1 p2 d1 u_link u_fromS u_toS u_capacityVph cap h0 n0 v U'.heap L ∧ FrameEnd U o U' L ({ frames := 1, cells := 0, slots := 0, locals := 14 } : Room).cells ({ frames := 1, cells := 0, slots := 0, locals := 14 } : Room).slots) := by
  refine MetFree.of_bodySF (plainFor_of_name pn5) hisR ?_
  intro p e s m args below meth c s₁ Bd hml0 hP hK
  obtain ⟨rfl, hZ, hh⟩ := hP
  have hx := Bd.exec
  have hby := Bd.bytes
  have hml : c.maxLocals = 6 := hml0
  have hown : s.vm.findClass "com/example/nudged_routes/nudgedroutes/network/Incident" = some m.cls := findClass_of_methodNamed Bd.named
  have hnm := (name_of_methodNamed Bd.named Bd.method).1
  have X0 : Stand p l e ({ frames := 1, cells := 0, slots := 0, locals := 14 } : Room) s m #[(.ref a1), (.ref a2), (.int p1), (.int p2), (.double d1)] below meth c s₁ [] 0 0 := Stand.of_body Bd
  have e0 : s₁.heap = h0 := by rw [← hh, Bd.state]; rfl
  have N0 := Fr.nil n0
  refine Go.start (Q := Q_rm_inc Z a1 a2 p1 p2 d1 u_link u_fromS u_toS u_capacityVph cap h0 n0) (ef_rm_inc m a1 a2 p1 p2 d1) ?_
  have sg1 : ∀ t, Steps p.tables e below (s₁.setTop (mkF m 1 #[.val (.ref a1), .val (.ref a2), .val (.int p1), .val (.int p2), .val (.double d1), .second] [(.ref a1)])) t → Steps p.tables e below (s₁.setTop (mkF m 0 #[.val (.ref a1), .val (.ref a2), .val (.int p1), .val (.int p2), .val (.double d1), .second] [])) t := by
    intro t kt
    show Steps p.tables e below (s₁.setTop (mkF m 0 #[.val (.ref a1), .val (.ref a2), .val (.int p1), .val (.int p2), .val (.double d1), .second] [])) _
    refine XS.aloadN X0.here hx rfl (hb hby d5_0) rfl rfl ?_
    exact kt
  refine Go.adv sg1 ?_
  obtain ⟨T2, X2, e2, st2⟩ := initO X0 hx hZ hown (hw _ (List.mem_of_getElem? (i := 47) rfl)) (hw _ (List.mem_of_getElem? (i := 23) rfl)) (hw _ (List.mem_of_getElem? (i := 24) rfl)) e0 (g := (mkF m 1 #[.val (.ref a1), .val (.ref a2), .val (.int p1), .val (.int p2), .val (.double d1), .second] [(.ref a1)])) rfl (by rw [hml]; rfl) rfl (hb hby d5_1) (by decide) (W := 0) (by show 2 * 0 + _ ≤ _; exact Nat.le_of_eq rfl) (by decide)
  refine Go.adv st2 ?_
  show Go p.tables e below s _ _ _ (T2.setTop (mkF m 4 #[.val (.ref a1), .val (.ref a2), .val (.int p1), .val (.int p2), .val (.double d1), .second] []))
  have sg3 : ∀ t, Steps p.tables e below (T2.setTop (mkF m 52 #[.val (.ref a1), .val (.ref a2), .val (.int p1), .val (.int p2), .val (.double d1), .second] [(.ref a2), (.double d1)])) t → Steps p.tables e below (T2.setTop (mkF m 4 #[.val (.ref a1), .val (.ref a2), .val (.int p1), .val (.int p2), .val (.double d1), .second] [])) t := by
    intro t kt
    show Steps p.tables e below (T2.setTop (mkF m 4 #[.val (.ref a1), .val (.ref a2), .val (.int p1), .val (.int p2), .val (.double d1), .second] [])) _
    refine XS.iloadN X2.here hx rfl (hb hby d5_4) rfl ?_
    show Steps p.tables e below (T2.setTop (mkF m 5 #[.val (.ref a1), .val (.ref a2), .val (.int p1), .val (.int p2), .val (.double d1), .second] [(.int p1)])) _
    refine XS.ifYes X2.here hx rfl (pc0 := 5) (pc' := 22) rfl (hb hby d5_5) rfl ((if0 _ _).trans (flt (hT.1 : ¬ (p1 < (0 : Int32)))).2.1) (by decide) (by decide) ?_
    show Steps p.tables e below (T2.setTop (mkF m 22 #[.val (.ref a1), .val (.ref a2), .val (.int p1), .val (.int p2), .val (.double d1), .second] [])) _
    refine XS.iloadN X2.here hx rfl (hb hby d5_22) rfl ?_
    show Steps p.tables e below (T2.setTop (mkF m 23 #[.val (.ref a1), .val (.ref a2), .val (.int p1), .val (.int p2), .val (.double d1), .second] [(.int p2)])) _
    refine XS.iloadN X2.here hx rfl (hb hby d5_23) rfl ?_
    show Steps p.tables e below (T2.setTop (mkF m 24 #[.val (.ref a1), .val (.ref a2), .val (.int p1), .val (.int p2), .val (.double d1), .second] [(.int p1), (.int p2)])) _
    refine XS.icmpYes X2.here hx rfl (pc0 := 24) (pc' := 42) rfl (hb hby d5_24) rfl (tlt (hT.2 : p1 < p2)).2.2.1 (by decide) (by decide) ?_
    show Steps p.tables e below (T2.setTop (mkF m 42 #[.val (.ref a1), .val (.ref a2), .val (.int p1), .val (.int p2), .val (.double d1), .second] [])) _
    refine own_dload X2.here hx rfl (hb hby d5_42) rfl ?_
    show Steps p.tables e below (T2.setTop (mkF m 44 #[.val (.ref a1), .val (.ref a2), .val (.int p1), .val (.int p2), .val (.double d1), .second] [(.double d1)])) _
    refine own_dconst0 X2.here hx rfl (hb hby d5_44) ?_
    show Steps p.tables e below (T2.setTop (mkF m 45 #[.val (.ref a1), .val (.ref a2), .val (.int p1), .val (.int p2), .val (.double d1), .second] [(.double (0 : UInt64)), (.double d1)])) _
    refine own_dcmp X2.here hx rfl (hb hby d5_45) rfl ?_
    show Steps p.tables e below (T2.setTop (mkF m 46 #[.val (.ref a1), .val (.ref a2), .val (.int p1), .val (.int p2), .val (.double d1), .second] [(.int (cmpValue (FP.dcmp d1 (0 : UInt64)) .l))])) _
    refine XS.ifNo X2.here hx rfl (hb hby d5_46) rfl ((if0 _ _).trans (flt (hP.1 : ¬ ((cmpValue (FP.dcmp d1 (0 : UInt64)) .l) < (0 : Int32)))).1) ?_
    show Steps p.tables e below (T2.setTop (mkF m 49 #[.val (.ref a1), .val (.ref a2), .val (.int p1), .val (.int p2), .val (.double d1), .second] [])) _
    refine own_dload X2.here hx rfl (hb hby d5_49) rfl ?_
    show Steps p.tables e below (T2.setTop (mkF m 51 #[.val (.ref a1), .val (.ref a2), .val (.int p1), .val (.int p2), .val (.double d1), .second] [(.double d1)])) _
    refine XS.aloadN X2.here hx rfl (hb hby d5_51) rfl rfl ?_
    exact kt
  refine Go.adv sg3 ?_
  obtain ⟨cq4, kq4, q4a, q4b, q4c⟩ := isOf hZ e2 E_a2
  obtain ⟨_, _, ⟨T4, L4, k4, n4⟩, -, X4, ⟨Lc4, hQ4, l4, y4, z4⟩, st4⟩ := X2.virtualBack hx (y := (⟨"com/example/nudged_routes/nudgedroutes/network/Link", "capacityVph", "()D"⟩ : MethodName)) (z := (⟨"com/example/nudged_routes/nudgedroutes/network/Link", "capacityVph", "()D"⟩ : MethodName)) hown (mvT hZ (hw _ (List.mem_of_getElem? (i := 48) rfl))) (mvT hZ (hw _ (List.mem_of_getElem? (i := 49) rfl))) (notFace_of_selects (args := #[]) (mvT hZ (hw _ (List.mem_of_getElem? (i := 51) rfl)))) (mvT hZ (hw _ (List.mem_of_getElem? (i := 51) rfl))) (mvT hZ (hw _ (List.mem_of_getElem? (i := 50) rfl))) (by decide) (backOf (W := 2) (rm_cap l Z a0 hw [] a2 cap h0 n0 Z0 F_capacityVph_a2) hZ (hw _ (List.mem_of_getElem? (i := 52) rfl)) (hw _ (List.mem_of_getElem? (i := 10) rfl)) (by decide) (by decide)) q4a q4c (g := (mkF m 52 #[.val (.ref a1), .val (.ref a2), .val (.int p1), .val (.int p2), .val (.double d1), .second] [(.ref a2), (.double d1)])) rfl (by rw [hml]; rfl) (Steps.refl _) (argsL := []) (rest := [(.double d1)]) (lenOf pd_ocD rfl) rfl (by show 2 * 0 + _ ≤ _; exact Nat.le_of_eq rfl) (hb hby d5_52) (fun _ _ => ⟨rfl, e2, (by decide : 0 + 0 ≤ _), (by decide : 0 + 0 ≤ _)⟩)
  dsimp only [Pt.U, Pt.locs, Pt.cells, Pt.slots] at X4 l4 y4 z4 st4 hQ4
  subst l4 y4 z4
  obtain ⟨rfl, N4q, e4⟩ := hQ4
  have N4 := Fr.app N0 N4q
  refine Go.tr st4 ?_
  show Go p.tables e below s _ _ _ (T4.setTop (mkF m 55 #[.val (.ref a1), .val (.ref a2), .val (.int p1), .val (.int p2), .val (.double d1), .second] [(.double cap), (.double d1)]))
  have sg5 : ∀ t, Steps p.tables e below (T4.setTop (mkF m 84 #[.val (.ref a1), .val (.ref a2), .val (.int p1), .val (.int p2), .val (.double d1), .second] [(.ref a2), (.ref a1)])) t → Steps p.tables e below (T4.setTop (mkF m 55 #[.val (.ref a1), .val (.ref a2), .val (.int p1), .val (.int p2), .val (.double d1), .second] [(.double cap), (.double d1)])) t := by
    intro t kt
    show Steps p.tables e below (T4.setTop (mkF m 55 #[.val (.ref a1), .val (.ref a2), .val (.int p1), .val (.int p2), .val (.double d1), .second] [(.double cap), (.double d1)])) _
    refine own_dcmp X4.here hx rfl (hb hby d5_55) rfl ?_
    show Steps p.tables e below (T4.setTop (mkF m 56 #[.val (.ref a1), .val (.ref a2), .val (.int p1), .val (.int p2), .val (.double d1), .second] [(.int (cmpValue (FP.dcmp d1 cap) .g))])) _
    refine XS.ifYes X4.here hx rfl (pc0 := 56) (pc' := 82) rfl (hb hby d5_56) rfl ((if0 _ _).trans (flt (hP.2 : ¬ ((0 : Int32) < (cmpValue (FP.dcmp d1 cap) .g)))).2.2.2) (by decide) (by decide) ?_
    show Steps p.tables e below (T4.setTop (mkF m 82 #[.val (.ref a1), .val (.ref a2), .val (.int p1), .val (.int p2), .val (.double d1), .second] [])) _
    refine XS.aloadN X4.here hx rfl (hb hby d5_82) rfl rfl ?_
    show Steps p.tables e below (T4.setTop (mkF m 83 #[.val (.ref a1), .val (.ref a2), .val (.int p1), .val (.int p2), .val (.double d1), .second] [(.ref a1)])) _
    refine XS.aloadN X4.here hx rfl (hb hby d5_83) rfl rfl ?_
    exact kt
  refine Go.adv sg5 ?_
  obtain ⟨T6, h6, X6, e6, W6, st6⟩ := putF X4 hx hZ hown (host := "") (Or.inl (hw _ (List.mem_of_getElem? (i := 53) rfl))) Via.refl e4 F_link_a1 E_a1 (Or.inr ⟨(hw _ (List.mem_of_getElem? (i := 54) rfl)), rfl, hnm⟩) (hw _ (List.mem_of_getElem? (i := 42) rfl)) (ty := (.object "com/example/nudged_routes/nudgedroutes/network/Link")) (by decide) rfl rfl (g := (mkF m 84 #[.val (.ref a1), .val (.ref a2), .val (.int p1), .val (.int p2), .val (.double d1), .second] [(.ref a2), (.ref a1)])) rfl rfl (hb hby d5_84)
  have Fw6 := F_link_a1.same W6
  have K6 : Keep h0 h6 [a1] := (Keep.refl h0 [a1]).wr W6 (Or.inl (List.mem_of_getElem? (i := 0) rfl))
  have Z6 : n0 ≤ h6.size := Nat.le_trans Z0 (Keep.of_wr W6).1
  have N6 := Fr.snoc X6 N4 g_a1
  refine Go.adv st6 ?_
  show Go p.tables e below s _ _ _ (T6.setTop (mkF m 87 #[.val (.ref a1), .val (.ref a2), .val (.int p1), .val (.int p2), .val (.double d1), .second] []))
  have sg7 : ∀ t, Steps p.tables e below (T6.setTop (mkF m 89 #[.val (.ref a1), .val (.ref a2), .val (.int p1), .val (.int p2), .val (.double d1), .second] [(.int p1), (.ref a1)])) t → Steps p.tables e below (T6.setTop (mkF m 87 #[.val (.ref a1), .val (.ref a2), .val (.int p1), .val (.int p2), .val (.double d1), .second] [])) t := by
    intro t kt
    show Steps p.tables e below (T6.setTop (mkF m 87 #[.val (.ref a1), .val (.ref a2), .val (.int p1), .val (.int p2), .val (.double d1), .second] [])) _
    refine XS.aloadN X6.here hx rfl (hb hby d5_87) rfl rfl ?_
    show Steps p.tables e below (T6.setTop (mkF m 88 #[.val (.ref a1), .val (.ref a2), .val (.int p1), .val (.int p2), .val (.double d1), .second] [(.ref a1)])) _
    refine XS.iloadN X6.here hx rfl (hb hby d5_88) rfl ?_
    exact kt
  refine Go.adv sg7 ?_
  have f8 := (F_fromS_a1.other W6 (Or.inr (slot_ne (Or.inr (hw _ (List.mem_of_getElem? (i := 56) rfl))) (Or.inr (hw _ (List.mem_of_getElem? (i := 54) rfl))) (by decide) (t := .int) (t' := (.object "com/example/nudged_routes/nudgedroutes/network/Link")) (by decide) (by decide))))
  have f9 := (E_a1.wr W6)
  obtain ⟨T10, h10, X10, e10, W10, st10⟩ := putF X6 hx hZ hown (host := "") (Or.inl (hw _ (List.mem_of_getElem? (i := 55) rfl))) Via.refl e6 f8 f9 (Or.inr ⟨(hw _ (List.mem_of_getElem? (i := 56) rfl)), rfl, hnm⟩) (hw _ (List.mem_of_getElem? (i := 42) rfl)) (ty := .int) (by decide) rfl rfl (g := (mkF m 89 #[.val (.ref a1), .val (.ref a2), .val (.int p1), .val (.int p2), .val (.double d1), .second] [(.int p1), (.ref a1)])) rfl rfl (hb hby d5_89)
  have Fw10 := f8.same W10
  have K10 : Keep h0 h10 [a1] := K6.wr W10 (Or.inl (List.mem_of_getElem? (i := 0) rfl))
  have Z10 : n0 ≤ h10.size := Nat.le_trans Z6 (Keep.of_wr W10).1
  have N10 := Fr.snoc X10 N6 g_a1
  refine Go.adv st10 ?_
  show Go p.tables e below s _ _ _ (T10.setTop (mkF m 92 #[.val (.ref a1), .val (.ref a2), .val (.int p1), .val (.int p2), .val (.double d1), .second] []))
  have sg11 : ∀ t, Steps p.tables e below (T10.setTop (mkF m 94 #[.val (.ref a1), .val (.ref a2), .val (.int p1), .val (.int p2), .val (.double d1), .second] [(.int p2), (.ref a1)])) t → Steps p.tables e below (T10.setTop (mkF m 92 #[.val (.ref a1), .val (.ref a2), .val (.int p1), .val (.int p2), .val (.double d1), .second] [])) t := by
    intro t kt
    show Steps p.tables e below (T10.setTop (mkF m 92 #[.val (.ref a1), .val (.ref a2), .val (.int p1), .val (.int p2), .val (.double d1), .second] [])) _
    refine XS.aloadN X10.here hx rfl (hb hby d5_92) rfl rfl ?_
    show Steps p.tables e below (T10.setTop (mkF m 93 #[.val (.ref a1), .val (.ref a2), .val (.int p1), .val (.int p2), .val (.double d1), .second] [(.ref a1)])) _
    refine XS.iloadN X10.here hx rfl (hb hby d5_93) rfl ?_
    exact kt
  refine Go.adv sg11 ?_
  have f12 := ((F_toS_a1.other W6 (Or.inr (slot_ne (Or.inr (hw _ (List.mem_of_getElem? (i := 58) rfl))) (Or.inr (hw _ (List.mem_of_getElem? (i := 54) rfl))) (by decide) (t := .int) (t' := (.object "com/example/nudged_routes/nudgedroutes/network/Link")) (by decide) (by decide)))).other W10 (Or.inr (slot_ne (Or.inr (hw _ (List.mem_of_getElem? (i := 58) rfl))) (Or.inr (hw _ (List.mem_of_getElem? (i := 56) rfl))) (by decide) (t := .int) (t' := .int) (by decide) (by decide))))
  have f13 := (f9.wr W10)
  obtain ⟨T14, h14, X14, e14, W14, st14⟩ := putF X10 hx hZ hown (host := "") (Or.inl (hw _ (List.mem_of_getElem? (i := 57) rfl))) Via.refl e10 f12 f13 (Or.inr ⟨(hw _ (List.mem_of_getElem? (i := 58) rfl)), rfl, hnm⟩) (hw _ (List.mem_of_getElem? (i := 42) rfl)) (ty := .int) (by decide) rfl rfl (g := (mkF m 94 #[.val (.ref a1), .val (.ref a2), .val (.int p1), .val (.int p2), .val (.double d1), .second] [(.int p2), (.ref a1)])) rfl rfl (hb hby d5_94)
  have Fw14 := f12.same W14
  have K14 : Keep h0 h14 [a1] := K10.wr W14 (Or.inl (List.mem_of_getElem? (i := 0) rfl))
  have Z14 : n0 ≤ h14.size := Nat.le_trans Z10 (Keep.of_wr W14).1
  have N14 := Fr.snoc X14 N10 g_a1
  refine Go.adv st14 ?_
  show Go p.tables e below s _ _ _ (T14.setTop (mkF m 97 #[.val (.ref a1), .val (.ref a2), .val (.int p1), .val (.int p2), .val (.double d1), .second] []))
  have sg15 : ∀ t, Steps p.tables e below (T14.setTop (mkF m 100 #[.val (.ref a1), .val (.ref a2), .val (.int p1), .val (.int p2), .val (.double d1), .second] [(.double d1), (.ref a1)])) t → Steps p.tables e below (T14.setTop (mkF m 97 #[.val (.ref a1), .val (.ref a2), .val (.int p1), .val (.int p2), .val (.double d1), .second] [])) t := by
    intro t kt
    show Steps p.tables e below (T14.setTop (mkF m 97 #[.val (.ref a1), .val (.ref a2), .val (.int p1), .val (.int p2), .val (.double d1), .second] [])) _
    refine XS.aloadN X14.here hx rfl (hb hby d5_97) rfl rfl ?_
    show Steps p.tables e below (T14.setTop (mkF m 98 #[.val (.ref a1), .val (.ref a2), .val (.int p1), .val (.int p2), .val (.double d1), .second] [(.ref a1)])) _
    refine own_dload X14.here hx rfl (hb hby d5_98) rfl ?_
    exact kt
  refine Go.adv sg15 ?_
  have f16 := (((F_capacityVph_a1.other W6 (Or.inr (slot_ne (Or.inr (hw _ (List.mem_of_getElem? (i := 60) rfl))) (Or.inr (hw _ (List.mem_of_getElem? (i := 54) rfl))) (by decide) (t := .double) (t' := (.object "com/example/nudged_routes/nudgedroutes/network/Link")) (by decide) (by decide)))).other W10 (Or.inr (slot_ne (Or.inr (hw _ (List.mem_of_getElem? (i := 60) rfl))) (Or.inr (hw _ (List.mem_of_getElem? (i := 56) rfl))) (by decide) (t := .double) (t' := .int) (by decide) (by decide)))).other W14 (Or.inr (slot_ne (Or.inr (hw _ (List.mem_of_getElem? (i := 60) rfl))) (Or.inr (hw _ (List.mem_of_getElem? (i := 58) rfl))) (by decide) (t := .double) (t' := .int) (by decide) (by decide))))
  have f17 := (f13.wr W14)
  obtain ⟨T18, h18, X18, e18, W18, st18⟩ := putF X14 hx hZ hown (host := "") (Or.inl (hw _ (List.mem_of_getElem? (i := 59) rfl))) Via.refl e14 f16 f17 (Or.inr ⟨(hw _ (List.mem_of_getElem? (i := 60) rfl)), rfl, hnm⟩) (hw _ (List.mem_of_getElem? (i := 42) rfl)) (ty := .double) (by decide) rfl rfl (g := (mkF m 100 #[.val (.ref a1), .val (.ref a2), .val (.int p1), .val (.int p2), .val (.double d1), .second] [(.double d1), (.ref a1)])) rfl rfl (hb hby d5_100)
  have Fw18 := f16.same W18
  have K18 : Keep h0 h18 [a1] := K14.wr W18 (Or.inl (List.mem_of_getElem? (i := 0) rfl))
  have Z18 : n0 ≤ h18.size := Nat.le_trans Z14 (Keep.of_wr W18).1
  have N18 := Fr.snoc X18 N14 g_a1
  refine Go.adv st18 ?_
  show Go p.tables e below s _ _ _ (T18.setTop (mkF m 103 #[.val (.ref a1), .val (.ref a2), .val (.int p1), .val (.int p2), .val (.double d1), .second] []))
  refine Go.ret (v := none) X18 (fun _ => rfl) Bd.notSynchronized (fun fs hr => X18.returnOut hx Bd.returns (hb hby d5_103) hr) ?_ (by decide) (by decide)
  show Q_rm_inc Z a1 a2 p1 p2 d1 u_link u_fromS u_toS u_capacityVph cap h0 n0 none T18.heap _
  rw [e18]
  have f19 := (f17.wr W18)
  have f20 := (((Fw6.other W10 (Or.inr (slot_ne (Or.inr (hw _ (List.mem_of_getElem? (i := 54) rfl))) (Or.inr (hw _ (List.mem_of_getElem? (i := 56) rfl))) (by decide) (t := (.object "com/example/nudged_routes/nudgedroutes/network/Link")) (t' := .int) (by decide) (by decide)))).other W14 (Or.inr (slot_ne (Or.inr (hw _ (List.mem_of_getElem? (i := 54) rfl))) (Or.inr (hw _ (List.mem_of_getElem? (i := 58) rfl))) (by decide) (t := (.object "com/example/nudged_routes/nudgedroutes/network/Link")) (t' := .int) (by decide) (by decide)))).other W18 (Or.inr (slot_ne (Or.inr (hw _ (List.mem_of_getElem? (i := 54) rfl))) (Or.inr (hw _ (List.mem_of_getElem? (i := 60) rfl))) (by decide) (t := (.object "com/example/nudged_routes/nudgedroutes/network/Link")) (t' := .double) (by decide) (by decide))))
  have f21 := ((Fw10.other W14 (Or.inr (slot_ne (Or.inr (hw _ (List.mem_of_getElem? (i := 56) rfl))) (Or.inr (hw _ (List.mem_of_getElem? (i := 58) rfl))) (by decide) (t := .int) (t' := .int) (by decide) (by decide)))).other W18 (Or.inr (slot_ne (Or.inr (hw _ (List.mem_of_getElem? (i := 56) rfl))) (Or.inr (hw _ (List.mem_of_getElem? (i := 60) rfl))) (by decide) (t := .int) (t' := .double) (by decide) (by decide))))
  have f22 := (Fw14.other W18 (Or.inr (slot_ne (Or.inr (hw _ (List.mem_of_getElem? (i := 58) rfl))) (Or.inr (hw _ (List.mem_of_getElem? (i := 60) rfl))) (by decide) (t := .int) (t' := .double) (by decide) (by decide))))
  exact ⟨rfl, N18, K18, f19, f20, f21, f22, Fw18⟩
theorem pn7 : plainName "com/example/nudged_routes/nudgedroutes/network/Incident" = true := by first | (simp [plainName, overriddenIn]; done) | decide +kernel
theorem d7_0 : decode prog_56_method_4_code 0 = .ok (.iload_n 1, 1) := by decide +kernel
theorem d7_1 : decode prog_56_method_4_code 1 = .ok (.aload_n 0, 1) := by decide +kernel
theorem d7_2 : decode prog_56_method_4_code 2 = .ok (.getfield 38, 3) := by decide +kernel
theorem d7_5 : decode prog_56_method_4_code 5 = .ok (.if_icmp .lt 15, 3) := by decide +kernel
theorem d7_20 : decode prog_56_method_4_code 20 = .ok (.iconst 0, 1) := by decide +kernel
theorem d7_21 : decode prog_56_method_4_code 21 = .ok (.ireturn, 1) := by decide +kernel
theorem d7_8 : decode prog_56_method_4_code 8 = .ok (.iload_n 1, 1) := by decide +kernel
theorem d7_9 : decode prog_56_method_4_code 9 = .ok (.aload_n 0, 1) := by decide +kernel
theorem d7_10 : decode prog_56_method_4_code 10 = .ok (.getfield 42, 3) := by decide +kernel
theorem d7_13 : decode prog_56_method_4_code 13 = .ok (.if_icmp .ge 7, 3) := by decide +kernel
theorem d7_16 : decode prog_56_method_4_code 16 = .ok (.iconst 1, 1) := by decide +kernel
theorem d7_17 : decode prog_56_method_4_code 17 = .ok (.goto 4, 3) := by decide +kernel
theorem ef_rm_force (m : MethodId) (x0 : Addr) (x1 : Int32) : entryFrame m #[(.ref x0), (.int x1)] 2 = mkF m 0 #[.val (.ref x0), .val (.int x1)] [] := by first | (simp [entryFrame, mkF, argsToLocals, Value.category]; done) | rfl
def Q_rm_force (Z : State) (a1 : Addr) (p1 : Int32) (fr : Int32) (to : Int32) (h0 : Heap) (n0 : Nat) (v : Option Value) (h : Heap) (L : List Loc) : Prop := v = some (.int (own_force p1 fr to)) ∧ Fr n0 L ∧ h = h0
set_option maxRecDepth 65536 in
set_option maxHeartbeats 40000000 in
theorem rm_force (l : Launch) (Z : State) (a0 : Array Value) (hw : ∀ d ∈ tables_1, d.before a0 Z = true) (ws : List Jvm.Cond) (a1 : Addr) (p1 : Int32) (fr : Int32) (to : Int32) (h0 : Heap) (n0 : Nat) (Z0 : n0 ≤ h0.size) (F_fromS_a1 : Fld Z h0 a1 "com/example/nudged_routes/nudgedroutes/network/Incident" "fromS" "I" (.int fr)) (F_toS_a1 : Fld Z h0 a1 "com/example/nudged_routes/nudgedroutes/network/Incident" "toS" "I" (.int to)) :
    MetFree l (⟨"com/example/nudged_routes/nudgedroutes/network/Incident", "isInForceAt", "(I)Z"⟩ : MethodName) (head1 (Jvm.Cond.code (⟨"com/example/nudged_routes/nudgedroutes/network/Incident", "isInForceAt", "(I)Z"⟩ : MethodName) prog_56_method_4_code 2 (some .boolean) :: ws) ({ frames := 0, cells := 0, slots := 0, locals := 0 } : Room)) (fun a U => a = #[(.ref a1), (.int p1)] ∧ Z.Warmed39 U.vm ∧ U.heap = h0) (fun _ _ _ _ _ => True) (fun _ U o U' => ∃ v L, o = .returned v ∧ Q_rm_force Z a1 p1 fr to h0 n0 v U'.heap L ∧ FrameEnd U o U' L ({ frames := 0, cells := 0, slots := 0, locals := 0 } : Room).cells ({ frames := 0, cells := 0, slots := 0, locals := 0 } : Room).slots) := by
  refine MetFree.of_bodySF (plainFor_of_name pn7) hisR ?_
  intro p e s m args below meth c s₁ Bd hml0 hP hK
  obtain ⟨rfl, hZ, hh⟩ := hP
  have hx := Bd.exec
  have hby := Bd.bytes
  have hml : c.maxLocals = 2 := hml0
  have hown : s.vm.findClass "com/example/nudged_routes/nudgedroutes/network/Incident" = some m.cls := findClass_of_methodNamed Bd.named
  have hnm := (name_of_methodNamed Bd.named Bd.method).1
  have X0 : Stand p l e ({ frames := 0, cells := 0, slots := 0, locals := 0 } : Room) s m #[(.ref a1), (.int p1)] below meth c s₁ [] 0 0 := Stand.of_body Bd
  have e0 : s₁.heap = h0 := by rw [← hh, Bd.state]; rfl
  have N0 := Fr.nil n0
  refine Go.start (Q := Q_rm_force Z a1 p1 fr to h0 n0) (ef_rm_force m a1 p1) ?_
  by_cases hc : p1 < fr
  · have sg1 : ∀ t, Steps p.tables e below (s₁.setTop (mkF m 2 #[.val (.ref a1), .val (.int p1)] [(.ref a1), (.int p1)])) t → Steps p.tables e below (s₁.setTop (mkF m 0 #[.val (.ref a1), .val (.int p1)] [])) t := by
      intro t kt
      show Steps p.tables e below (s₁.setTop (mkF m 0 #[.val (.ref a1), .val (.int p1)] [])) _
      refine XS.iloadN X0.here hx rfl (hb hby d7_0) rfl ?_
      show Steps p.tables e below (s₁.setTop (mkF m 1 #[.val (.ref a1), .val (.int p1)] [(.int p1)])) _
      refine XS.aloadN X0.here hx rfl (hb hby d7_1) rfl rfl ?_
      exact kt
    refine Go.adv sg1 ?_
    obtain ⟨T2, X2, e2, st2⟩ := getF X0 hx hZ hown (host := "") (Or.inl (hw _ (List.mem_of_getElem? (i := 55) rfl))) Via.refl e0 F_fromS_a1 (g := (mkF m 2 #[.val (.ref a1), .val (.int p1)] [(.ref a1), (.int p1)])) rfl rfl (hb hby d7_2)
    refine Go.adv st2 ?_
    show Go p.tables e below s _ _ _ (T2.setTop (mkF m 5 #[.val (.ref a1), .val (.int p1)] [(.int fr), (.int p1)]))
    have sg3 : ∀ t, Steps p.tables e below (T2.setTop (mkF m 21 #[.val (.ref a1), .val (.int p1)] [(.int (0 : Int32))])) t → Steps p.tables e below (T2.setTop (mkF m 5 #[.val (.ref a1), .val (.int p1)] [(.int fr), (.int p1)])) t := by
      intro t kt
      show Steps p.tables e below (T2.setTop (mkF m 5 #[.val (.ref a1), .val (.int p1)] [(.int fr), (.int p1)])) _
      refine XS.icmpYes X2.here hx rfl (pc0 := 5) (pc' := 20) rfl (hb hby d7_5) rfl (tlt (hc : p1 < fr)).1 (by decide) (by decide) ?_
      show Steps p.tables e below (T2.setTop (mkF m 20 #[.val (.ref a1), .val (.int p1)] [])) _
      refine XS.iconst X2.here hx rfl (hb hby d7_20) ?_
      exact kt
    refine Go.adv sg3 ?_
    refine Go.ret (v := (some (.int (0 : Int32)))) X2 (fun h => by rw [Bd.returns] at h; cases h) Bd.notSynchronized (fun fs hr => retN X2 hx (t := .boolean) Bd.returns (by simp) (hb hby d7_21) hr) ?_ (by decide) (by decide)
    show Q_rm_force Z a1 p1 fr to h0 n0 (some (.int (0 : Int32))) T2.heap _
    rw [e2]
    exact ⟨congrArg (fun z => some (Value.int z)) (own_force_a hc).symm, N0, rfl⟩
  · by_cases hd : p1 < to
    · have sg4 : ∀ t, Steps p.tables e below (s₁.setTop (mkF m 2 #[.val (.ref a1), .val (.int p1)] [(.ref a1), (.int p1)])) t → Steps p.tables e below (s₁.setTop (mkF m 0 #[.val (.ref a1), .val (.int p1)] [])) t := by
        intro t kt
        show Steps p.tables e below (s₁.setTop (mkF m 0 #[.val (.ref a1), .val (.int p1)] [])) _
        refine XS.iloadN X0.here hx rfl (hb hby d7_0) rfl ?_
        show Steps p.tables e below (s₁.setTop (mkF m 1 #[.val (.ref a1), .val (.int p1)] [(.int p1)])) _
        refine XS.aloadN X0.here hx rfl (hb hby d7_1) rfl rfl ?_
        exact kt
      refine Go.adv sg4 ?_
      obtain ⟨T5, X5, e5, st5⟩ := getF X0 hx hZ hown (host := "") (Or.inl (hw _ (List.mem_of_getElem? (i := 55) rfl))) Via.refl e0 F_fromS_a1 (g := (mkF m 2 #[.val (.ref a1), .val (.int p1)] [(.ref a1), (.int p1)])) rfl rfl (hb hby d7_2)
      refine Go.adv st5 ?_
      show Go p.tables e below s _ _ _ (T5.setTop (mkF m 5 #[.val (.ref a1), .val (.int p1)] [(.int fr), (.int p1)]))
      have sg6 : ∀ t, Steps p.tables e below (T5.setTop (mkF m 10 #[.val (.ref a1), .val (.int p1)] [(.ref a1), (.int p1)])) t → Steps p.tables e below (T5.setTop (mkF m 5 #[.val (.ref a1), .val (.int p1)] [(.int fr), (.int p1)])) t := by
        intro t kt
        show Steps p.tables e below (T5.setTop (mkF m 5 #[.val (.ref a1), .val (.int p1)] [(.int fr), (.int p1)])) _
        refine XS.icmpNo X5.here hx rfl (hb hby d7_5) rfl (flt (hc : ¬ (p1 < fr))).1 ?_
        show Steps p.tables e below (T5.setTop (mkF m 8 #[.val (.ref a1), .val (.int p1)] [])) _
        refine XS.iloadN X5.here hx rfl (hb hby d7_8) rfl ?_
        show Steps p.tables e below (T5.setTop (mkF m 9 #[.val (.ref a1), .val (.int p1)] [(.int p1)])) _
        refine XS.aloadN X5.here hx rfl (hb hby d7_9) rfl rfl ?_
        exact kt
      refine Go.adv sg6 ?_
      obtain ⟨T7, X7, e7, st7⟩ := getF X5 hx hZ hown (host := "") (Or.inl (hw _ (List.mem_of_getElem? (i := 57) rfl))) Via.refl e5 F_toS_a1 (g := (mkF m 10 #[.val (.ref a1), .val (.int p1)] [(.ref a1), (.int p1)])) rfl rfl (hb hby d7_10)
      refine Go.adv st7 ?_
      show Go p.tables e below s _ _ _ (T7.setTop (mkF m 13 #[.val (.ref a1), .val (.int p1)] [(.int to), (.int p1)]))
      have sg8 : ∀ t, Steps p.tables e below (T7.setTop (mkF m 21 #[.val (.ref a1), .val (.int p1)] [(.int (1 : Int32))])) t → Steps p.tables e below (T7.setTop (mkF m 13 #[.val (.ref a1), .val (.int p1)] [(.int to), (.int p1)])) t := by
        intro t kt
        show Steps p.tables e below (T7.setTop (mkF m 13 #[.val (.ref a1), .val (.int p1)] [(.int to), (.int p1)])) _
        refine XS.icmpNo X7.here hx rfl (hb hby d7_13) rfl (tlt (hd : p1 < to)).2.1 ?_
        show Steps p.tables e below (T7.setTop (mkF m 16 #[.val (.ref a1), .val (.int p1)] [])) _
        refine XS.iconst X7.here hx rfl (hb hby d7_16) ?_
        show Steps p.tables e below (T7.setTop (mkF m 17 #[.val (.ref a1), .val (.int p1)] [(.int (1 : Int32))])) _
        refine XS.goto X7.here hx rfl (pc0 := 17) (pc' := 21) rfl (hb hby d7_17) (by decide) (by decide) ?_
        exact kt
      refine Go.adv sg8 ?_
      refine Go.ret (v := (some (.int (1 : Int32)))) X7 (fun h => by rw [Bd.returns] at h; cases h) Bd.notSynchronized (fun fs hr => retN X7 hx (t := .boolean) Bd.returns (by simp) (hb hby d7_21) hr) ?_ (by decide) (by decide)
      show Q_rm_force Z a1 p1 fr to h0 n0 (some (.int (1 : Int32))) T7.heap _
      rw [e7]
      exact ⟨congrArg (fun z => some (Value.int z)) (own_force_b hc hd).symm, N0, rfl⟩
    · have sg9 : ∀ t, Steps p.tables e below (s₁.setTop (mkF m 2 #[.val (.ref a1), .val (.int p1)] [(.ref a1), (.int p1)])) t → Steps p.tables e below (s₁.setTop (mkF m 0 #[.val (.ref a1), .val (.int p1)] [])) t := by
        intro t kt
        show Steps p.tables e below (s₁.setTop (mkF m 0 #[.val (.ref a1), .val (.int p1)] [])) _
        refine XS.iloadN X0.here hx rfl (hb hby d7_0) rfl ?_
        show Steps p.tables e below (s₁.setTop (mkF m 1 #[.val (.ref a1), .val (.int p1)] [(.int p1)])) _
        refine XS.aloadN X0.here hx rfl (hb hby d7_1) rfl rfl ?_
        exact kt
      refine Go.adv sg9 ?_
      obtain ⟨T10, X10, e10, st10⟩ := getF X0 hx hZ hown (host := "") (Or.inl (hw _ (List.mem_of_getElem? (i := 55) rfl))) Via.refl e0 F_fromS_a1 (g := (mkF m 2 #[.val (.ref a1), .val (.int p1)] [(.ref a1), (.int p1)])) rfl rfl (hb hby d7_2)
      refine Go.adv st10 ?_
      show Go p.tables e below s _ _ _ (T10.setTop (mkF m 5 #[.val (.ref a1), .val (.int p1)] [(.int fr), (.int p1)]))
      have sg11 : ∀ t, Steps p.tables e below (T10.setTop (mkF m 10 #[.val (.ref a1), .val (.int p1)] [(.ref a1), (.int p1)])) t → Steps p.tables e below (T10.setTop (mkF m 5 #[.val (.ref a1), .val (.int p1)] [(.int fr), (.int p1)])) t := by
        intro t kt
        show Steps p.tables e below (T10.setTop (mkF m 5 #[.val (.ref a1), .val (.int p1)] [(.int fr), (.int p1)])) _
        refine XS.icmpNo X10.here hx rfl (hb hby d7_5) rfl (flt (hc : ¬ (p1 < fr))).1 ?_
        show Steps p.tables e below (T10.setTop (mkF m 8 #[.val (.ref a1), .val (.int p1)] [])) _
        refine XS.iloadN X10.here hx rfl (hb hby d7_8) rfl ?_
        show Steps p.tables e below (T10.setTop (mkF m 9 #[.val (.ref a1), .val (.int p1)] [(.int p1)])) _
        refine XS.aloadN X10.here hx rfl (hb hby d7_9) rfl rfl ?_
        exact kt
      refine Go.adv sg11 ?_
      obtain ⟨T12, X12, e12, st12⟩ := getF X10 hx hZ hown (host := "") (Or.inl (hw _ (List.mem_of_getElem? (i := 57) rfl))) Via.refl e10 F_toS_a1 (g := (mkF m 10 #[.val (.ref a1), .val (.int p1)] [(.ref a1), (.int p1)])) rfl rfl (hb hby d7_10)
      refine Go.adv st12 ?_
      show Go p.tables e below s _ _ _ (T12.setTop (mkF m 13 #[.val (.ref a1), .val (.int p1)] [(.int to), (.int p1)]))
      have sg13 : ∀ t, Steps p.tables e below (T12.setTop (mkF m 21 #[.val (.ref a1), .val (.int p1)] [(.int (0 : Int32))])) t → Steps p.tables e below (T12.setTop (mkF m 13 #[.val (.ref a1), .val (.int p1)] [(.int to), (.int p1)])) t := by
        intro t kt
        show Steps p.tables e below (T12.setTop (mkF m 13 #[.val (.ref a1), .val (.int p1)] [(.int to), (.int p1)])) _
        refine XS.icmpYes X12.here hx rfl (pc0 := 13) (pc' := 20) rfl (hb hby d7_13) rfl (flt (hd : ¬ (p1 < to))).2.1 (by decide) (by decide) ?_
        show Steps p.tables e below (T12.setTop (mkF m 20 #[.val (.ref a1), .val (.int p1)] [])) _
        refine XS.iconst X12.here hx rfl (hb hby d7_20) ?_
        exact kt
      refine Go.adv sg13 ?_
      refine Go.ret (v := (some (.int (0 : Int32)))) X12 (fun h => by rw [Bd.returns] at h; cases h) Bd.notSynchronized (fun fs hr => retN X12 hx (t := .boolean) Bd.returns (by simp) (hb hby d7_21) hr) ?_ (by decide) (by decide)
      show Q_rm_force Z a1 p1 fr to h0 n0 (some (.int (0 : Int32))) T12.heap _
      rw [e12]
      exact ⟨congrArg (fun z => some (Value.int z)) (own_force_c hc hd).symm, N0, rfl⟩
theorem pn0 : plainName "com/example/nudged_routes/nudgedroutes/network/IncidentIsInForceAtPinLaw" = true := by first | (simp [plainName, overriddenIn]; done) | decide +kernel
theorem pd_oIIcI : parseMethodDescriptor "(II)I" = some ⟨[.int, .int], some .int⟩ := by decide +kernel
theorem own_wS {Z : State} {a0 : Array Value} (hw : ∀ d ∈ tables_1, d.before a0 Z = true) : ∀ a ∈ Bundle.stringAtoms, a.before a0 Z = true := by
  intro a ha
  simp only [Bundle.stringAtoms, List.mem_cons, List.not_mem_nil, or_false] at ha
  rcases ha with rfl | rfl | rfl | rfl | rfl | rfl | rfl
  · exact (hw _ (List.mem_of_getElem? (i := 12) rfl))
  · exact (hw _ (List.mem_of_getElem? (i := 13) rfl))
  · exact (hw _ (List.mem_of_getElem? (i := 14) rfl))
  · exact (hw _ (List.mem_of_getElem? (i := 15) rfl))
  · exact (hw _ (List.mem_of_getElem? (i := 16) rfl))
  · exact (hw _ (List.mem_of_getElem? (i := 17) rfl))
  · exact (hw _ (List.mem_of_getElem? (i := 18) rfl))
theorem pd_oILjavaslangsStringeLcomsexamplesnudged_routessnudgedroutessnetworksNodeeLcomsexamplesnudged_routessnudgedroutessnetworksNodeeDDDIcV : parseMethodDescriptor "(ILjava/lang/String;Lcom/example/nudged_routes/nudgedroutes/network/Node;Lcom/example/nudged_routes/nudgedroutes/network/Node;DDDI)V" = some ⟨[.int, (.object "java/lang/String"), (.object "com/example/nudged_routes/nudgedroutes/network/Node"), (.object "com/example/nudged_routes/nudgedroutes/network/Node"), .double, .double, .double, .int], none⟩ := by decide +kernel
theorem pd_oLcomsexamplesnudged_routessnudgedroutessnetworksLinkeIIDcV : parseMethodDescriptor "(Lcom/example/nudged_routes/nudgedroutes/network/Link;IID)V" = some ⟨[(.object "com/example/nudged_routes/nudgedroutes/network/Link"), .int, .int, .double], none⟩ := by decide +kernel
theorem pd_oIcZ : parseMethodDescriptor "(I)Z" = some ⟨[.int], some .boolean⟩ := by decide +kernel
theorem ef_rm0 (m : MethodId) (x0 : Int32) (x1 : Int32) (x2 : Int32) (x3 : Int32) : entryFrame m #[(.int x0), (.int x1), (.int x2), (.int x3)] maxLocals = mkF m 0 #[.val (.int x0), .val (.int x1), .val (.int x2), .val (.int x3), .unset, .unset, .unset, .unset, .unset, .unset, .unset, .unset, .unset, .unset, .unset, .unset, .unset, .unset, .unset] [] := by first | (simp [entryFrame, mkF, argsToLocals, Value.category, maxLocals]; done) | rfl
def Q_rm0 (Z : State) (p1 : Int32) (p2 : Int32) (p3 : Int32) (p4 : Int32) (h0 : Heap) (n0 : Nat) (v : Option Value) (h : Heap) (L : List Loc) : Prop := v = some (.int (1 : Int32)) ∧ Fr n0 L
set_option maxRecDepth 65536 in
set_option maxHeartbeats 40000000 in
theorem rm0 (l : Launch) (Z : State) (a0 : Array Value) (hw : ∀ d ∈ tables_1, d.before a0 Z = true) (ws : List Jvm.Cond) (p1 : Int32) (p2 : Int32) (p3 : Int32) (p4 : Int32) (h0 : Heap) (n0 : Nat) (Z0 : n0 ≤ h0.size)  :
    MetFree l x (head1 (Jvm.Cond.code x code maxLocals ret :: ws) room_1) (fun a U => a = #[(.int p1), (.int p2), (.int p3), (.int p4)] ∧ Z.Warmed39 U.vm ∧ U.heap = h0) (fun _ _ _ _ _ => True) (fun _ U o U' => ∃ v L, o = .returned v ∧ Q_rm0 Z p1 p2 p3 p4 h0 n0 v U'.heap L ∧ ReturnedEndW U o U' L room_1.cells room_1.slots) := by
  refine MetFree.of_bodySF (plainFor_of_name pn0) hisR ?_
  intro p e s m args below meth c s₁ Bd hml0 hP hK
  obtain ⟨rfl, hZ, hh⟩ := hP
  have hx := Bd.exec
  have hby := Bd.bytes
  have hml : c.maxLocals = 19 := hml0
  have hown : s.vm.findClass "com/example/nudged_routes/nudgedroutes/network/IncidentIsInForceAtPinLaw" = some m.cls := findClass_of_methodNamed Bd.named
  have hnm := (name_of_methodNamed Bd.named Bd.method).1
  have X0 : Stand p l e room_1 (s.setVm s.vm) m #[(.int p1), (.int p2), (.int p3), (.int p4)] below meth c s₁ [] 0 0 := Stand.of_body Bd
  have e0 : s₁.heap = h0 := by rw [← hh, Bd.state]; rfl
  have N0 := Fr.nil n0
  have hS0 : s.Since s.vm 0 := (State.WarmedH.refl s).since 0
  have hk0 : 0 ≤ h0.size := Nat.zero_le _
  refine GoW.start (Q := Q_rm0 Z p1 p2 p3 p4 h0 n0) (ef_rm0 m p1 p2 p3 p4) ?_
  have sg1 : ∀ t, Steps p.tables e below (s₁.setTop (mkF m 12 #[.val (.int p1), .val (.int p2), .val (.int p3), .val (.int p4), .val (.int (p1 &&& (2147483647 : Int32))), .val (.int (p2 &&& (2147483647 : Int32))), .unset, .unset, .unset, .unset, .unset, .unset, .unset, .unset, .unset, .unset, .unset, .unset, .unset] [])) t → Steps p.tables e below (s₁.setTop (mkF m 0 #[.val (.int p1), .val (.int p2), .val (.int p3), .val (.int p4), .unset, .unset, .unset, .unset, .unset, .unset, .unset, .unset, .unset, .unset, .unset, .unset, .unset, .unset, .unset] [])) t := by
    intro t kt
    show Steps p.tables e below (s₁.setTop (mkF m 0 #[.val (.int p1), .val (.int p2), .val (.int p3), .val (.int p4), .unset, .unset, .unset, .unset, .unset, .unset, .unset, .unset, .unset, .unset, .unset, .unset, .unset, .unset, .unset] [])) _
    refine XS.iloadN X0.here hx rfl (hb hby at_0) rfl ?_
    show Steps p.tables e below (s₁.setTop (mkF m 1 #[.val (.int p1), .val (.int p2), .val (.int p3), .val (.int p4), .unset, .unset, .unset, .unset, .unset, .unset, .unset, .unset, .unset, .unset, .unset, .unset, .unset, .unset, .unset] [(.int p1)])) _
    refine X0.ldcInt hx hown (mvT hZ (hw _ (List.mem_of_getElem? (i := 0) rfl))) (g := (mkF m 1 #[.val (.int p1), .val (.int p2), .val (.int p3), .val (.int p4), .unset, .unset, .unset, .unset, .unset, .unset, .unset, .unset, .unset, .unset, .unset, .unset, .unset, .unset, .unset] [(.int p1)])) rfl (hb hby at_1) _ ?_
    show Steps p.tables e below (s₁.setTop (mkF m 3 #[.val (.int p1), .val (.int p2), .val (.int p3), .val (.int p4), .unset, .unset, .unset, .unset, .unset, .unset, .unset, .unset, .unset, .unset, .unset, .unset, .unset, .unset, .unset] [(.int (2147483647 : Int32)), (.int p1)])) _
    refine XS.iand X0.here hx rfl (hb hby at_3) rfl ?_
    show Steps p.tables e below (s₁.setTop (mkF m 4 #[.val (.int p1), .val (.int p2), .val (.int p3), .val (.int p4), .unset, .unset, .unset, .unset, .unset, .unset, .unset, .unset, .unset, .unset, .unset, .unset, .unset, .unset, .unset] [(.int (p1 &&& (2147483647 : Int32)))])) _
    refine XS.istore X0.here hx rfl (hb hby at_4) rfl (l' := #[.val (.int p1), .val (.int p2), .val (.int p3), .val (.int p4), .val (.int (p1 &&& (2147483647 : Int32))), .unset, .unset, .unset, .unset, .unset, .unset, .unset, .unset, .unset, .unset, .unset, .unset, .unset, .unset]) rfl ?_
    show Steps p.tables e below (s₁.setTop (mkF m 6 #[.val (.int p1), .val (.int p2), .val (.int p3), .val (.int p4), .val (.int (p1 &&& (2147483647 : Int32))), .unset, .unset, .unset, .unset, .unset, .unset, .unset, .unset, .unset, .unset, .unset, .unset, .unset, .unset] [])) _
    refine XS.iloadN X0.here hx rfl (hb hby at_6) rfl ?_
    show Steps p.tables e below (s₁.setTop (mkF m 7 #[.val (.int p1), .val (.int p2), .val (.int p3), .val (.int p4), .val (.int (p1 &&& (2147483647 : Int32))), .unset, .unset, .unset, .unset, .unset, .unset, .unset, .unset, .unset, .unset, .unset, .unset, .unset, .unset] [(.int p2)])) _
    refine X0.ldcInt hx hown (mvT hZ (hw _ (List.mem_of_getElem? (i := 0) rfl))) (g := (mkF m 7 #[.val (.int p1), .val (.int p2), .val (.int p3), .val (.int p4), .val (.int (p1 &&& (2147483647 : Int32))), .unset, .unset, .unset, .unset, .unset, .unset, .unset, .unset, .unset, .unset, .unset, .unset, .unset, .unset] [(.int p2)])) rfl (hb hby at_7) _ ?_
    show Steps p.tables e below (s₁.setTop (mkF m 9 #[.val (.int p1), .val (.int p2), .val (.int p3), .val (.int p4), .val (.int (p1 &&& (2147483647 : Int32))), .unset, .unset, .unset, .unset, .unset, .unset, .unset, .unset, .unset, .unset, .unset, .unset, .unset, .unset] [(.int (2147483647 : Int32)), (.int p2)])) _
    refine XS.iand X0.here hx rfl (hb hby at_9) rfl ?_
    show Steps p.tables e below (s₁.setTop (mkF m 10 #[.val (.int p1), .val (.int p2), .val (.int p3), .val (.int p4), .val (.int (p1 &&& (2147483647 : Int32))), .unset, .unset, .unset, .unset, .unset, .unset, .unset, .unset, .unset, .unset, .unset, .unset, .unset, .unset] [(.int (p2 &&& (2147483647 : Int32)))])) _
    refine XS.istore X0.here hx rfl (hb hby at_10) rfl (l' := #[.val (.int p1), .val (.int p2), .val (.int p3), .val (.int p4), .val (.int (p1 &&& (2147483647 : Int32))), .val (.int (p2 &&& (2147483647 : Int32))), .unset, .unset, .unset, .unset, .unset, .unset, .unset, .unset, .unset, .unset, .unset, .unset, .unset]) rfl ?_
    exact kt
  refine GoW.adv sg1 ?_
  have hx0 := own_mask p1
  have hy0 := own_mask p2
  generalize h_xx : (p1 &&& (2147483647 : Int32)) = xx
  show GoW p.tables e below s _ _ _ (s₁.setTop (mkF m 12 #[.val (.int p1), .val (.int p2), .val (.int p3), .val (.int p4), .val (.int xx), .val (.int (p2 &&& (2147483647 : Int32))), .unset, .unset, .unset, .unset, .unset, .unset, .unset, .unset, .unset, .unset, .unset, .unset, .unset] []))
  generalize h_yy : (p2 &&& (2147483647 : Int32)) = yy
  show GoW p.tables e below s _ _ _ (s₁.setTop (mkF m 12 #[.val (.int p1), .val (.int p2), .val (.int p3), .val (.int p4), .val (.int xx), .val (.int yy), .unset, .unset, .unset, .unset, .unset, .unset, .unset, .unset, .unset, .unset, .unset, .unset, .unset] []))
  rw [h_xx] at hx0
  rw [h_yy] at hy0
  have sg2 : ∀ t, Steps p.tables e below (s₁.setTop (mkF m 16 #[.val (.int p1), .val (.int p2), .val (.int p3), .val (.int p4), .val (.int xx), .val (.int yy), .unset, .unset, .unset, .unset, .unset, .unset, .unset, .unset, .unset, .unset, .unset, .unset, .unset] [(.int yy), (.int xx)])) t → Steps p.tables e below (s₁.setTop (mkF m 12 #[.val (.int p1), .val (.int p2), .val (.int p3), .val (.int p4), .val (.int xx), .val (.int yy), .unset, .unset, .unset, .unset, .unset, .unset, .unset, .unset, .unset, .unset, .unset, .unset, .unset] [])) t := by
    intro t kt
    show Steps p.tables e below (s₁.setTop (mkF m 12 #[.val (.int p1), .val (.int p2), .val (.int p3), .val (.int p4), .val (.int xx), .val (.int yy), .unset, .unset, .unset, .unset, .unset, .unset, .unset, .unset, .unset, .unset, .unset, .unset, .unset] [])) _
    refine XS.iload X0.here hx rfl (hb hby at_12) rfl ?_
    show Steps p.tables e below (s₁.setTop (mkF m 14 #[.val (.int p1), .val (.int p2), .val (.int p3), .val (.int p4), .val (.int xx), .val (.int yy), .unset, .unset, .unset, .unset, .unset, .unset, .unset, .unset, .unset, .unset, .unset, .unset, .unset] [(.int xx)])) _
    refine XS.iload X0.here hx rfl (hb hby at_14) rfl ?_
    exact kt
  refine GoW.adv sg2 ?_
  obtain ⟨_, _, ⟨T3, L3, k3, n3⟩, -, X3, ⟨Lc3, hQ3, l3, y3, z3⟩, st3⟩ := Jvm.LawKit.callS X0 hx (y := (⟨"java/lang/Math", "min", "(II)I"⟩ : MethodName)) hown (mvT hZ (hw _ (List.mem_of_getElem? (i := 1) rfl))) (mvT hZ (hw _ (List.mem_of_getElem? (i := 2) rfl))) (mvT hZ (hw _ (List.mem_of_getElem? (i := 3) rfl))) (mvT hZ (hw _ (List.mem_of_getElem? (i := 4) rfl))) (by decide) (backOf (W := 0) (rm_min l Z a0 hw [] xx yy  h0 n0 Z0 ) hZ (hw _ (List.mem_of_getElem? (i := 4) rfl)) (hw _ (List.mem_of_getElem? (i := 3) rfl)) (by decide) (by decide)) (g := (mkF m 16 #[.val (.int p1), .val (.int p2), .val (.int p3), .val (.int p4), .val (.int xx), .val (.int yy), .unset, .unset, .unset, .unset, .unset, .unset, .unset, .unset, .unset, .unset, .unset, .unset, .unset] [(.int yy), (.int xx)])) rfl (by rw [hml]; rfl) (argsL := [(.int xx), (.int yy)]) (rest := []) (lenOf pd_oIIcI rfl) rfl (by show 2 * 0 + _ ≤ _; exact Nat.le_of_eq rfl) (hb hby at_16) (fun _ _ => ⟨rfl, e0, (by decide : 0 + 0 ≤ _), (by decide : 0 + 0 ≤ _)⟩)
  dsimp only [Pt.U, Pt.locs, Pt.cells, Pt.slots] at X3 l3 y3 z3 st3 hQ3
  subst l3 y3 z3
  obtain ⟨rfl, N3q, e3⟩ := hQ3
  have N3 := Fr.app N0 N3q
  refine GoW.adv st3 ?_
  show GoW p.tables e below s _ _ _ (T3.setTop (mkF m 19 #[.val (.int p1), .val (.int p2), .val (.int p3), .val (.int p4), .val (.int xx), .val (.int yy), .unset, .unset, .unset, .unset, .unset, .unset, .unset, .unset, .unset, .unset, .unset, .unset, .unset] [(.int (own_min xx yy))]))
  have sg4 : ∀ t, Steps p.tables e below (T3.setTop (mkF m 25 #[.val (.int p1), .val (.int p2), .val (.int p3), .val (.int p4), .val (.int xx), .val (.int yy), .val (.int (own_min xx yy)), .unset, .unset, .unset, .unset, .unset, .unset, .unset, .unset, .unset, .unset, .unset, .unset] [(.int yy), (.int xx)])) t → Steps p.tables e below (T3.setTop (mkF m 19 #[.val (.int p1), .val (.int p2), .val (.int p3), .val (.int p4), .val (.int xx), .val (.int yy), .unset, .unset, .unset, .unset, .unset, .unset, .unset, .unset, .unset, .unset, .unset, .unset, .unset] [(.int (own_min xx yy))])) t := by
    intro t kt
    show Steps p.tables e below (T3.setTop (mkF m 19 #[.val (.int p1), .val (.int p2), .val (.int p3), .val (.int p4), .val (.int xx), .val (.int yy), .unset, .unset, .unset, .unset, .unset, .unset, .unset, .unset, .unset, .unset, .unset, .unset, .unset] [(.int (own_min xx yy))])) _
    refine XS.istore X3.here hx rfl (hb hby at_19) rfl (l' := #[.val (.int p1), .val (.int p2), .val (.int p3), .val (.int p4), .val (.int xx), .val (.int yy), .val (.int (own_min xx yy)), .unset, .unset, .unset, .unset, .unset, .unset, .unset, .unset, .unset, .unset, .unset, .unset]) rfl ?_
    show Steps p.tables e below (T3.setTop (mkF m 21 #[.val (.int p1), .val (.int p2), .val (.int p3), .val (.int p4), .val (.int xx), .val (.int yy), .val (.int (own_min xx yy)), .unset, .unset, .unset, .unset, .unset, .unset, .unset, .unset, .unset, .unset, .unset, .unset] [])) _
    refine XS.iload X3.here hx rfl (hb hby at_21) rfl ?_
    show Steps p.tables e below (T3.setTop (mkF m 23 #[.val (.int p1), .val (.int p2), .val (.int p3), .val (.int p4), .val (.int xx), .val (.int yy), .val (.int (own_min xx yy)), .unset, .unset, .unset, .unset, .unset, .unset, .unset, .unset, .unset, .unset, .unset, .unset] [(.int xx)])) _
    refine XS.iload X3.here hx rfl (hb hby at_23) rfl ?_
    exact kt
  refine GoW.adv sg4 ?_
  obtain ⟨_, _, ⟨T5, L5, k5, n5⟩, -, X5, ⟨Lc5, hQ5, l5, y5, z5⟩, st5⟩ := Jvm.LawKit.callS X3 hx (y := (⟨"java/lang/Math", "max", "(II)I"⟩ : MethodName)) hown (mvT hZ (hw _ (List.mem_of_getElem? (i := 5) rfl))) (mvT hZ (hw _ (List.mem_of_getElem? (i := 6) rfl))) (mvT hZ (hw _ (List.mem_of_getElem? (i := 3) rfl))) (mvT hZ (hw _ (List.mem_of_getElem? (i := 7) rfl))) (by decide) (backOf (W := 0) (rm_max l Z a0 hw [] xx yy  h0 n0 Z0 ) hZ (hw _ (List.mem_of_getElem? (i := 7) rfl)) (hw _ (List.mem_of_getElem? (i := 3) rfl)) (by decide) (by decide)) (g := (mkF m 25 #[.val (.int p1), .val (.int p2), .val (.int p3), .val (.int p4), .val (.int xx), .val (.int yy), .val (.int (own_min xx yy)), .unset, .unset, .unset, .unset, .unset, .unset, .unset, .unset, .unset, .unset, .unset, .unset] [(.int yy), (.int xx)])) rfl (by rw [hml]; rfl) (argsL := [(.int xx), (.int yy)]) (rest := []) (lenOf pd_oIIcI rfl) rfl (by show 2 * 0 + _ ≤ _; exact Nat.le_of_eq rfl) (hb hby at_25) (fun _ _ => ⟨rfl, e3, (by decide : 0 + 0 ≤ _), (by decide : 0 + 0 ≤ _)⟩)
  dsimp only [Pt.U, Pt.locs, Pt.cells, Pt.slots] at X5 l5 y5 z5 st5 hQ5
  subst l5 y5 z5
  obtain ⟨rfl, N5q, e5⟩ := hQ5
  have N5 := Fr.app N3 N5q
  refine GoW.adv st5 ?_
  show GoW p.tables e below s _ _ _ (T5.setTop (mkF m 28 #[.val (.int p1), .val (.int p2), .val (.int p3), .val (.int p4), .val (.int xx), .val (.int yy), .val (.int (own_min xx yy)), .unset, .unset, .unset, .unset, .unset, .unset, .unset, .unset, .unset, .unset, .unset, .unset] [(.int (own_max xx yy))]))
  have sg6 : ∀ t, Steps p.tables e below (T5.setTop (mkF m 30 #[.val (.int p1), .val (.int p2), .val (.int p3), .val (.int p4), .val (.int xx), .val (.int yy), .val (.int (own_min xx yy)), .val (.int (own_max xx yy)), .unset, .unset, .unset, .unset, .unset, .unset, .unset, .unset, .unset, .unset, .unset] [])) t → Steps p.tables e below (T5.setTop (mkF m 28 #[.val (.int p1), .val (.int p2), .val (.int p3), .val (.int p4), .val (.int xx), .val (.int yy), .val (.int (own_min xx yy)), .unset, .unset, .unset, .unset, .unset, .unset, .unset, .unset, .unset, .unset, .unset, .unset] [(.int (own_max xx yy))])) t := by
    intro t kt
    show Steps p.tables e below (T5.setTop (mkF m 28 #[.val (.int p1), .val (.int p2), .val (.int p3), .val (.int p4), .val (.int xx), .val (.int yy), .val (.int (own_min xx yy)), .unset, .unset, .unset, .unset, .unset, .unset, .unset, .unset, .unset, .unset, .unset, .unset] [(.int (own_max xx yy))])) _
    refine XS.istore X5.here hx rfl (hb hby at_28) rfl (l' := #[.val (.int p1), .val (.int p2), .val (.int p3), .val (.int p4), .val (.int xx), .val (.int yy), .val (.int (own_min xx yy)), .val (.int (own_max xx yy)), .unset, .unset, .unset, .unset, .unset, .unset, .unset, .unset, .unset, .unset, .unset]) rfl ?_
    exact kt
  refine GoW.adv sg6 ?_
  have hmm := own_mm hx0 hy0
  generalize h_mn : (own_min xx yy) = mn
  show GoW p.tables e below s _ _ _ (T5.setTop (mkF m 30 #[.val (.int p1), .val (.int p2), .val (.int p3), .val (.int p4), .val (.int xx), .val (.int yy), .val (.int mn), .val (.int (own_max xx yy)), .unset, .unset, .unset, .unset, .unset, .unset, .unset, .unset, .unset, .unset, .unset] []))
  generalize h_mx : (own_max xx yy) = mx
  show GoW p.tables e below s _ _ _ (T5.setTop (mkF m 30 #[.val (.int p1), .val (.int p2), .val (.int p3), .val (.int p4), .val (.int xx), .val (.int yy), .val (.int mn), .val (.int mx), .unset, .unset, .unset, .unset, .unset, .unset, .unset, .unset, .unset, .unset, .unset] []))
  rw [h_mn, h_mx] at hmm
  obtain ⟨fr, to, ⟨hf0, hft⟩, sgA⟩ : ∃ (fr : Int32) (to : Int32), (0 ≤ fr.toInt ∧ fr.toInt < to.toInt) ∧ ∀ t, Steps p.tables e below (T5.setTop (mkF m 59 #[.val (.int p1), .val (.int p2), .val (.int p3), .val (.int p4), .val (.int xx), .val (.int yy), .val (.int fr), .val (.int to), .unset, .unset, .unset, .unset, .unset, .unset, .unset, .unset, .unset, .unset, .unset] [])) t → Steps p.tables e below (T5.setTop (mkF m 30 #[.val (.int p1), .val (.int p2), .val (.int p3), .val (.int p4), .val (.int xx), .val (.int yy), .val (.int mn), .val (.int mx), .unset, .unset, .unset, .unset, .unset, .unset, .unset, .unset, .unset, .unset, .unset] [])) t := by
    by_cases hq : mn = mx
    · by_cases hq2 : mx = (2147483647 : Int32)
      · refine ⟨(mx - (1 : Int32)), mx, own_fa hq2, ?_⟩
        intro t kt
        show Steps p.tables e below (T5.setTop (mkF m 30 #[.val (.int p1), .val (.int p2), .val (.int p3), .val (.int p4), .val (.int xx), .val (.int yy), .val (.int mn), .val (.int mx), .unset, .unset, .unset, .unset, .unset, .unset, .unset, .unset, .unset, .unset, .unset] [])) _
        refine XS.iload X5.here hx rfl (hb hby at_30) rfl ?_
        show Steps p.tables e below (T5.setTop (mkF m 32 #[.val (.int p1), .val (.int p2), .val (.int p3), .val (.int p4), .val (.int xx), .val (.int yy), .val (.int mn), .val (.int mx), .unset, .unset, .unset, .unset, .unset, .unset, .unset, .unset, .unset, .unset, .unset] [(.int mn)])) _
        refine XS.iload X5.here hx rfl (hb hby at_32) rfl ?_
        show Steps p.tables e below (T5.setTop (mkF m 34 #[.val (.int p1), .val (.int p2), .val (.int p3), .val (.int p4), .val (.int xx), .val (.int yy), .val (.int mn), .val (.int mx), .unset, .unset, .unset, .unset, .unset, .unset, .unset, .unset, .unset, .unset, .unset] [(.int mx), (.int mn)])) _
        refine XS.icmpNo X5.here hx rfl (hb hby at_34) rfl (teq (hq : mn = mx)).2 ?_
        show Steps p.tables e below (T5.setTop (mkF m 37 #[.val (.int p1), .val (.int p2), .val (.int p3), .val (.int p4), .val (.int xx), .val (.int yy), .val (.int mn), .val (.int mx), .unset, .unset, .unset, .unset, .unset, .unset, .unset, .unset, .unset, .unset, .unset] [])) _
        refine XS.iload X5.here hx rfl (hb hby at_37) rfl ?_
        show Steps p.tables e below (T5.setTop (mkF m 39 #[.val (.int p1), .val (.int p2), .val (.int p3), .val (.int p4), .val (.int xx), .val (.int yy), .val (.int mn), .val (.int mx), .unset, .unset, .unset, .unset, .unset, .unset, .unset, .unset, .unset, .unset, .unset] [(.int mx)])) _
        refine X5.ldcInt hx hown (mvT hZ (hw _ (List.mem_of_getElem? (i := 0) rfl))) (g := (mkF m 39 #[.val (.int p1), .val (.int p2), .val (.int p3), .val (.int p4), .val (.int xx), .val (.int yy), .val (.int mn), .val (.int mx), .unset, .unset, .unset, .unset, .unset, .unset, .unset, .unset, .unset, .unset, .unset] [(.int mx)])) rfl (hb hby at_39) _ ?_
        show Steps p.tables e below (T5.setTop (mkF m 41 #[.val (.int p1), .val (.int p2), .val (.int p3), .val (.int p4), .val (.int xx), .val (.int yy), .val (.int mn), .val (.int mx), .unset, .unset, .unset, .unset, .unset, .unset, .unset, .unset, .unset, .unset, .unset] [(.int (2147483647 : Int32)), (.int mx)])) _
        refine XS.icmpNo X5.here hx rfl (hb hby at_41) rfl (teq (hq2 : mx = (2147483647 : Int32))).2 ?_
        show Steps p.tables e below (T5.setTop (mkF m 44 #[.val (.int p1), .val (.int p2), .val (.int p3), .val (.int p4), .val (.int xx), .val (.int yy), .val (.int mn), .val (.int mx), .unset, .unset, .unset, .unset, .unset, .unset, .unset, .unset, .unset, .unset, .unset] [])) _
        refine XS.iload X5.here hx rfl (hb hby at_44) rfl ?_
        show Steps p.tables e below (T5.setTop (mkF m 46 #[.val (.int p1), .val (.int p2), .val (.int p3), .val (.int p4), .val (.int xx), .val (.int yy), .val (.int mn), .val (.int mx), .unset, .unset, .unset, .unset, .unset, .unset, .unset, .unset, .unset, .unset, .unset] [(.int mx)])) _
        refine XS.iconst X5.here hx rfl (hb hby at_46) ?_
        show Steps p.tables e below (T5.setTop (mkF m 47 #[.val (.int p1), .val (.int p2), .val (.int p3), .val (.int p4), .val (.int xx), .val (.int yy), .val (.int mn), .val (.int mx), .unset, .unset, .unset, .unset, .unset, .unset, .unset, .unset, .unset, .unset, .unset] [(.int (1 : Int32)), (.int mx)])) _
        refine XS.isub X5.here hx rfl (hb hby at_47) rfl ?_
        show Steps p.tables e below (T5.setTop (mkF m 48 #[.val (.int p1), .val (.int p2), .val (.int p3), .val (.int p4), .val (.int xx), .val (.int yy), .val (.int mn), .val (.int mx), .unset, .unset, .unset, .unset, .unset, .unset, .unset, .unset, .unset, .unset, .unset] [(.int (mx - (1 : Int32)))])) _
        refine XS.istore X5.here hx rfl (hb hby at_48) rfl (l' := #[.val (.int p1), .val (.int p2), .val (.int p3), .val (.int p4), .val (.int xx), .val (.int yy), .val (.int (mx - (1 : Int32))), .val (.int mx), .unset, .unset, .unset, .unset, .unset, .unset, .unset, .unset, .unset, .unset, .unset]) rfl ?_
        show Steps p.tables e below (T5.setTop (mkF m 50 #[.val (.int p1), .val (.int p2), .val (.int p3), .val (.int p4), .val (.int xx), .val (.int yy), .val (.int (mx - (1 : Int32))), .val (.int mx), .unset, .unset, .unset, .unset, .unset, .unset, .unset, .unset, .unset, .unset, .unset] [])) _
        refine XS.goto X5.here hx rfl (pc0 := 50) (pc' := 59) rfl (hb hby at_50) (by decide) (by decide) ?_
        exact kt
      · refine ⟨mn, (mx + (1 : Int32)), own_fb hmm hq2, ?_⟩
        intro t kt
        show Steps p.tables e below (T5.setTop (mkF m 30 #[.val (.int p1), .val (.int p2), .val (.int p3), .val (.int p4), .val (.int xx), .val (.int yy), .val (.int mn), .val (.int mx), .unset, .unset, .unset, .unset, .unset, .unset, .unset, .unset, .unset, .unset, .unset] [])) _
        refine XS.iload X5.here hx rfl (hb hby at_30) rfl ?_
        show Steps p.tables e below (T5.setTop (mkF m 32 #[.val (.int p1), .val (.int p2), .val (.int p3), .val (.int p4), .val (.int xx), .val (.int yy), .val (.int mn), .val (.int mx), .unset, .unset, .unset, .unset, .unset, .unset, .unset, .unset, .unset, .unset, .unset] [(.int mn)])) _
        refine XS.iload X5.here hx rfl (hb hby at_32) rfl ?_
        show Steps p.tables e below (T5.setTop (mkF m 34 #[.val (.int p1), .val (.int p2), .val (.int p3), .val (.int p4), .val (.int xx), .val (.int yy), .val (.int mn), .val (.int mx), .unset, .unset, .unset, .unset, .unset, .unset, .unset, .unset, .unset, .unset, .unset] [(.int mx), (.int mn)])) _
        refine XS.icmpNo X5.here hx rfl (hb hby at_34) rfl (teq (hq : mn = mx)).2 ?_
        show Steps p.tables e below (T5.setTop (mkF m 37 #[.val (.int p1), .val (.int p2), .val (.int p3), .val (.int p4), .val (.int xx), .val (.int yy), .val (.int mn), .val (.int mx), .unset, .unset, .unset, .unset, .unset, .unset, .unset, .unset, .unset, .unset, .unset] [])) _
        refine XS.iload X5.here hx rfl (hb hby at_37) rfl ?_
        show Steps p.tables e below (T5.setTop (mkF m 39 #[.val (.int p1), .val (.int p2), .val (.int p3), .val (.int p4), .val (.int xx), .val (.int yy), .val (.int mn), .val (.int mx), .unset, .unset, .unset, .unset, .unset, .unset, .unset, .unset, .unset, .unset, .unset] [(.int mx)])) _
        refine X5.ldcInt hx hown (mvT hZ (hw _ (List.mem_of_getElem? (i := 0) rfl))) (g := (mkF m 39 #[.val (.int p1), .val (.int p2), .val (.int p3), .val (.int p4), .val (.int xx), .val (.int yy), .val (.int mn), .val (.int mx), .unset, .unset, .unset, .unset, .unset, .unset, .unset, .unset, .unset, .unset, .unset] [(.int mx)])) rfl (hb hby at_39) _ ?_
        show Steps p.tables e below (T5.setTop (mkF m 41 #[.val (.int p1), .val (.int p2), .val (.int p3), .val (.int p4), .val (.int xx), .val (.int yy), .val (.int mn), .val (.int mx), .unset, .unset, .unset, .unset, .unset, .unset, .unset, .unset, .unset, .unset, .unset] [(.int (2147483647 : Int32)), (.int mx)])) _
        refine XS.icmpYes X5.here hx rfl (pc0 := 41) (pc' := 53) rfl (hb hby at_41) rfl (feq (hq2 : ¬ (mx = (2147483647 : Int32)))).2 (by decide) (by decide) ?_
        show Steps p.tables e below (T5.setTop (mkF m 53 #[.val (.int p1), .val (.int p2), .val (.int p3), .val (.int p4), .val (.int xx), .val (.int yy), .val (.int mn), .val (.int mx), .unset, .unset, .unset, .unset, .unset, .unset, .unset, .unset, .unset, .unset, .unset] [])) _
        refine XS.iload X5.here hx rfl (hb hby at_53) rfl ?_
        show Steps p.tables e below (T5.setTop (mkF m 55 #[.val (.int p1), .val (.int p2), .val (.int p3), .val (.int p4), .val (.int xx), .val (.int yy), .val (.int mn), .val (.int mx), .unset, .unset, .unset, .unset, .unset, .unset, .unset, .unset, .unset, .unset, .unset] [(.int mx)])) _
        refine XS.iconst X5.here hx rfl (hb hby at_55) ?_
        show Steps p.tables e below (T5.setTop (mkF m 56 #[.val (.int p1), .val (.int p2), .val (.int p3), .val (.int p4), .val (.int xx), .val (.int yy), .val (.int mn), .val (.int mx), .unset, .unset, .unset, .unset, .unset, .unset, .unset, .unset, .unset, .unset, .unset] [(.int (1 : Int32)), (.int mx)])) _
        refine XS.iadd X5.here hx rfl (hb hby at_56) rfl ?_
        show Steps p.tables e below (T5.setTop (mkF m 57 #[.val (.int p1), .val (.int p2), .val (.int p3), .val (.int p4), .val (.int xx), .val (.int yy), .val (.int mn), .val (.int mx), .unset, .unset, .unset, .unset, .unset, .unset, .unset, .unset, .unset, .unset, .unset] [(.int (mx + (1 : Int32)))])) _
        refine XS.istore X5.here hx rfl (hb hby at_57) rfl (l' := #[.val (.int p1), .val (.int p2), .val (.int p3), .val (.int p4), .val (.int xx), .val (.int yy), .val (.int mn), .val (.int (mx + (1 : Int32))), .unset, .unset, .unset, .unset, .unset, .unset, .unset, .unset, .unset, .unset, .unset]) rfl ?_
        exact kt
    · refine ⟨mn, mx, own_ft hmm hq, ?_⟩
      intro t kt
      show Steps p.tables e below (T5.setTop (mkF m 30 #[.val (.int p1), .val (.int p2), .val (.int p3), .val (.int p4), .val (.int xx), .val (.int yy), .val (.int mn), .val (.int mx), .unset, .unset, .unset, .unset, .unset, .unset, .unset, .unset, .unset, .unset, .unset] [])) _
      refine XS.iload X5.here hx rfl (hb hby at_30) rfl ?_
      show Steps p.tables e below (T5.setTop (mkF m 32 #[.val (.int p1), .val (.int p2), .val (.int p3), .val (.int p4), .val (.int xx), .val (.int yy), .val (.int mn), .val (.int mx), .unset, .unset, .unset, .unset, .unset, .unset, .unset, .unset, .unset, .unset, .unset] [(.int mn)])) _
      refine XS.iload X5.here hx rfl (hb hby at_32) rfl ?_
      show Steps p.tables e below (T5.setTop (mkF m 34 #[.val (.int p1), .val (.int p2), .val (.int p3), .val (.int p4), .val (.int xx), .val (.int yy), .val (.int mn), .val (.int mx), .unset, .unset, .unset, .unset, .unset, .unset, .unset, .unset, .unset, .unset, .unset] [(.int mx), (.int mn)])) _
      refine XS.icmpYes X5.here hx rfl (pc0 := 34) (pc' := 59) rfl (hb hby at_34) rfl (feq (hq : ¬ (mn = mx))).2 (by decide) (by decide) ?_
      exact kt
  refine GoW.adv sgA ?_
  show GoW p.tables e below s _ _ _ (T5.setTop (mkF m 59 #[.val (.int p1), .val (.int p2), .val (.int p3), .val (.int p4), .val (.int xx), .val (.int yy), .val (.int fr), .val (.int to), .unset, .unset, .unset, .unset, .unset, .unset, .unset, .unset, .unset, .unset, .unset] []))
  have sg10 : ∀ t, Steps p.tables e below (T5.setTop (mkF m 68 #[.val (.int p1), .val (.int p2), .val (.int p3), .val (.int p4), .val (.int xx), .val (.int yy), .val (.int fr), .val (.int to), .val (.int (p3 &&& (7 : Int32))), .val (.int p4), .unset, .unset, .unset, .unset, .unset, .unset, .unset, .unset, .unset] [])) t → Steps p.tables e below (T5.setTop (mkF m 59 #[.val (.int p1), .val (.int p2), .val (.int p3), .val (.int p4), .val (.int xx), .val (.int yy), .val (.int fr), .val (.int to), .unset, .unset, .unset, .unset, .unset, .unset, .unset, .unset, .unset, .unset, .unset] [])) t := by
    intro t kt
    show Steps p.tables e below (T5.setTop (mkF m 59 #[.val (.int p1), .val (.int p2), .val (.int p3), .val (.int p4), .val (.int xx), .val (.int yy), .val (.int fr), .val (.int to), .unset, .unset, .unset, .unset, .unset, .unset, .unset, .unset, .unset, .unset, .unset] [])) _
    refine XS.iloadN X5.here hx rfl (hb hby at_59) rfl ?_
    show Steps p.tables e below (T5.setTop (mkF m 60 #[.val (.int p1), .val (.int p2), .val (.int p3), .val (.int p4), .val (.int xx), .val (.int yy), .val (.int fr), .val (.int to), .unset, .unset, .unset, .unset, .unset, .unset, .unset, .unset, .unset, .unset, .unset] [(.int p3)])) _
    refine XS.bipush X5.here hx rfl (hb hby at_60) ?_
    show Steps p.tables e below (T5.setTop (mkF m 62 #[.val (.int p1), .val (.int p2), .val (.int p3), .val (.int p4), .val (.int xx), .val (.int yy), .val (.int fr), .val (.int to), .unset, .unset, .unset, .unset, .unset, .unset, .unset, .unset, .unset, .unset, .unset] [(.int (7 : Int32)), (.int p3)])) _
    refine XS.iand X5.here hx rfl (hb hby at_62) rfl ?_
    show Steps p.tables e below (T5.setTop (mkF m 63 #[.val (.int p1), .val (.int p2), .val (.int p3), .val (.int p4), .val (.int xx), .val (.int yy), .val (.int fr), .val (.int to), .unset, .unset, .unset, .unset, .unset, .unset, .unset, .unset, .unset, .unset, .unset] [(.int (p3 &&& (7 : Int32)))])) _
    refine XS.istore X5.here hx rfl (hb hby at_63) rfl (l' := #[.val (.int p1), .val (.int p2), .val (.int p3), .val (.int p4), .val (.int xx), .val (.int yy), .val (.int fr), .val (.int to), .val (.int (p3 &&& (7 : Int32))), .unset, .unset, .unset, .unset, .unset, .unset, .unset, .unset, .unset, .unset]) rfl ?_
    show Steps p.tables e below (T5.setTop (mkF m 65 #[.val (.int p1), .val (.int p2), .val (.int p3), .val (.int p4), .val (.int xx), .val (.int yy), .val (.int fr), .val (.int to), .val (.int (p3 &&& (7 : Int32))), .unset, .unset, .unset, .unset, .unset, .unset, .unset, .unset, .unset, .unset] [])) _
    refine XS.iloadN X5.here hx rfl (hb hby at_65) rfl ?_
    show Steps p.tables e below (T5.setTop (mkF m 66 #[.val (.int p1), .val (.int p2), .val (.int p3), .val (.int p4), .val (.int xx), .val (.int yy), .val (.int fr), .val (.int to), .val (.int (p3 &&& (7 : Int32))), .unset, .unset, .unset, .unset, .unset, .unset, .unset, .unset, .unset, .unset] [(.int p4)])) _
    refine XS.istore X5.here hx rfl (hb hby at_66) rfl (l' := #[.val (.int p1), .val (.int p2), .val (.int p3), .val (.int p4), .val (.int xx), .val (.int yy), .val (.int fr), .val (.int to), .val (.int (p3 &&& (7 : Int32))), .val (.int p4), .unset, .unset, .unset, .unset, .unset, .unset, .unset, .unset, .unset]) rfl ?_
    exact kt
  refine GoW.adv sg10 ?_
  generalize h_md : (p3 &&& (7 : Int32)) = md
  show GoW p.tables e below s _ _ _ (T5.setTop (mkF m 68 #[.val (.int p1), .val (.int p2), .val (.int p3), .val (.int p4), .val (.int xx), .val (.int yy), .val (.int fr), .val (.int to), .val (.int md), .val (.int p4), .unset, .unset, .unset, .unset, .unset, .unset, .unset, .unset, .unset] []))
  obtain ⟨sec, -, sgB⟩ : ∃ (sec : Int32), (True) ∧ ∀ t, Steps p.tables e below (T5.setTop (mkF m 121 #[.val (.int p1), .val (.int p2), .val (.int p3), .val (.int p4), .val (.int xx), .val (.int yy), .val (.int fr), .val (.int to), .val (.int md), .val (.int sec), .unset, .unset, .unset, .unset, .unset, .unset, .unset, .unset, .unset] [])) t → Steps p.tables e below (T5.setTop (mkF m 68 #[.val (.int p1), .val (.int p2), .val (.int p3), .val (.int p4), .val (.int xx), .val (.int yy), .val (.int fr), .val (.int to), .val (.int md), .val (.int p4), .unset, .unset, .unset, .unset, .unset, .unset, .unset, .unset, .unset] [])) t := by
    by_cases hmd1 : md = (1 : Int32)
    · refine ⟨fr, trivial, ?_⟩
      intro t kt
      show Steps p.tables e below (T5.setTop (mkF m 68 #[.val (.int p1), .val (.int p2), .val (.int p3), .val (.int p4), .val (.int xx), .val (.int yy), .val (.int fr), .val (.int to), .val (.int md), .val (.int p4), .unset, .unset, .unset, .unset, .unset, .unset, .unset, .unset, .unset] [])) _
      refine XS.iload X5.here hx rfl (hb hby at_68) rfl ?_
      show Steps p.tables e below (T5.setTop (mkF m 70 #[.val (.int p1), .val (.int p2), .val (.int p3), .val (.int p4), .val (.int xx), .val (.int yy), .val (.int fr), .val (.int to), .val (.int md), .val (.int p4), .unset, .unset, .unset, .unset, .unset, .unset, .unset, .unset, .unset] [(.int md)])) _
      refine XS.iconst X5.here hx rfl (hb hby at_70) ?_
      show Steps p.tables e below (T5.setTop (mkF m 71 #[.val (.int p1), .val (.int p2), .val (.int p3), .val (.int p4), .val (.int xx), .val (.int yy), .val (.int fr), .val (.int to), .val (.int md), .val (.int p4), .unset, .unset, .unset, .unset, .unset, .unset, .unset, .unset, .unset] [(.int (1 : Int32)), (.int md)])) _
      refine XS.icmpNo X5.here hx rfl (hb hby at_71) rfl (teq (hmd1 : md = (1 : Int32))).2 ?_
      show Steps p.tables e below (T5.setTop (mkF m 74 #[.val (.int p1), .val (.int p2), .val (.int p3), .val (.int p4), .val (.int xx), .val (.int yy), .val (.int fr), .val (.int to), .val (.int md), .val (.int p4), .unset, .unset, .unset, .unset, .unset, .unset, .unset, .unset, .unset] [])) _
      refine XS.iload X5.here hx rfl (hb hby at_74) rfl ?_
      show Steps p.tables e below (T5.setTop (mkF m 76 #[.val (.int p1), .val (.int p2), .val (.int p3), .val (.int p4), .val (.int xx), .val (.int yy), .val (.int fr), .val (.int to), .val (.int md), .val (.int p4), .unset, .unset, .unset, .unset, .unset, .unset, .unset, .unset, .unset] [(.int fr)])) _
      refine XS.istore X5.here hx rfl (hb hby at_76) rfl (l' := #[.val (.int p1), .val (.int p2), .val (.int p3), .val (.int p4), .val (.int xx), .val (.int yy), .val (.int fr), .val (.int to), .val (.int md), .val (.int fr), .unset, .unset, .unset, .unset, .unset, .unset, .unset, .unset, .unset]) rfl ?_
      show Steps p.tables e below (T5.setTop (mkF m 78 #[.val (.int p1), .val (.int p2), .val (.int p3), .val (.int p4), .val (.int xx), .val (.int yy), .val (.int fr), .val (.int to), .val (.int md), .val (.int fr), .unset, .unset, .unset, .unset, .unset, .unset, .unset, .unset, .unset] [])) _
      refine XS.goto X5.here hx rfl (pc0 := 78) (pc' := 121) rfl (hb hby at_78) (by decide) (by decide) ?_
      exact kt
    · by_cases hmd2 : md = (2 : Int32)
      · refine ⟨(fr - (1 : Int32)), trivial, ?_⟩
        intro t kt
        show Steps p.tables e below (T5.setTop (mkF m 68 #[.val (.int p1), .val (.int p2), .val (.int p3), .val (.int p4), .val (.int xx), .val (.int yy), .val (.int fr), .val (.int to), .val (.int md), .val (.int p4), .unset, .unset, .unset, .unset, .unset, .unset, .unset, .unset, .unset] [])) _
        refine XS.iload X5.here hx rfl (hb hby at_68) rfl ?_
        show Steps p.tables e below (T5.setTop (mkF m 70 #[.val (.int p1), .val (.int p2), .val (.int p3), .val (.int p4), .val (.int xx), .val (.int yy), .val (.int fr), .val (.int to), .val (.int md), .val (.int p4), .unset, .unset, .unset, .unset, .unset, .unset, .unset, .unset, .unset] [(.int md)])) _
        refine XS.iconst X5.here hx rfl (hb hby at_70) ?_
        show Steps p.tables e below (T5.setTop (mkF m 71 #[.val (.int p1), .val (.int p2), .val (.int p3), .val (.int p4), .val (.int xx), .val (.int yy), .val (.int fr), .val (.int to), .val (.int md), .val (.int p4), .unset, .unset, .unset, .unset, .unset, .unset, .unset, .unset, .unset] [(.int (1 : Int32)), (.int md)])) _
        refine XS.icmpYes X5.here hx rfl (pc0 := 71) (pc' := 81) rfl (hb hby at_71) rfl (feq (hmd1 : ¬ (md = (1 : Int32)))).2 (by decide) (by decide) ?_
        show Steps p.tables e below (T5.setTop (mkF m 81 #[.val (.int p1), .val (.int p2), .val (.int p3), .val (.int p4), .val (.int xx), .val (.int yy), .val (.int fr), .val (.int to), .val (.int md), .val (.int p4), .unset, .unset, .unset, .unset, .unset, .unset, .unset, .unset, .unset] [])) _
        refine XS.iload X5.here hx rfl (hb hby at_81) rfl ?_
        show Steps p.tables e below (T5.setTop (mkF m 83 #[.val (.int p1), .val (.int p2), .val (.int p3), .val (.int p4), .val (.int xx), .val (.int yy), .val (.int fr), .val (.int to), .val (.int md), .val (.int p4), .unset, .unset, .unset, .unset, .unset, .unset, .unset, .unset, .unset] [(.int md)])) _
        refine XS.iconst X5.here hx rfl (hb hby at_83) ?_
        show Steps p.tables e below (T5.setTop (mkF m 84 #[.val (.int p1), .val (.int p2), .val (.int p3), .val (.int p4), .val (.int xx), .val (.int yy), .val (.int fr), .val (.int to), .val (.int md), .val (.int p4), .unset, .unset, .unset, .unset, .unset, .unset, .unset, .unset, .unset] [(.int (2 : Int32)), (.int md)])) _
        refine XS.icmpNo X5.here hx rfl (hb hby at_84) rfl (teq (hmd2 : md = (2 : Int32))).2 ?_
        show Steps p.tables e below (T5.setTop (mkF m 87 #[.val (.int p1), .val (.int p2), .val (.int p3), .val (.int p4), .val (.int xx), .val (.int yy), .val (.int fr), .val (.int to), .val (.int md), .val (.int p4), .unset, .unset, .unset, .unset, .unset, .unset, .unset, .unset, .unset] [])) _
        refine XS.iload X5.here hx rfl (hb hby at_87) rfl ?_
        show Steps p.tables e below (T5.setTop (mkF m 89 #[.val (.int p1), .val (.int p2), .val (.int p3), .val (.int p4), .val (.int xx), .val (.int yy), .val (.int fr), .val (.int to), .val (.int md), .val (.int p4), .unset, .unset, .unset, .unset, .unset, .unset, .unset, .unset, .unset] [(.int fr)])) _
        refine XS.iconst X5.here hx rfl (hb hby at_89) ?_
        show Steps p.tables e below (T5.setTop (mkF m 90 #[.val (.int p1), .val (.int p2), .val (.int p3), .val (.int p4), .val (.int xx), .val (.int yy), .val (.int fr), .val (.int to), .val (.int md), .val (.int p4), .unset, .unset, .unset, .unset, .unset, .unset, .unset, .unset, .unset] [(.int (1 : Int32)), (.int fr)])) _
        refine XS.isub X5.here hx rfl (hb hby at_90) rfl ?_
        show Steps p.tables e below (T5.setTop (mkF m 91 #[.val (.int p1), .val (.int p2), .val (.int p3), .val (.int p4), .val (.int xx), .val (.int yy), .val (.int fr), .val (.int to), .val (.int md), .val (.int p4), .unset, .unset, .unset, .unset, .unset, .unset, .unset, .unset, .unset] [(.int (fr - (1 : Int32)))])) _
        refine XS.istore X5.here hx rfl (hb hby at_91) rfl (l' := #[.val (.int p1), .val (.int p2), .val (.int p3), .val (.int p4), .val (.int xx), .val (.int yy), .val (.int fr), .val (.int to), .val (.int md), .val (.int (fr - (1 : Int32))), .unset, .unset, .unset, .unset, .unset, .unset, .unset, .unset, .unset]) rfl ?_
        show Steps p.tables e below (T5.setTop (mkF m 93 #[.val (.int p1), .val (.int p2), .val (.int p3), .val (.int p4), .val (.int xx), .val (.int yy), .val (.int fr), .val (.int to), .val (.int md), .val (.int (fr - (1 : Int32))), .unset, .unset, .unset, .unset, .unset, .unset, .unset, .unset, .unset] [])) _
        refine XS.goto X5.here hx rfl (pc0 := 93) (pc' := 121) rfl (hb hby at_93) (by decide) (by decide) ?_
        exact kt
      · by_cases hmd3 : md = (3 : Int32)
        · refine ⟨to, trivial, ?_⟩
          intro t kt
          show Steps p.tables e below (T5.setTop (mkF m 68 #[.val (.int p1), .val (.int p2), .val (.int p3), .val (.int p4), .val (.int xx), .val (.int yy), .val (.int fr), .val (.int to), .val (.int md), .val (.int p4), .unset, .unset, .unset, .unset, .unset, .unset, .unset, .unset, .unset] [])) _
          refine XS.iload X5.here hx rfl (hb hby at_68) rfl ?_
          show Steps p.tables e below (T5.setTop (mkF m 70 #[.val (.int p1), .val (.int p2), .val (.int p3), .val (.int p4), .val (.int xx), .val (.int yy), .val (.int fr), .val (.int to), .val (.int md), .val (.int p4), .unset, .unset, .unset, .unset, .unset, .unset, .unset, .unset, .unset] [(.int md)])) _
          refine XS.iconst X5.here hx rfl (hb hby at_70) ?_
          show Steps p.tables e below (T5.setTop (mkF m 71 #[.val (.int p1), .val (.int p2), .val (.int p3), .val (.int p4), .val (.int xx), .val (.int yy), .val (.int fr), .val (.int to), .val (.int md), .val (.int p4), .unset, .unset, .unset, .unset, .unset, .unset, .unset, .unset, .unset] [(.int (1 : Int32)), (.int md)])) _
          refine XS.icmpYes X5.here hx rfl (pc0 := 71) (pc' := 81) rfl (hb hby at_71) rfl (feq (hmd1 : ¬ (md = (1 : Int32)))).2 (by decide) (by decide) ?_
          show Steps p.tables e below (T5.setTop (mkF m 81 #[.val (.int p1), .val (.int p2), .val (.int p3), .val (.int p4), .val (.int xx), .val (.int yy), .val (.int fr), .val (.int to), .val (.int md), .val (.int p4), .unset, .unset, .unset, .unset, .unset, .unset, .unset, .unset, .unset] [])) _
          refine XS.iload X5.here hx rfl (hb hby at_81) rfl ?_
          show Steps p.tables e below (T5.setTop (mkF m 83 #[.val (.int p1), .val (.int p2), .val (.int p3), .val (.int p4), .val (.int xx), .val (.int yy), .val (.int fr), .val (.int to), .val (.int md), .val (.int p4), .unset, .unset, .unset, .unset, .unset, .unset, .unset, .unset, .unset] [(.int md)])) _
          refine XS.iconst X5.here hx rfl (hb hby at_83) ?_
          show Steps p.tables e below (T5.setTop (mkF m 84 #[.val (.int p1), .val (.int p2), .val (.int p3), .val (.int p4), .val (.int xx), .val (.int yy), .val (.int fr), .val (.int to), .val (.int md), .val (.int p4), .unset, .unset, .unset, .unset, .unset, .unset, .unset, .unset, .unset] [(.int (2 : Int32)), (.int md)])) _
          refine XS.icmpYes X5.here hx rfl (pc0 := 84) (pc' := 96) rfl (hb hby at_84) rfl (feq (hmd2 : ¬ (md = (2 : Int32)))).2 (by decide) (by decide) ?_
          show Steps p.tables e below (T5.setTop (mkF m 96 #[.val (.int p1), .val (.int p2), .val (.int p3), .val (.int p4), .val (.int xx), .val (.int yy), .val (.int fr), .val (.int to), .val (.int md), .val (.int p4), .unset, .unset, .unset, .unset, .unset, .unset, .unset, .unset, .unset] [])) _
          refine XS.iload X5.here hx rfl (hb hby at_96) rfl ?_
          show Steps p.tables e below (T5.setTop (mkF m 98 #[.val (.int p1), .val (.int p2), .val (.int p3), .val (.int p4), .val (.int xx), .val (.int yy), .val (.int fr), .val (.int to), .val (.int md), .val (.int p4), .unset, .unset, .unset, .unset, .unset, .unset, .unset, .unset, .unset] [(.int md)])) _
          refine XS.iconst X5.here hx rfl (hb hby at_98) ?_
          show Steps p.tables e below (T5.setTop (mkF m 99 #[.val (.int p1), .val (.int p2), .val (.int p3), .val (.int p4), .val (.int xx), .val (.int yy), .val (.int fr), .val (.int to), .val (.int md), .val (.int p4), .unset, .unset, .unset, .unset, .unset, .unset, .unset, .unset, .unset] [(.int (3 : Int32)), (.int md)])) _
          refine XS.icmpNo X5.here hx rfl (hb hby at_99) rfl (teq (hmd3 : md = (3 : Int32))).2 ?_
          show Steps p.tables e below (T5.setTop (mkF m 102 #[.val (.int p1), .val (.int p2), .val (.int p3), .val (.int p4), .val (.int xx), .val (.int yy), .val (.int fr), .val (.int to), .val (.int md), .val (.int p4), .unset, .unset, .unset, .unset, .unset, .unset, .unset, .unset, .unset] [])) _
          refine XS.iload X5.here hx rfl (hb hby at_102) rfl ?_
          show Steps p.tables e below (T5.setTop (mkF m 104 #[.val (.int p1), .val (.int p2), .val (.int p3), .val (.int p4), .val (.int xx), .val (.int yy), .val (.int fr), .val (.int to), .val (.int md), .val (.int p4), .unset, .unset, .unset, .unset, .unset, .unset, .unset, .unset, .unset] [(.int to)])) _
          refine XS.istore X5.here hx rfl (hb hby at_104) rfl (l' := #[.val (.int p1), .val (.int p2), .val (.int p3), .val (.int p4), .val (.int xx), .val (.int yy), .val (.int fr), .val (.int to), .val (.int md), .val (.int to), .unset, .unset, .unset, .unset, .unset, .unset, .unset, .unset, .unset]) rfl ?_
          show Steps p.tables e below (T5.setTop (mkF m 106 #[.val (.int p1), .val (.int p2), .val (.int p3), .val (.int p4), .val (.int xx), .val (.int yy), .val (.int fr), .val (.int to), .val (.int md), .val (.int to), .unset, .unset, .unset, .unset, .unset, .unset, .unset, .unset, .unset] [])) _
          refine XS.goto X5.here hx rfl (pc0 := 106) (pc' := 121) rfl (hb hby at_106) (by decide) (by decide) ?_
          exact kt
        · by_cases hmd4 : md = (4 : Int32)
          · refine ⟨(to - (1 : Int32)), trivial, ?_⟩
            intro t kt
            show Steps p.tables e below (T5.setTop (mkF m 68 #[.val (.int p1), .val (.int p2), .val (.int p3), .val (.int p4), .val (.int xx), .val (.int yy), .val (.int fr), .val (.int to), .val (.int md), .val (.int p4), .unset, .unset, .unset, .unset, .unset, .unset, .unset, .unset, .unset] [])) _
            refine XS.iload X5.here hx rfl (hb hby at_68) rfl ?_
            show Steps p.tables e below (T5.setTop (mkF m 70 #[.val (.int p1), .val (.int p2), .val (.int p3), .val (.int p4), .val (.int xx), .val (.int yy), .val (.int fr), .val (.int to), .val (.int md), .val (.int p4), .unset, .unset, .unset, .unset, .unset, .unset, .unset, .unset, .unset] [(.int md)])) _
            refine XS.iconst X5.here hx rfl (hb hby at_70) ?_
            show Steps p.tables e below (T5.setTop (mkF m 71 #[.val (.int p1), .val (.int p2), .val (.int p3), .val (.int p4), .val (.int xx), .val (.int yy), .val (.int fr), .val (.int to), .val (.int md), .val (.int p4), .unset, .unset, .unset, .unset, .unset, .unset, .unset, .unset, .unset] [(.int (1 : Int32)), (.int md)])) _
            refine XS.icmpYes X5.here hx rfl (pc0 := 71) (pc' := 81) rfl (hb hby at_71) rfl (feq (hmd1 : ¬ (md = (1 : Int32)))).2 (by decide) (by decide) ?_
            show Steps p.tables e below (T5.setTop (mkF m 81 #[.val (.int p1), .val (.int p2), .val (.int p3), .val (.int p4), .val (.int xx), .val (.int yy), .val (.int fr), .val (.int to), .val (.int md), .val (.int p4), .unset, .unset, .unset, .unset, .unset, .unset, .unset, .unset, .unset] [])) _
            refine XS.iload X5.here hx rfl (hb hby at_81) rfl ?_
            show Steps p.tables e below (T5.setTop (mkF m 83 #[.val (.int p1), .val (.int p2), .val (.int p3), .val (.int p4), .val (.int xx), .val (.int yy), .val (.int fr), .val (.int to), .val (.int md), .val (.int p4), .unset, .unset, .unset, .unset, .unset, .unset, .unset, .unset, .unset] [(.int md)])) _
            refine XS.iconst X5.here hx rfl (hb hby at_83) ?_
            show Steps p.tables e below (T5.setTop (mkF m 84 #[.val (.int p1), .val (.int p2), .val (.int p3), .val (.int p4), .val (.int xx), .val (.int yy), .val (.int fr), .val (.int to), .val (.int md), .val (.int p4), .unset, .unset, .unset, .unset, .unset, .unset, .unset, .unset, .unset] [(.int (2 : Int32)), (.int md)])) _
            refine XS.icmpYes X5.here hx rfl (pc0 := 84) (pc' := 96) rfl (hb hby at_84) rfl (feq (hmd2 : ¬ (md = (2 : Int32)))).2 (by decide) (by decide) ?_
            show Steps p.tables e below (T5.setTop (mkF m 96 #[.val (.int p1), .val (.int p2), .val (.int p3), .val (.int p4), .val (.int xx), .val (.int yy), .val (.int fr), .val (.int to), .val (.int md), .val (.int p4), .unset, .unset, .unset, .unset, .unset, .unset, .unset, .unset, .unset] [])) _
            refine XS.iload X5.here hx rfl (hb hby at_96) rfl ?_
            show Steps p.tables e below (T5.setTop (mkF m 98 #[.val (.int p1), .val (.int p2), .val (.int p3), .val (.int p4), .val (.int xx), .val (.int yy), .val (.int fr), .val (.int to), .val (.int md), .val (.int p4), .unset, .unset, .unset, .unset, .unset, .unset, .unset, .unset, .unset] [(.int md)])) _
            refine XS.iconst X5.here hx rfl (hb hby at_98) ?_
            show Steps p.tables e below (T5.setTop (mkF m 99 #[.val (.int p1), .val (.int p2), .val (.int p3), .val (.int p4), .val (.int xx), .val (.int yy), .val (.int fr), .val (.int to), .val (.int md), .val (.int p4), .unset, .unset, .unset, .unset, .unset, .unset, .unset, .unset, .unset] [(.int (3 : Int32)), (.int md)])) _
            refine XS.icmpYes X5.here hx rfl (pc0 := 99) (pc' := 109) rfl (hb hby at_99) rfl (feq (hmd3 : ¬ (md = (3 : Int32)))).2 (by decide) (by decide) ?_
            show Steps p.tables e below (T5.setTop (mkF m 109 #[.val (.int p1), .val (.int p2), .val (.int p3), .val (.int p4), .val (.int xx), .val (.int yy), .val (.int fr), .val (.int to), .val (.int md), .val (.int p4), .unset, .unset, .unset, .unset, .unset, .unset, .unset, .unset, .unset] [])) _
            refine XS.iload X5.here hx rfl (hb hby at_109) rfl ?_
            show Steps p.tables e below (T5.setTop (mkF m 111 #[.val (.int p1), .val (.int p2), .val (.int p3), .val (.int p4), .val (.int xx), .val (.int yy), .val (.int fr), .val (.int to), .val (.int md), .val (.int p4), .unset, .unset, .unset, .unset, .unset, .unset, .unset, .unset, .unset] [(.int md)])) _
            refine XS.iconst X5.here hx rfl (hb hby at_111) ?_
            show Steps p.tables e below (T5.setTop (mkF m 112 #[.val (.int p1), .val (.int p2), .val (.int p3), .val (.int p4), .val (.int xx), .val (.int yy), .val (.int fr), .val (.int to), .val (.int md), .val (.int p4), .unset, .unset, .unset, .unset, .unset, .unset, .unset, .unset, .unset] [(.int (4 : Int32)), (.int md)])) _
            refine XS.icmpNo X5.here hx rfl (hb hby at_112) rfl (teq (hmd4 : md = (4 : Int32))).2 ?_
            show Steps p.tables e below (T5.setTop (mkF m 115 #[.val (.int p1), .val (.int p2), .val (.int p3), .val (.int p4), .val (.int xx), .val (.int yy), .val (.int fr), .val (.int to), .val (.int md), .val (.int p4), .unset, .unset, .unset, .unset, .unset, .unset, .unset, .unset, .unset] [])) _
            refine XS.iload X5.here hx rfl (hb hby at_115) rfl ?_
            show Steps p.tables e below (T5.setTop (mkF m 117 #[.val (.int p1), .val (.int p2), .val (.int p3), .val (.int p4), .val (.int xx), .val (.int yy), .val (.int fr), .val (.int to), .val (.int md), .val (.int p4), .unset, .unset, .unset, .unset, .unset, .unset, .unset, .unset, .unset] [(.int to)])) _
            refine XS.iconst X5.here hx rfl (hb hby at_117) ?_
            show Steps p.tables e below (T5.setTop (mkF m 118 #[.val (.int p1), .val (.int p2), .val (.int p3), .val (.int p4), .val (.int xx), .val (.int yy), .val (.int fr), .val (.int to), .val (.int md), .val (.int p4), .unset, .unset, .unset, .unset, .unset, .unset, .unset, .unset, .unset] [(.int (1 : Int32)), (.int to)])) _
            refine XS.isub X5.here hx rfl (hb hby at_118) rfl ?_
            show Steps p.tables e below (T5.setTop (mkF m 119 #[.val (.int p1), .val (.int p2), .val (.int p3), .val (.int p4), .val (.int xx), .val (.int yy), .val (.int fr), .val (.int to), .val (.int md), .val (.int p4), .unset, .unset, .unset, .unset, .unset, .unset, .unset, .unset, .unset] [(.int (to - (1 : Int32)))])) _
            refine XS.istore X5.here hx rfl (hb hby at_119) rfl (l' := #[.val (.int p1), .val (.int p2), .val (.int p3), .val (.int p4), .val (.int xx), .val (.int yy), .val (.int fr), .val (.int to), .val (.int md), .val (.int (to - (1 : Int32))), .unset, .unset, .unset, .unset, .unset, .unset, .unset, .unset, .unset]) rfl ?_
            exact kt
          · refine ⟨p4, trivial, ?_⟩
            intro t kt
            show Steps p.tables e below (T5.setTop (mkF m 68 #[.val (.int p1), .val (.int p2), .val (.int p3), .val (.int p4), .val (.int xx), .val (.int yy), .val (.int fr), .val (.int to), .val (.int md), .val (.int p4), .unset, .unset, .unset, .unset, .unset, .unset, .unset, .unset, .unset] [])) _
            refine XS.iload X5.here hx rfl (hb hby at_68) rfl ?_
            show Steps p.tables e below (T5.setTop (mkF m 70 #[.val (.int p1), .val (.int p2), .val (.int p3), .val (.int p4), .val (.int xx), .val (.int yy), .val (.int fr), .val (.int to), .val (.int md), .val (.int p4), .unset, .unset, .unset, .unset, .unset, .unset, .unset, .unset, .unset] [(.int md)])) _
            refine XS.iconst X5.here hx rfl (hb hby at_70) ?_
            show Steps p.tables e below (T5.setTop (mkF m 71 #[.val (.int p1), .val (.int p2), .val (.int p3), .val (.int p4), .val (.int xx), .val (.int yy), .val (.int fr), .val (.int to), .val (.int md), .val (.int p4), .unset, .unset, .unset, .unset, .unset, .unset, .unset, .unset, .unset] [(.int (1 : Int32)), (.int md)])) _
            refine XS.icmpYes X5.here hx rfl (pc0 := 71) (pc' := 81) rfl (hb hby at_71) rfl (feq (hmd1 : ¬ (md = (1 : Int32)))).2 (by decide) (by decide) ?_
            show Steps p.tables e below (T5.setTop (mkF m 81 #[.val (.int p1), .val (.int p2), .val (.int p3), .val (.int p4), .val (.int xx), .val (.int yy), .val (.int fr), .val (.int to), .val (.int md), .val (.int p4), .unset, .unset, .unset, .unset, .unset, .unset, .unset, .unset, .unset] [])) _
            refine XS.iload X5.here hx rfl (hb hby at_81) rfl ?_
            show Steps p.tables e below (T5.setTop (mkF m 83 #[.val (.int p1), .val (.int p2), .val (.int p3), .val (.int p4), .val (.int xx), .val (.int yy), .val (.int fr), .val (.int to), .val (.int md), .val (.int p4), .unset, .unset, .unset, .unset, .unset, .unset, .unset, .unset, .unset] [(.int md)])) _
            refine XS.iconst X5.here hx rfl (hb hby at_83) ?_
            show Steps p.tables e below (T5.setTop (mkF m 84 #[.val (.int p1), .val (.int p2), .val (.int p3), .val (.int p4), .val (.int xx), .val (.int yy), .val (.int fr), .val (.int to), .val (.int md), .val (.int p4), .unset, .unset, .unset, .unset, .unset, .unset, .unset, .unset, .unset] [(.int (2 : Int32)), (.int md)])) _
            refine XS.icmpYes X5.here hx rfl (pc0 := 84) (pc' := 96) rfl (hb hby at_84) rfl (feq (hmd2 : ¬ (md = (2 : Int32)))).2 (by decide) (by decide) ?_
            show Steps p.tables e below (T5.setTop (mkF m 96 #[.val (.int p1), .val (.int p2), .val (.int p3), .val (.int p4), .val (.int xx), .val (.int yy), .val (.int fr), .val (.int to), .val (.int md), .val (.int p4), .unset, .unset, .unset, .unset, .unset, .unset, .unset, .unset, .unset] [])) _
            refine XS.iload X5.here hx rfl (hb hby at_96) rfl ?_
            show Steps p.tables e below (T5.setTop (mkF m 98 #[.val (.int p1), .val (.int p2), .val (.int p3), .val (.int p4), .val (.int xx), .val (.int yy), .val (.int fr), .val (.int to), .val (.int md), .val (.int p4), .unset, .unset, .unset, .unset, .unset, .unset, .unset, .unset, .unset] [(.int md)])) _
            refine XS.iconst X5.here hx rfl (hb hby at_98) ?_
            show Steps p.tables e below (T5.setTop (mkF m 99 #[.val (.int p1), .val (.int p2), .val (.int p3), .val (.int p4), .val (.int xx), .val (.int yy), .val (.int fr), .val (.int to), .val (.int md), .val (.int p4), .unset, .unset, .unset, .unset, .unset, .unset, .unset, .unset, .unset] [(.int (3 : Int32)), (.int md)])) _
            refine XS.icmpYes X5.here hx rfl (pc0 := 99) (pc' := 109) rfl (hb hby at_99) rfl (feq (hmd3 : ¬ (md = (3 : Int32)))).2 (by decide) (by decide) ?_
            show Steps p.tables e below (T5.setTop (mkF m 109 #[.val (.int p1), .val (.int p2), .val (.int p3), .val (.int p4), .val (.int xx), .val (.int yy), .val (.int fr), .val (.int to), .val (.int md), .val (.int p4), .unset, .unset, .unset, .unset, .unset, .unset, .unset, .unset, .unset] [])) _
            refine XS.iload X5.here hx rfl (hb hby at_109) rfl ?_
            show Steps p.tables e below (T5.setTop (mkF m 111 #[.val (.int p1), .val (.int p2), .val (.int p3), .val (.int p4), .val (.int xx), .val (.int yy), .val (.int fr), .val (.int to), .val (.int md), .val (.int p4), .unset, .unset, .unset, .unset, .unset, .unset, .unset, .unset, .unset] [(.int md)])) _
            refine XS.iconst X5.here hx rfl (hb hby at_111) ?_
            show Steps p.tables e below (T5.setTop (mkF m 112 #[.val (.int p1), .val (.int p2), .val (.int p3), .val (.int p4), .val (.int xx), .val (.int yy), .val (.int fr), .val (.int to), .val (.int md), .val (.int p4), .unset, .unset, .unset, .unset, .unset, .unset, .unset, .unset, .unset] [(.int (4 : Int32)), (.int md)])) _
            refine XS.icmpYes X5.here hx rfl (pc0 := 112) (pc' := 121) rfl (hb hby at_112) rfl (feq (hmd4 : ¬ (md = (4 : Int32)))).2 (by decide) (by decide) ?_
            exact kt
  refine GoW.adv sgB ?_
  show GoW p.tables e below s _ _ _ (T5.setTop (mkF m 121 #[.val (.int p1), .val (.int p2), .val (.int p3), .val (.int p4), .val (.int xx), .val (.int yy), .val (.int fr), .val (.int to), .val (.int md), .val (.int sec), .unset, .unset, .unset, .unset, .unset, .unset, .unset, .unset, .unset] []))
  obtain ⟨dc, hP, sgC⟩ : ∃ (dc : UInt64), (OwnCap dc 4607182418800017408) ∧ ∀ t, Steps p.tables e below (T5.setTop (mkF m 136 #[.val (.int p1), .val (.int p2), .val (.int p3), .val (.int p4), .val (.int xx), .val (.int yy), .val (.int fr), .val (.int to), .val (.int md), .val (.int sec), .val (.double dc), .second, .unset, .unset, .unset, .unset, .unset, .unset, .unset] [])) t → Steps p.tables e below (T5.setTop (mkF m 121 #[.val (.int p1), .val (.int p2), .val (.int p3), .val (.int p4), .val (.int xx), .val (.int yy), .val (.int fr), .val (.int to), .val (.int md), .val (.int sec), .unset, .unset, .unset, .unset, .unset, .unset, .unset, .unset, .unset] [])) t := by
    by_cases hbb : ((p3 >>> ((3 : Int32) &&& 31)) &&& (1 : Int32)) = (0 : Int32)
    · refine ⟨(0 : UInt64), own_cap0, ?_⟩
      intro t kt
      show Steps p.tables e below (T5.setTop (mkF m 121 #[.val (.int p1), .val (.int p2), .val (.int p3), .val (.int p4), .val (.int xx), .val (.int yy), .val (.int fr), .val (.int to), .val (.int md), .val (.int sec), .unset, .unset, .unset, .unset, .unset, .unset, .unset, .unset, .unset] [])) _
      refine XS.iloadN X5.here hx rfl (hb hby at_121) rfl ?_
      show Steps p.tables e below (T5.setTop (mkF m 122 #[.val (.int p1), .val (.int p2), .val (.int p3), .val (.int p4), .val (.int xx), .val (.int yy), .val (.int fr), .val (.int to), .val (.int md), .val (.int sec), .unset, .unset, .unset, .unset, .unset, .unset, .unset, .unset, .unset] [(.int p3)])) _
      refine XS.iconst X5.here hx rfl (hb hby at_122) ?_
      show Steps p.tables e below (T5.setTop (mkF m 123 #[.val (.int p1), .val (.int p2), .val (.int p3), .val (.int p4), .val (.int xx), .val (.int yy), .val (.int fr), .val (.int to), .val (.int md), .val (.int sec), .unset, .unset, .unset, .unset, .unset, .unset, .unset, .unset, .unset] [(.int (3 : Int32)), (.int p3)])) _
      refine XS.ishr X5.here hx rfl (hb hby at_123) rfl ?_
      show Steps p.tables e below (T5.setTop (mkF m 124 #[.val (.int p1), .val (.int p2), .val (.int p3), .val (.int p4), .val (.int xx), .val (.int yy), .val (.int fr), .val (.int to), .val (.int md), .val (.int sec), .unset, .unset, .unset, .unset, .unset, .unset, .unset, .unset, .unset] [(.int (p3 >>> ((3 : Int32) &&& 31)))])) _
      refine XS.iconst X5.here hx rfl (hb hby at_124) ?_
      show Steps p.tables e below (T5.setTop (mkF m 125 #[.val (.int p1), .val (.int p2), .val (.int p3), .val (.int p4), .val (.int xx), .val (.int yy), .val (.int fr), .val (.int to), .val (.int md), .val (.int sec), .unset, .unset, .unset, .unset, .unset, .unset, .unset, .unset, .unset] [(.int (1 : Int32)), (.int (p3 >>> ((3 : Int32) &&& 31)))])) _
      refine XS.iand X5.here hx rfl (hb hby at_125) rfl ?_
      show Steps p.tables e below (T5.setTop (mkF m 126 #[.val (.int p1), .val (.int p2), .val (.int p3), .val (.int p4), .val (.int xx), .val (.int yy), .val (.int fr), .val (.int to), .val (.int md), .val (.int sec), .unset, .unset, .unset, .unset, .unset, .unset, .unset, .unset, .unset] [(.int ((p3 >>> ((3 : Int32) &&& 31)) &&& (1 : Int32)))])) _
      refine XS.ifYes X5.here hx rfl (pc0 := 126) (pc' := 133) rfl (hb hby at_126) rfl ((if0 _ _).trans (teq (hbb : ((p3 >>> ((3 : Int32) &&& 31)) &&& (1 : Int32)) = (0 : Int32))).1) (by decide) (by decide) ?_
      show Steps p.tables e below (T5.setTop (mkF m 133 #[.val (.int p1), .val (.int p2), .val (.int p3), .val (.int p4), .val (.int xx), .val (.int yy), .val (.int fr), .val (.int to), .val (.int md), .val (.int sec), .unset, .unset, .unset, .unset, .unset, .unset, .unset, .unset, .unset] [])) _
      refine own_dconst0 X5.here hx rfl (hb hby at_133) ?_
      show Steps p.tables e below (T5.setTop (mkF m 134 #[.val (.int p1), .val (.int p2), .val (.int p3), .val (.int p4), .val (.int xx), .val (.int yy), .val (.int fr), .val (.int to), .val (.int md), .val (.int sec), .unset, .unset, .unset, .unset, .unset, .unset, .unset, .unset, .unset] [(.double (0 : UInt64))])) _
      refine own_dstore X5.here hx rfl (hb hby at_134) rfl (l' := #[.val (.int p1), .val (.int p2), .val (.int p3), .val (.int p4), .val (.int xx), .val (.int yy), .val (.int fr), .val (.int to), .val (.int md), .val (.int sec), .val (.double (0 : UInt64)), .second, .unset, .unset, .unset, .unset, .unset, .unset, .unset]) rfl ?_
      exact kt
    · refine ⟨(4607182418800017408 : UInt64), own_cap1, ?_⟩
      intro t kt
      show Steps p.tables e below (T5.setTop (mkF m 121 #[.val (.int p1), .val (.int p2), .val (.int p3), .val (.int p4), .val (.int xx), .val (.int yy), .val (.int fr), .val (.int to), .val (.int md), .val (.int sec), .unset, .unset, .unset, .unset, .unset, .unset, .unset, .unset, .unset] [])) _
      refine XS.iloadN X5.here hx rfl (hb hby at_121) rfl ?_
      show Steps p.tables e below (T5.setTop (mkF m 122 #[.val (.int p1), .val (.int p2), .val (.int p3), .val (.int p4), .val (.int xx), .val (.int yy), .val (.int fr), .val (.int to), .val (.int md), .val (.int sec), .unset, .unset, .unset, .unset, .unset, .unset, .unset, .unset, .unset] [(.int p3)])) _
      refine XS.iconst X5.here hx rfl (hb hby at_122) ?_
      show Steps p.tables e below (T5.setTop (mkF m 123 #[.val (.int p1), .val (.int p2), .val (.int p3), .val (.int p4), .val (.int xx), .val (.int yy), .val (.int fr), .val (.int to), .val (.int md), .val (.int sec), .unset, .unset, .unset, .unset, .unset, .unset, .unset, .unset, .unset] [(.int (3 : Int32)), (.int p3)])) _
      refine XS.ishr X5.here hx rfl (hb hby at_123) rfl ?_
      show Steps p.tables e below (T5.setTop (mkF m 124 #[.val (.int p1), .val (.int p2), .val (.int p3), .val (.int p4), .val (.int xx), .val (.int yy), .val (.int fr), .val (.int to), .val (.int md), .val (.int sec), .unset, .unset, .unset, .unset, .unset, .unset, .unset, .unset, .unset] [(.int (p3 >>> ((3 : Int32) &&& 31)))])) _
      refine XS.iconst X5.here hx rfl (hb hby at_124) ?_
      show Steps p.tables e below (T5.setTop (mkF m 125 #[.val (.int p1), .val (.int p2), .val (.int p3), .val (.int p4), .val (.int xx), .val (.int yy), .val (.int fr), .val (.int to), .val (.int md), .val (.int sec), .unset, .unset, .unset, .unset, .unset, .unset, .unset, .unset, .unset] [(.int (1 : Int32)), (.int (p3 >>> ((3 : Int32) &&& 31)))])) _
      refine XS.iand X5.here hx rfl (hb hby at_125) rfl ?_
      show Steps p.tables e below (T5.setTop (mkF m 126 #[.val (.int p1), .val (.int p2), .val (.int p3), .val (.int p4), .val (.int xx), .val (.int yy), .val (.int fr), .val (.int to), .val (.int md), .val (.int sec), .unset, .unset, .unset, .unset, .unset, .unset, .unset, .unset, .unset] [(.int ((p3 >>> ((3 : Int32) &&& 31)) &&& (1 : Int32)))])) _
      refine XS.ifNo X5.here hx rfl (hb hby at_126) rfl ((if0 _ _).trans (feq (hbb : ¬ (((p3 >>> ((3 : Int32) &&& 31)) &&& (1 : Int32)) = (0 : Int32)))).1) ?_
      show Steps p.tables e below (T5.setTop (mkF m 129 #[.val (.int p1), .val (.int p2), .val (.int p3), .val (.int p4), .val (.int xx), .val (.int yy), .val (.int fr), .val (.int to), .val (.int md), .val (.int sec), .unset, .unset, .unset, .unset, .unset, .unset, .unset, .unset, .unset] [])) _
      refine own_dconst1 X5.here hx rfl (hb hby at_129) ?_
      show Steps p.tables e below (T5.setTop (mkF m 130 #[.val (.int p1), .val (.int p2), .val (.int p3), .val (.int p4), .val (.int xx), .val (.int yy), .val (.int fr), .val (.int to), .val (.int md), .val (.int sec), .unset, .unset, .unset, .unset, .unset, .unset, .unset, .unset, .unset] [(.double (4607182418800017408 : UInt64))])) _
      refine XS.goto X5.here hx rfl (pc0 := 130) (pc' := 134) rfl (hb hby at_130) (by decide) (by decide) ?_
      show Steps p.tables e below (T5.setTop (mkF m 134 #[.val (.int p1), .val (.int p2), .val (.int p3), .val (.int p4), .val (.int xx), .val (.int yy), .val (.int fr), .val (.int to), .val (.int md), .val (.int sec), .unset, .unset, .unset, .unset, .unset, .unset, .unset, .unset, .unset] [(.double (4607182418800017408 : UInt64))])) _
      refine own_dstore X5.here hx rfl (hb hby at_134) rfl (l' := #[.val (.int p1), .val (.int p2), .val (.int p3), .val (.int p4), .val (.int xx), .val (.int yy), .val (.int fr), .val (.int to), .val (.int md), .val (.int sec), .val (.double (4607182418800017408 : UInt64)), .second, .unset, .unset, .unset, .unset, .unset, .unset, .unset]) rfl ?_
      exact kt
  refine GoW.adv sgC ?_
  show GoW p.tables e below s _ _ _ (T5.setTop (mkF m 136 #[.val (.int p1), .val (.int p2), .val (.int p3), .val (.int p4), .val (.int xx), .val (.int yy), .val (.int fr), .val (.int to), .val (.int md), .val (.int sec), .val (.double dc), .second, .unset, .unset, .unset, .unset, .unset, .unset, .unset] []))
  have hT : ¬ (fr < (0 : Int32)) ∧ fr < to := ⟨fun q => by rw [Int32.lt_iff_toInt_lt] at q; have z : (0 : Int32).toInt = 0 := rfl; omega, Int32.lt_iff_toInt_lt.mpr hft⟩
  obtain ⟨T18, h18, X18, e18, E18, A18, D18, -, st18⟩ := newO X5 hx hZ hown (hw _ (List.mem_of_getElem? (i := 8) rfl)) (hw _ (List.mem_of_getElem? (i := 9) rfl)) (hw _ (List.mem_of_getElem? (i := 10) rfl)) e5 (g := (mkF m 136 #[.val (.int p1), .val (.int p2), .val (.int p3), .val (.int p4), .val (.int xx), .val (.int yy), .val (.int fr), .val (.int to), .val (.int md), .val (.int sec), .val (.double dc), .second, .unset, .unset, .unset, .unset, .unset, .unset, .unset] [])) rfl (hb hby at_136) (by decide) (by decide)
  obtain ⟨b18, gb18⟩ : ∃ z, z = h0.size := ⟨_, rfl⟩
  rw [← gb18] at A18 D18 st18
  have g_b18 : n0 ≤ b18 := Nat.le_trans Z0 (Nat.le_of_eq gb18.symm)
  have sz_b18 : h0.size ≤ b18 := Nat.le_trans (Keep.refl h0 []).1 (Nat.le_of_eq gb18.symm)
  have K18 : Keep h0 h18 [] := (Keep.refl h0 []).ext E18
  have Z18 : n0 ≤ h18.size := Nat.le_trans Z0 E18.1
  have hk18 := Nat.le_trans hk0 E18.1
  have F_index_b18 : Fld Z h18 b18 "com/example/nudged_routes/nudgedroutes/network/Link" "index" "I" (.int (0 : Int32)) := D18 (Or.inr (hw _ (List.mem_of_getElem? (i := 26) rfl))) (ty := .int) (by decide)
  have F_id_b18 : Fld Z h18 b18 "com/example/nudged_routes/nudgedroutes/network/Link" "id" "Ljava/lang/String;" .null := D18 (Or.inr (hw _ (List.mem_of_getElem? (i := 28) rfl))) (ty := (.object "java/lang/String")) (by decide)
  have F_from_b18 : Fld Z h18 b18 "com/example/nudged_routes/nudgedroutes/network/Link" "from" "Lcom/example/nudged_routes/nudgedroutes/network/Node;" .null := D18 (Or.inr (hw _ (List.mem_of_getElem? (i := 30) rfl))) (ty := (.object "com/example/nudged_routes/nudgedroutes/network/Node")) (by decide)
  have F_to_b18 : Fld Z h18 b18 "com/example/nudged_routes/nudgedroutes/network/Link" "to" "Lcom/example/nudged_routes/nudgedroutes/network/Node;" .null := D18 (Or.inr (hw _ (List.mem_of_getElem? (i := 32) rfl))) (ty := (.object "com/example/nudged_routes/nudgedroutes/network/Node")) (by decide)
  have F_capacityVph_b18 : Fld Z h18 b18 "com/example/nudged_routes/nudgedroutes/network/Link" "capacityVph" "D" (.double (0 : UInt64)) := D18 (Or.inr (hw _ (List.mem_of_getElem? (i := 34) rfl))) (ty := .double) (by decide)
  have F_lengthM_b18 : Fld Z h18 b18 "com/example/nudged_routes/nudgedroutes/network/Link" "lengthM" "D" (.double (0 : UInt64)) := D18 (Or.inr (hw _ (List.mem_of_getElem? (i := 36) rfl))) (ty := .double) (by decide)
  have F_freeFlowTimeS_b18 : Fld Z h18 b18 "com/example/nudged_routes/nudgedroutes/network/Link" "freeFlowTimeS" "D" (.double (0 : UInt64)) := D18 (Or.inr (hw _ (List.mem_of_getElem? (i := 38) rfl))) (ty := .double) (by decide)
  have F_lanes_b18 : Fld Z h18 b18 "com/example/nudged_routes/nudgedroutes/network/Link" "lanes" "I" (.int (0 : Int32)) := D18 (Or.inr (hw _ (List.mem_of_getElem? (i := 40) rfl))) (ty := .int) (by decide)
  refine GoW.adv st18 ?_
  show GoW p.tables e below s _ _ _ (T18.setTop (mkF m 139 #[.val (.int p1), .val (.int p2), .val (.int p3), .val (.int p4), .val (.int xx), .val (.int yy), .val (.int fr), .val (.int to), .val (.int md), .val (.int sec), .val (.double dc), .second, .unset, .unset, .unset, .unset, .unset, .unset, .unset] [(.ref b18)]))
  have sg19 : ∀ t, Steps p.tables e below (T18.setTop (mkF m 141 #[.val (.int p1), .val (.int p2), .val (.int p3), .val (.int p4), .val (.int xx), .val (.int yy), .val (.int fr), .val (.int to), .val (.int md), .val (.int sec), .val (.double dc), .second, .unset, .unset, .unset, .unset, .unset, .unset, .unset] [(.int (0 : Int32)), (.ref b18), (.ref b18)])) t → Steps p.tables e below (T18.setTop (mkF m 139 #[.val (.int p1), .val (.int p2), .val (.int p3), .val (.int p4), .val (.int xx), .val (.int yy), .val (.int fr), .val (.int to), .val (.int md), .val (.int sec), .val (.double dc), .second, .unset, .unset, .unset, .unset, .unset, .unset, .unset] [(.ref b18)])) t := by
    intro t kt
    show Steps p.tables e below (T18.setTop (mkF m 139 #[.val (.int p1), .val (.int p2), .val (.int p3), .val (.int p4), .val (.int xx), .val (.int yy), .val (.int fr), .val (.int to), .val (.int md), .val (.int sec), .val (.double dc), .second, .unset, .unset, .unset, .unset, .unset, .unset, .unset] [(.ref b18)])) _
    refine XS.dup X18.here hx rfl (hb hby at_139) rfl rfl ?_
    show Steps p.tables e below (T18.setTop (mkF m 140 #[.val (.int p1), .val (.int p2), .val (.int p3), .val (.int p4), .val (.int xx), .val (.int yy), .val (.int fr), .val (.int to), .val (.int md), .val (.int sec), .val (.double dc), .second, .unset, .unset, .unset, .unset, .unset, .unset, .unset] [(.ref b18), (.ref b18)])) _
    refine XS.iconst X18.here hx rfl (hb hby at_140) ?_
    exact kt
  refine GoW.adv sg19 ?_
  obtain ⟨b20, T20, h20, k20, X20, e20, E20, hS20, hk20, hZ20, hown20, st20⟩ := ldcS X18 hx hZ hown (hw _ (List.mem_of_getElem? (i := 11) rfl)) (own_wS hw) e18 hS0 hk18 (g := (mkF m 141 #[.val (.int p1), .val (.int p2), .val (.int p3), .val (.int p4), .val (.int xx), .val (.int yy), .val (.int fr), .val (.int to), .val (.int md), .val (.int sec), .val (.double dc), .second, .unset, .unset, .unset, .unset, .unset, .unset, .unset] [(.int (0 : Int32)), (.ref b18), (.ref b18)])) rfl (hb hby at_141) (n := 4) (by decide) (by decide) (by decide) (by decide)
  have K20 : Keep h0 h20 [] := K18.ext E20
  have Z20 : n0 ≤ h20.size := Nat.le_trans Z18 E20.1
  refine GoW.adv st20 ?_
  show GoW p.tables e below s _ _ _ (T20.setTop (mkF m 143 #[.val (.int p1), .val (.int p2), .val (.int p3), .val (.int p4), .val (.int xx), .val (.int yy), .val (.int fr), .val (.int to), .val (.int md), .val (.int sec), .val (.double dc), .second, .unset, .unset, .unset, .unset, .unset, .unset, .unset] [(.ref b20), (.int (0 : Int32)), (.ref b18), (.ref b18)]))
  have sg21 : ∀ t, Steps p.tables e below (T20.setTop (mkF m 149 #[.val (.int p1), .val (.int p2), .val (.int p3), .val (.int p4), .val (.int xx), .val (.int yy), .val (.int fr), .val (.int to), .val (.int md), .val (.int sec), .val (.double dc), .second, .unset, .unset, .unset, .unset, .unset, .unset, .unset] [(.int (1 : Int32)), (.double (0 : UInt64)), (.double (0 : UInt64)), (.double (4607182418800017408 : UInt64)), .null, .null, (.ref b20), (.int (0 : Int32)), (.ref b18), (.ref b18)])) t → Steps p.tables e below (T20.setTop (mkF m 143 #[.val (.int p1), .val (.int p2), .val (.int p3), .val (.int p4), .val (.int xx), .val (.int yy), .val (.int fr), .val (.int to), .val (.int md), .val (.int sec), .val (.double dc), .second, .unset, .unset, .unset, .unset, .unset, .unset, .unset] [(.ref b20), (.int (0 : Int32)), (.ref b18), (.ref b18)])) t := by
    intro t kt
    show Steps p.tables e below (T20.setTop (mkF m 143 #[.val (.int p1), .val (.int p2), .val (.int p3), .val (.int p4), .val (.int xx), .val (.int yy), .val (.int fr), .val (.int to), .val (.int md), .val (.int sec), .val (.double dc), .second, .unset, .unset, .unset, .unset, .unset, .unset, .unset] [(.ref b20), (.int (0 : Int32)), (.ref b18), (.ref b18)])) _
    refine XS.aconstNull X20.here hx rfl (hb hby at_143) ?_
    show Steps p.tables e below (T20.setTop (mkF m 144 #[.val (.int p1), .val (.int p2), .val (.int p3), .val (.int p4), .val (.int xx), .val (.int yy), .val (.int fr), .val (.int to), .val (.int md), .val (.int sec), .val (.double dc), .second, .unset, .unset, .unset, .unset, .unset, .unset, .unset] [.null, (.ref b20), (.int (0 : Int32)), (.ref b18), (.ref b18)])) _
    refine XS.aconstNull X20.here hx rfl (hb hby at_144) ?_
    show Steps p.tables e below (T20.setTop (mkF m 145 #[.val (.int p1), .val (.int p2), .val (.int p3), .val (.int p4), .val (.int xx), .val (.int yy), .val (.int fr), .val (.int to), .val (.int md), .val (.int sec), .val (.double dc), .second, .unset, .unset, .unset, .unset, .unset, .unset, .unset] [.null, .null, (.ref b20), (.int (0 : Int32)), (.ref b18), (.ref b18)])) _
    refine own_dconst1 X20.here hx rfl (hb hby at_145) ?_
    show Steps p.tables e below (T20.setTop (mkF m 146 #[.val (.int p1), .val (.int p2), .val (.int p3), .val (.int p4), .val (.int xx), .val (.int yy), .val (.int fr), .val (.int to), .val (.int md), .val (.int sec), .val (.double dc), .second, .unset, .unset, .unset, .unset, .unset, .unset, .unset] [(.double (4607182418800017408 : UInt64)), .null, .null, (.ref b20), (.int (0 : Int32)), (.ref b18), (.ref b18)])) _
    refine own_dconst0 X20.here hx rfl (hb hby at_146) ?_
    show Steps p.tables e below (T20.setTop (mkF m 147 #[.val (.int p1), .val (.int p2), .val (.int p3), .val (.int p4), .val (.int xx), .val (.int yy), .val (.int fr), .val (.int to), .val (.int md), .val (.int sec), .val (.double dc), .second, .unset, .unset, .unset, .unset, .unset, .unset, .unset] [(.double (0 : UInt64)), (.double (4607182418800017408 : UInt64)), .null, .null, (.ref b20), (.int (0 : Int32)), (.ref b18), (.ref b18)])) _
    refine own_dconst0 X20.here hx rfl (hb hby at_147) ?_
    show Steps p.tables e below (T20.setTop (mkF m 148 #[.val (.int p1), .val (.int p2), .val (.int p3), .val (.int p4), .val (.int xx), .val (.int yy), .val (.int fr), .val (.int to), .val (.int md), .val (.int sec), .val (.double dc), .second, .unset, .unset, .unset, .unset, .unset, .unset, .unset] [(.double (0 : UInt64)), (.double (0 : UInt64)), (.double (4607182418800017408 : UInt64)), .null, .null, (.ref b20), (.int (0 : Int32)), (.ref b18), (.ref b18)])) _
    refine XS.iconst X20.here hx rfl (hb hby at_148) ?_
    exact kt
  refine GoW.adv sg21 ?_
  have f22 := (A18.ext E20)
  have f23 := (F_index_b18.ext E20)
  have f24 := (F_id_b18.ext E20)
  have f25 := (F_from_b18.ext E20)
  have f26 := (F_to_b18.ext E20)
  have f27 := (F_capacityVph_b18.ext E20)
  have f28 := (F_lengthM_b18.ext E20)
  have f29 := (F_freeFlowTimeS_b18.ext E20)
  have f30 := (F_lanes_b18.ext E20)
  obtain ⟨_, _, ⟨T31, L31, k31, n31⟩, -, X31, ⟨Lc31, hQ31, l31, y31, z31⟩, st31⟩ := X20.specialBack hx (y := (⟨"com/example/nudged_routes/nudgedroutes/network/Link", "<init>", "(ILjava/lang/String;Lcom/example/nudged_routes/nudgedroutes/network/Node;Lcom/example/nudged_routes/nudgedroutes/network/Node;DDDI)V"⟩ : MethodName)) rfl hown20 (mvT hZ20 (hw _ (List.mem_of_getElem? (i := 19) rfl))) (mvT hZ20 (hw _ (List.mem_of_getElem? (i := 20) rfl))) (mvT hZ20 (hw _ (List.mem_of_getElem? (i := 21) rfl))) (by decide) (backOf (W := 1) (rm_link l Z a0 hw [] b18 (0 : Int32) b20 (4607182418800017408 : UInt64) (0 : UInt64) (0 : UInt64) (1 : Int32) (.int (0 : Int32)) (.null) (.null) (.null) (.double (0 : UInt64)) (.double (0 : UInt64)) (.double (0 : UInt64)) (.int (0 : Int32)) h20 n0 Z20 f22 g_b18 f23 f24 f25 f26 f27 f28 f29 f30 own_link) hZ20 (hw _ (List.mem_of_getElem? (i := 21) rfl)) (hw _ (List.mem_of_getElem? (i := 10) rfl)) (by decide) (by decide)) (g := (mkF m 149 #[.val (.int p1), .val (.int p2), .val (.int p3), .val (.int p4), .val (.int xx), .val (.int yy), .val (.int fr), .val (.int to), .val (.int md), .val (.int sec), .val (.double dc), .second, .unset, .unset, .unset, .unset, .unset, .unset, .unset] [(.int (1 : Int32)), (.double (0 : UInt64)), (.double (0 : UInt64)), (.double (4607182418800017408 : UInt64)), .null, .null, (.ref b20), (.int (0 : Int32)), (.ref b18), (.ref b18)])) rfl (by rw [hml]; rfl) (Steps.refl _) (a := b18) (argsL := [(.int (0 : Int32)), (.ref b20), .null, .null, (.double (4607182418800017408 : UInt64)), (.double (0 : UInt64)), (.double (0 : UInt64)), (.int (1 : Int32))]) (rest := [(.ref b18)]) (lenOf pd_oILjavaslangsStringeLcomsexamplesnudged_routessnudgedroutessnetworksNodeeLcomsexamplesnudged_routessnudgedroutessnetworksNodeeDDDIcV rfl) rfl (by show 2 * 0 + _ ≤ _; exact Nat.le_of_eq rfl) (hb hby at_149) (fun _ _ => ⟨rfl, e20, (by decide : 3 + 0 ≤ _), (by decide : 16 + 0 ≤ _)⟩)
  dsimp only [Pt.U, Pt.locs, Pt.cells, Pt.slots] at X31 l31 y31 z31 st31 hQ31
  subst l31 y31 z31
  obtain ⟨rfl, N31q, Kc31, p31_0, p31_1, p31_2, p31_3, p31_4, p31_5, p31_6, p31_7, p31_8⟩ := hQ31
  have N31 := Fr.app N5 N31q
  have K31 : Keep h0 T31.heap [] := K20.trans Kc31 (allS (Or.inr sz_b18) all0)
  have Z31 : n0 ≤ T31.heap.size := Nat.le_trans Z20 Kc31.1
  have hk31 := Nat.le_trans hk20 Kc31.1
  refine GoW.tr st31 ?_
  show GoW p.tables e below s _ _ _ (T31.setTop (mkF m 152 #[.val (.int p1), .val (.int p2), .val (.int p3), .val (.int p4), .val (.int xx), .val (.int yy), .val (.int fr), .val (.int to), .val (.int md), .val (.int sec), .val (.double dc), .second, .unset, .unset, .unset, .unset, .unset, .unset, .unset] [(.ref b18)]))
  have sg32 : ∀ t, Steps p.tables e below (T31.setTop (mkF m 154 #[.val (.int p1), .val (.int p2), .val (.int p3), .val (.int p4), .val (.int xx), .val (.int yy), .val (.int fr), .val (.int to), .val (.int md), .val (.int sec), .val (.double dc), .second, .val (.ref b18), .unset, .unset, .unset, .unset, .unset, .unset] [])) t → Steps p.tables e below (T31.setTop (mkF m 152 #[.val (.int p1), .val (.int p2), .val (.int p3), .val (.int p4), .val (.int xx), .val (.int yy), .val (.int fr), .val (.int to), .val (.int md), .val (.int sec), .val (.double dc), .second, .unset, .unset, .unset, .unset, .unset, .unset, .unset] [(.ref b18)])) t := by
    intro t kt
    show Steps p.tables e below (T31.setTop (mkF m 152 #[.val (.int p1), .val (.int p2), .val (.int p3), .val (.int p4), .val (.int xx), .val (.int yy), .val (.int fr), .val (.int to), .val (.int md), .val (.int sec), .val (.double dc), .second, .unset, .unset, .unset, .unset, .unset, .unset, .unset] [(.ref b18)])) _
    refine XS.astore X31.here hx rfl (hb hby at_152) rfl rfl (l' := #[.val (.int p1), .val (.int p2), .val (.int p3), .val (.int p4), .val (.int xx), .val (.int yy), .val (.int fr), .val (.int to), .val (.int md), .val (.int sec), .val (.double dc), .second, .val (.ref b18), .unset, .unset, .unset, .unset, .unset, .unset]) rfl ?_
    exact kt
  refine GoW.adv sg32 ?_
  obtain ⟨T33, h33, X33, e33, E33, A33, D33, -, st33⟩ := newO X31 hx hZ20 hown20 (hw _ (List.mem_of_getElem? (i := 41) rfl)) (hw _ (List.mem_of_getElem? (i := 42) rfl)) (hw _ (List.mem_of_getElem? (i := 43) rfl)) rfl (g := (mkF m 154 #[.val (.int p1), .val (.int p2), .val (.int p3), .val (.int p4), .val (.int xx), .val (.int yy), .val (.int fr), .val (.int to), .val (.int md), .val (.int sec), .val (.double dc), .second, .val (.ref b18), .unset, .unset, .unset, .unset, .unset, .unset] [])) rfl (hb hby at_154) (by decide) (by decide)
  obtain ⟨b33, gb33⟩ : ∃ z, z = T31.heap.size := ⟨_, rfl⟩
  rw [← gb33] at A33 D33 st33
  have g_b33 : n0 ≤ b33 := Nat.le_trans Z31 (Nat.le_of_eq gb33.symm)
  have sz_b33 : h0.size ≤ b33 := Nat.le_trans K31.1 (Nat.le_of_eq gb33.symm)
  have ne_b18_b33 : b18 ≠ b33 := Nat.ne_of_lt (Nat.lt_of_lt_of_le p31_0.lt (Nat.le_of_eq gb33.symm))
  have K33 : Keep h0 h33 [] := K31.ext E33
  have Z33 : n0 ≤ h33.size := Nat.le_trans Z31 E33.1
  have hk33 := Nat.le_trans hk31 E33.1
  have F_link_b33 : Fld Z h33 b33 "com/example/nudged_routes/nudgedroutes/network/Incident" "link" "Lcom/example/nudged_routes/nudgedroutes/network/Link;" .null := D33 (Or.inr (hw _ (List.mem_of_getElem? (i := 54) rfl))) (ty := (.object "com/example/nudged_routes/nudgedroutes/network/Link")) (by decide)
  have F_fromS_b33 : Fld Z h33 b33 "com/example/nudged_routes/nudgedroutes/network/Incident" "fromS" "I" (.int (0 : Int32)) := D33 (Or.inr (hw _ (List.mem_of_getElem? (i := 56) rfl))) (ty := .int) (by decide)
  have F_toS_b33 : Fld Z h33 b33 "com/example/nudged_routes/nudgedroutes/network/Incident" "toS" "I" (.int (0 : Int32)) := D33 (Or.inr (hw _ (List.mem_of_getElem? (i := 58) rfl))) (ty := .int) (by decide)
  have F_capacityVph_b33 : Fld Z h33 b33 "com/example/nudged_routes/nudgedroutes/network/Incident" "capacityVph" "D" (.double (0 : UInt64)) := D33 (Or.inr (hw _ (List.mem_of_getElem? (i := 60) rfl))) (ty := .double) (by decide)
  refine GoW.adv st33 ?_
  show GoW p.tables e below s _ _ _ (T33.setTop (mkF m 157 #[.val (.int p1), .val (.int p2), .val (.int p3), .val (.int p4), .val (.int xx), .val (.int yy), .val (.int fr), .val (.int to), .val (.int md), .val (.int sec), .val (.double dc), .second, .val (.ref b18), .unset, .unset, .unset, .unset, .unset, .unset] [(.ref b33)]))
  have sg34 : ∀ t, Steps p.tables e below (T33.setTop (mkF m 166 #[.val (.int p1), .val (.int p2), .val (.int p3), .val (.int p4), .val (.int xx), .val (.int yy), .val (.int fr), .val (.int to), .val (.int md), .val (.int sec), .val (.double dc), .second, .val (.ref b18), .unset, .unset, .unset, .unset, .unset, .unset] [(.double dc), (.int to), (.int fr), (.ref b18), (.ref b33), (.ref b33)])) t → Steps p.tables e below (T33.setTop (mkF m 157 #[.val (.int p1), .val (.int p2), .val (.int p3), .val (.int p4), .val (.int xx), .val (.int yy), .val (.int fr), .val (.int to), .val (.int md), .val (.int sec), .val (.double dc), .second, .val (.ref b18), .unset, .unset, .unset, .unset, .unset, .unset] [(.ref b33)])) t := by
    intro t kt
    show Steps p.tables e below (T33.setTop (mkF m 157 #[.val (.int p1), .val (.int p2), .val (.int p3), .val (.int p4), .val (.int xx), .val (.int yy), .val (.int fr), .val (.int to), .val (.int md), .val (.int sec), .val (.double dc), .second, .val (.ref b18), .unset, .unset, .unset, .unset, .unset, .unset] [(.ref b33)])) _
    refine XS.dup X33.here hx rfl (hb hby at_157) rfl rfl ?_
    show Steps p.tables e below (T33.setTop (mkF m 158 #[.val (.int p1), .val (.int p2), .val (.int p3), .val (.int p4), .val (.int xx), .val (.int yy), .val (.int fr), .val (.int to), .val (.int md), .val (.int sec), .val (.double dc), .second, .val (.ref b18), .unset, .unset, .unset, .unset, .unset, .unset] [(.ref b33), (.ref b33)])) _
    refine XS.aload X33.here hx rfl (hb hby at_158) rfl rfl ?_
    show Steps p.tables e below (T33.setTop (mkF m 160 #[.val (.int p1), .val (.int p2), .val (.int p3), .val (.int p4), .val (.int xx), .val (.int yy), .val (.int fr), .val (.int to), .val (.int md), .val (.int sec), .val (.double dc), .second, .val (.ref b18), .unset, .unset, .unset, .unset, .unset, .unset] [(.ref b18), (.ref b33), (.ref b33)])) _
    refine XS.iload X33.here hx rfl (hb hby at_160) rfl ?_
    show Steps p.tables e below (T33.setTop (mkF m 162 #[.val (.int p1), .val (.int p2), .val (.int p3), .val (.int p4), .val (.int xx), .val (.int yy), .val (.int fr), .val (.int to), .val (.int md), .val (.int sec), .val (.double dc), .second, .val (.ref b18), .unset, .unset, .unset, .unset, .unset, .unset] [(.int fr), (.ref b18), (.ref b33), (.ref b33)])) _
    refine XS.iload X33.here hx rfl (hb hby at_162) rfl ?_
    show Steps p.tables e below (T33.setTop (mkF m 164 #[.val (.int p1), .val (.int p2), .val (.int p3), .val (.int p4), .val (.int xx), .val (.int yy), .val (.int fr), .val (.int to), .val (.int md), .val (.int sec), .val (.double dc), .second, .val (.ref b18), .unset, .unset, .unset, .unset, .unset, .unset] [(.int to), (.int fr), (.ref b18), (.ref b33), (.ref b33)])) _
    refine own_dload X33.here hx rfl (hb hby at_164) rfl ?_
    exact kt
  refine GoW.adv sg34 ?_
  have f35 := (p31_0.ext E33)
  have f36 := (p31_5.ext E33)
  obtain ⟨_, _, ⟨T37, L37, k37, n37⟩, -, X37, ⟨Lc37, hQ37, l37, y37, z37⟩, st37⟩ := X33.specialBack hx (y := (⟨"com/example/nudged_routes/nudgedroutes/network/Incident", "<init>", "(Lcom/example/nudged_routes/nudgedroutes/network/Link;IID)V"⟩ : MethodName)) rfl hown20 (mvT hZ20 (hw _ (List.mem_of_getElem? (i := 44) rfl))) (mvT hZ20 (hw _ (List.mem_of_getElem? (i := 45) rfl))) (mvT hZ20 (hw _ (List.mem_of_getElem? (i := 46) rfl))) (by decide) (backOf (W := 1) (rm_inc l Z a0 hw [] b33 b18 fr to dc (.null) (.int (0 : Int32)) (.int (0 : Int32)) (.double (0 : UInt64)) (4607182418800017408 : UInt64) h33 n0 Z33 A33 g_b33 F_link_b33 F_fromS_b33 F_toS_b33 F_capacityVph_b33 f35 f36 hT hP) hZ20 (hw _ (List.mem_of_getElem? (i := 46) rfl)) (hw _ (List.mem_of_getElem? (i := 43) rfl)) (by decide) (by decide)) (g := (mkF m 166 #[.val (.int p1), .val (.int p2), .val (.int p3), .val (.int p4), .val (.int xx), .val (.int yy), .val (.int fr), .val (.int to), .val (.int md), .val (.int sec), .val (.double dc), .second, .val (.ref b18), .unset, .unset, .unset, .unset, .unset, .unset] [(.double dc), (.int to), (.int fr), (.ref b18), (.ref b33), (.ref b33)])) rfl (by rw [hml]; rfl) (Steps.refl _) (a := b33) (argsL := [(.ref b18), (.int fr), (.int to), (.double dc)]) (rest := [(.ref b33)]) (lenOf pd_oLcomsexamplesnudged_routessnudgedroutessnetworksLinkeIIDcV rfl) rfl (by show 2 * 0 + _ ≤ _; exact Nat.le_of_eq rfl) (hb hby at_166) (fun _ _ => ⟨rfl, e33, (by decide : 4 + 0 ≤ _), (by decide : 20 + 0 ≤ _)⟩)
  dsimp only [Pt.U, Pt.locs, Pt.cells, Pt.slots] at X37 l37 y37 z37 st37 hQ37
  subst l37 y37 z37
  obtain ⟨rfl, N37q, Kc37, p37_0, p37_1, p37_2, p37_3, p37_4⟩ := hQ37
  have N37 := Fr.app N31 N37q
  have K37 : Keep h0 T37.heap [] := K33.trans Kc37 (allS (Or.inr sz_b33) all0)
  have Z37 : n0 ≤ T37.heap.size := Nat.le_trans Z33 Kc37.1
  have hk37 := Nat.le_trans hk33 Kc37.1
  refine GoW.tr st37 ?_
  show GoW p.tables e below s _ _ _ (T37.setTop (mkF m 169 #[.val (.int p1), .val (.int p2), .val (.int p3), .val (.int p4), .val (.int xx), .val (.int yy), .val (.int fr), .val (.int to), .val (.int md), .val (.int sec), .val (.double dc), .second, .val (.ref b18), .unset, .unset, .unset, .unset, .unset, .unset] [(.ref b33)]))
  have sg38 : ∀ t, Steps p.tables e below (T37.setTop (mkF m 189 #[.val (.int p1), .val (.int p2), .val (.int p3), .val (.int p4), .val (.int xx), .val (.int yy), .val (.int fr), .val (.int to), .val (.int md), .val (.int sec), .val (.double dc), .second, .val (.ref b18), .val (.ref b33), .val (.long ((sec.toInt64) - (fr.toInt64))), .second, .val (.long ((to.toInt64) - (fr.toInt64))), .second, .unset] [])) t → Steps p.tables e below (T37.setTop (mkF m 169 #[.val (.int p1), .val (.int p2), .val (.int p3), .val (.int p4), .val (.int xx), .val (.int yy), .val (.int fr), .val (.int to), .val (.int md), .val (.int sec), .val (.double dc), .second, .val (.ref b18), .unset, .unset, .unset, .unset, .unset, .unset] [(.ref b33)])) t := by
    intro t kt
    show Steps p.tables e below (T37.setTop (mkF m 169 #[.val (.int p1), .val (.int p2), .val (.int p3), .val (.int p4), .val (.int xx), .val (.int yy), .val (.int fr), .val (.int to), .val (.int md), .val (.int sec), .val (.double dc), .second, .val (.ref b18), .unset, .unset, .unset, .unset, .unset, .unset] [(.ref b33)])) _
    refine XS.astore X37.here hx rfl (hb hby at_169) rfl rfl (l' := #[.val (.int p1), .val (.int p2), .val (.int p3), .val (.int p4), .val (.int xx), .val (.int yy), .val (.int fr), .val (.int to), .val (.int md), .val (.int sec), .val (.double dc), .second, .val (.ref b18), .val (.ref b33), .unset, .unset, .unset, .unset, .unset]) rfl ?_
    show Steps p.tables e below (T37.setTop (mkF m 171 #[.val (.int p1), .val (.int p2), .val (.int p3), .val (.int p4), .val (.int xx), .val (.int yy), .val (.int fr), .val (.int to), .val (.int md), .val (.int sec), .val (.double dc), .second, .val (.ref b18), .val (.ref b33), .unset, .unset, .unset, .unset, .unset] [])) _
    refine XS.iload X37.here hx rfl (hb hby at_171) rfl ?_
    show Steps p.tables e below (T37.setTop (mkF m 173 #[.val (.int p1), .val (.int p2), .val (.int p3), .val (.int p4), .val (.int xx), .val (.int yy), .val (.int fr), .val (.int to), .val (.int md), .val (.int sec), .val (.double dc), .second, .val (.ref b18), .val (.ref b33), .unset, .unset, .unset, .unset, .unset] [(.int sec)])) _
    refine XS.i2l X37.here hx rfl (hb hby at_173) rfl ?_
    show Steps p.tables e below (T37.setTop (mkF m 174 #[.val (.int p1), .val (.int p2), .val (.int p3), .val (.int p4), .val (.int xx), .val (.int yy), .val (.int fr), .val (.int to), .val (.int md), .val (.int sec), .val (.double dc), .second, .val (.ref b18), .val (.ref b33), .unset, .unset, .unset, .unset, .unset] [(.long (sec.toInt64))])) _
    refine XS.iload X37.here hx rfl (hb hby at_174) rfl ?_
    show Steps p.tables e below (T37.setTop (mkF m 176 #[.val (.int p1), .val (.int p2), .val (.int p3), .val (.int p4), .val (.int xx), .val (.int yy), .val (.int fr), .val (.int to), .val (.int md), .val (.int sec), .val (.double dc), .second, .val (.ref b18), .val (.ref b33), .unset, .unset, .unset, .unset, .unset] [(.int fr), (.long (sec.toInt64))])) _
    refine XS.i2l X37.here hx rfl (hb hby at_176) rfl ?_
    show Steps p.tables e below (T37.setTop (mkF m 177 #[.val (.int p1), .val (.int p2), .val (.int p3), .val (.int p4), .val (.int xx), .val (.int yy), .val (.int fr), .val (.int to), .val (.int md), .val (.int sec), .val (.double dc), .second, .val (.ref b18), .val (.ref b33), .unset, .unset, .unset, .unset, .unset] [(.long (fr.toInt64)), (.long (sec.toInt64))])) _
    refine XS.lsub X37.here hx rfl (hb hby at_177) rfl ?_
    show Steps p.tables e below (T37.setTop (mkF m 178 #[.val (.int p1), .val (.int p2), .val (.int p3), .val (.int p4), .val (.int xx), .val (.int yy), .val (.int fr), .val (.int to), .val (.int md), .val (.int sec), .val (.double dc), .second, .val (.ref b18), .val (.ref b33), .unset, .unset, .unset, .unset, .unset] [(.long ((sec.toInt64) - (fr.toInt64)))])) _
    refine XS.lstore X37.here hx rfl (hb hby at_178) rfl (l' := #[.val (.int p1), .val (.int p2), .val (.int p3), .val (.int p4), .val (.int xx), .val (.int yy), .val (.int fr), .val (.int to), .val (.int md), .val (.int sec), .val (.double dc), .second, .val (.ref b18), .val (.ref b33), .val (.long ((sec.toInt64) - (fr.toInt64))), .second, .unset, .unset, .unset]) rfl ?_
    show Steps p.tables e below (T37.setTop (mkF m 180 #[.val (.int p1), .val (.int p2), .val (.int p3), .val (.int p4), .val (.int xx), .val (.int yy), .val (.int fr), .val (.int to), .val (.int md), .val (.int sec), .val (.double dc), .second, .val (.ref b18), .val (.ref b33), .val (.long ((sec.toInt64) - (fr.toInt64))), .second, .unset, .unset, .unset] [])) _
    refine XS.iload X37.here hx rfl (hb hby at_180) rfl ?_
    show Steps p.tables e below (T37.setTop (mkF m 182 #[.val (.int p1), .val (.int p2), .val (.int p3), .val (.int p4), .val (.int xx), .val (.int yy), .val (.int fr), .val (.int to), .val (.int md), .val (.int sec), .val (.double dc), .second, .val (.ref b18), .val (.ref b33), .val (.long ((sec.toInt64) - (fr.toInt64))), .second, .unset, .unset, .unset] [(.int to)])) _
    refine XS.i2l X37.here hx rfl (hb hby at_182) rfl ?_
    show Steps p.tables e below (T37.setTop (mkF m 183 #[.val (.int p1), .val (.int p2), .val (.int p3), .val (.int p4), .val (.int xx), .val (.int yy), .val (.int fr), .val (.int to), .val (.int md), .val (.int sec), .val (.double dc), .second, .val (.ref b18), .val (.ref b33), .val (.long ((sec.toInt64) - (fr.toInt64))), .second, .unset, .unset, .unset] [(.long (to.toInt64))])) _
    refine XS.iload X37.here hx rfl (hb hby at_183) rfl ?_
    show Steps p.tables e below (T37.setTop (mkF m 185 #[.val (.int p1), .val (.int p2), .val (.int p3), .val (.int p4), .val (.int xx), .val (.int yy), .val (.int fr), .val (.int to), .val (.int md), .val (.int sec), .val (.double dc), .second, .val (.ref b18), .val (.ref b33), .val (.long ((sec.toInt64) - (fr.toInt64))), .second, .unset, .unset, .unset] [(.int fr), (.long (to.toInt64))])) _
    refine XS.i2l X37.here hx rfl (hb hby at_185) rfl ?_
    show Steps p.tables e below (T37.setTop (mkF m 186 #[.val (.int p1), .val (.int p2), .val (.int p3), .val (.int p4), .val (.int xx), .val (.int yy), .val (.int fr), .val (.int to), .val (.int md), .val (.int sec), .val (.double dc), .second, .val (.ref b18), .val (.ref b33), .val (.long ((sec.toInt64) - (fr.toInt64))), .second, .unset, .unset, .unset] [(.long (fr.toInt64)), (.long (to.toInt64))])) _
    refine XS.lsub X37.here hx rfl (hb hby at_186) rfl ?_
    show Steps p.tables e below (T37.setTop (mkF m 187 #[.val (.int p1), .val (.int p2), .val (.int p3), .val (.int p4), .val (.int xx), .val (.int yy), .val (.int fr), .val (.int to), .val (.int md), .val (.int sec), .val (.double dc), .second, .val (.ref b18), .val (.ref b33), .val (.long ((sec.toInt64) - (fr.toInt64))), .second, .unset, .unset, .unset] [(.long ((to.toInt64) - (fr.toInt64)))])) _
    refine XS.lstore X37.here hx rfl (hb hby at_187) rfl (l' := #[.val (.int p1), .val (.int p2), .val (.int p3), .val (.int p4), .val (.int xx), .val (.int yy), .val (.int fr), .val (.int to), .val (.int md), .val (.int sec), .val (.double dc), .second, .val (.ref b18), .val (.ref b33), .val (.long ((sec.toInt64) - (fr.toInt64))), .second, .val (.long ((to.toInt64) - (fr.toInt64))), .second, .unset]) rfl ?_
    exact kt
  refine GoW.adv sg38 ?_
  by_cases hc : sec < fr
  · have sg39 : ∀ t, Steps p.tables e below (T37.setTop (mkF m 215 #[.val (.int p1), .val (.int p2), .val (.int p3), .val (.int p4), .val (.int xx), .val (.int yy), .val (.int fr), .val (.int to), .val (.int md), .val (.int sec), .val (.double dc), .second, .val (.ref b18), .val (.ref b33), .val (.long ((sec.toInt64) - (fr.toInt64))), .second, .val (.long ((to.toInt64) - (fr.toInt64))), .second, .val (.int (0 : Int32))] [(.int sec), (.ref b33)])) t → Steps p.tables e below (T37.setTop (mkF m 189 #[.val (.int p1), .val (.int p2), .val (.int p3), .val (.int p4), .val (.int xx), .val (.int yy), .val (.int fr), .val (.int to), .val (.int md), .val (.int sec), .val (.double dc), .second, .val (.ref b18), .val (.ref b33), .val (.long ((sec.toInt64) - (fr.toInt64))), .second, .val (.long ((to.toInt64) - (fr.toInt64))), .second, .unset] [])) t := by
      intro t kt
      show Steps p.tables e below (T37.setTop (mkF m 189 #[.val (.int p1), .val (.int p2), .val (.int p3), .val (.int p4), .val (.int xx), .val (.int yy), .val (.int fr), .val (.int to), .val (.int md), .val (.int sec), .val (.double dc), .second, .val (.ref b18), .val (.ref b33), .val (.long ((sec.toInt64) - (fr.toInt64))), .second, .val (.long ((to.toInt64) - (fr.toInt64))), .second, .unset] [])) _
      refine XS.lload X37.here hx rfl (hb hby at_189) rfl ?_
      show Steps p.tables e below (T37.setTop (mkF m 191 #[.val (.int p1), .val (.int p2), .val (.int p3), .val (.int p4), .val (.int xx), .val (.int yy), .val (.int fr), .val (.int to), .val (.int md), .val (.int sec), .val (.double dc), .second, .val (.ref b18), .val (.ref b33), .val (.long ((sec.toInt64) - (fr.toInt64))), .second, .val (.long ((to.toInt64) - (fr.toInt64))), .second, .unset] [(.long ((sec.toInt64) - (fr.toInt64)))])) _
      refine XS.lconst X37.here hx rfl (hb hby at_191) ?_
      show Steps p.tables e below (T37.setTop (mkF m 192 #[.val (.int p1), .val (.int p2), .val (.int p3), .val (.int p4), .val (.int xx), .val (.int yy), .val (.int fr), .val (.int to), .val (.int md), .val (.int sec), .val (.double dc), .second, .val (.ref b18), .val (.ref b33), .val (.long ((sec.toInt64) - (fr.toInt64))), .second, .val (.long ((to.toInt64) - (fr.toInt64))), .second, .unset] [(.long (0 : Int64)), (.long ((sec.toInt64) - (fr.toInt64)))])) _
      refine XS.lcmp X37.here hx rfl (hb hby at_192) rfl ?_
      show Steps p.tables e below (T37.setTop (mkF m 193 #[.val (.int p1), .val (.int p2), .val (.int p3), .val (.int p4), .val (.int xx), .val (.int yy), .val (.int fr), .val (.int to), .val (.int md), .val (.int sec), .val (.double dc), .second, .val (.ref b18), .val (.ref b33), .val (.long ((sec.toInt64) - (fr.toInt64))), .second, .val (.long ((to.toInt64) - (fr.toInt64))), .second, .unset] [(.int (lcmpW ((sec.toInt64) - (fr.toInt64)) (0 : Int64)))])) _
      refine XS.ifYes X37.here hx rfl (pc0 := 193) (pc' := 208) rfl (hb hby at_193) rfl ((if0 _ _).trans (tlt (own_lc_lt (own_d0.mpr hc) : (lcmpW ((sec.toInt64) - (fr.toInt64)) (0 : Int64)) < (0 : Int32))).1) (by decide) (by decide) ?_
      show Steps p.tables e below (T37.setTop (mkF m 208 #[.val (.int p1), .val (.int p2), .val (.int p3), .val (.int p4), .val (.int xx), .val (.int yy), .val (.int fr), .val (.int to), .val (.int md), .val (.int sec), .val (.double dc), .second, .val (.ref b18), .val (.ref b33), .val (.long ((sec.toInt64) - (fr.toInt64))), .second, .val (.long ((to.toInt64) - (fr.toInt64))), .second, .unset] [])) _
      refine XS.iconst X37.here hx rfl (hb hby at_208) ?_
      show Steps p.tables e below (T37.setTop (mkF m 209 #[.val (.int p1), .val (.int p2), .val (.int p3), .val (.int p4), .val (.int xx), .val (.int yy), .val (.int fr), .val (.int to), .val (.int md), .val (.int sec), .val (.double dc), .second, .val (.ref b18), .val (.ref b33), .val (.long ((sec.toInt64) - (fr.toInt64))), .second, .val (.long ((to.toInt64) - (fr.toInt64))), .second, .unset] [(.int (0 : Int32))])) _
      refine XS.istore X37.here hx rfl (hb hby at_209) rfl (l' := #[.val (.int p1), .val (.int p2), .val (.int p3), .val (.int p4), .val (.int xx), .val (.int yy), .val (.int fr), .val (.int to), .val (.int md), .val (.int sec), .val (.double dc), .second, .val (.ref b18), .val (.ref b33), .val (.long ((sec.toInt64) - (fr.toInt64))), .second, .val (.long ((to.toInt64) - (fr.toInt64))), .second, .val (.int (0 : Int32))]) rfl ?_
      show Steps p.tables e below (T37.setTop (mkF m 211 #[.val (.int p1), .val (.int p2), .val (.int p3), .val (.int p4), .val (.int xx), .val (.int yy), .val (.int fr), .val (.int to), .val (.int md), .val (.int sec), .val (.double dc), .second, .val (.ref b18), .val (.ref b33), .val (.long ((sec.toInt64) - (fr.toInt64))), .second, .val (.long ((to.toInt64) - (fr.toInt64))), .second, .val (.int (0 : Int32))] [])) _
      refine XS.aload X37.here hx rfl (hb hby at_211) rfl rfl ?_
      show Steps p.tables e below (T37.setTop (mkF m 213 #[.val (.int p1), .val (.int p2), .val (.int p3), .val (.int p4), .val (.int xx), .val (.int yy), .val (.int fr), .val (.int to), .val (.int md), .val (.int sec), .val (.double dc), .second, .val (.ref b18), .val (.ref b33), .val (.long ((sec.toInt64) - (fr.toInt64))), .second, .val (.long ((to.toInt64) - (fr.toInt64))), .second, .val (.int (0 : Int32))] [(.ref b33)])) _
      refine XS.iload X37.here hx rfl (hb hby at_213) rfl ?_
      exact kt
    refine GoW.adv sg39 ?_
    obtain ⟨cq40, kq40, q40a, q40b, q40c⟩ := isOf hZ20 rfl p37_0
    obtain ⟨_, _, ⟨T40, L40, k40, n40⟩, -, X40, ⟨Lc40, hQ40, l40, y40, z40⟩, st40⟩ := X37.virtualBack hx (y := (⟨"com/example/nudged_routes/nudgedroutes/network/Incident", "isInForceAt", "(I)Z"⟩ : MethodName)) (z := (⟨"com/example/nudged_routes/nudgedroutes/network/Incident", "isInForceAt", "(I)Z"⟩ : MethodName)) hown20 (mvT hZ20 (hw _ (List.mem_of_getElem? (i := 61) rfl))) (mvT hZ20 (hw _ (List.mem_of_getElem? (i := 62) rfl))) (notFace_of_selects (args := #[]) (mvT hZ20 (hw _ (List.mem_of_getElem? (i := 64) rfl)))) (mvT hZ20 (hw _ (List.mem_of_getElem? (i := 64) rfl))) (mvT hZ20 (hw _ (List.mem_of_getElem? (i := 63) rfl))) (by decide) (backOf (W := 0) (rm_force l Z a0 hw [] b33 sec fr to T37.heap n0 Z37 p37_2 p37_3) hZ20 (hw _ (List.mem_of_getElem? (i := 65) rfl)) (hw _ (List.mem_of_getElem? (i := 43) rfl)) (by decide) (by decide)) q40a q40c (g := (mkF m 215 #[.val (.int p1), .val (.int p2), .val (.int p3), .val (.int p4), .val (.int xx), .val (.int yy), .val (.int fr), .val (.int to), .val (.int md), .val (.int sec), .val (.double dc), .second, .val (.ref b18), .val (.ref b33), .val (.long ((sec.toInt64) - (fr.toInt64))), .second, .val (.long ((to.toInt64) - (fr.toInt64))), .second, .val (.int (0 : Int32))] [(.int sec), (.ref b33)])) rfl (by rw [hml]; rfl) (Steps.refl _) (argsL := [(.int sec)]) (rest := []) (lenOf pd_oIcZ rfl) rfl (by show 2 * 0 + _ ≤ _; exact Nat.le_of_eq rfl) (hb hby at_215) (fun _ _ => ⟨rfl, rfl, (by decide : 4 + 0 ≤ _), (by decide : 20 + 0 ≤ _)⟩)
    dsimp only [Pt.U, Pt.locs, Pt.cells, Pt.slots] at X40 l40 y40 z40 st40 hQ40
    subst l40 y40 z40
    obtain ⟨rfl, N40q, e40⟩ := hQ40
    have N40 := Fr.app N37 N40q
    refine GoW.tr st40 ?_
    show GoW p.tables e below s _ _ _ (T40.setTop (mkF m 218 #[.val (.int p1), .val (.int p2), .val (.int p3), .val (.int p4), .val (.int xx), .val (.int yy), .val (.int fr), .val (.int to), .val (.int md), .val (.int sec), .val (.double dc), .second, .val (.ref b18), .val (.ref b33), .val (.long ((sec.toInt64) - (fr.toInt64))), .second, .val (.long ((to.toInt64) - (fr.toInt64))), .second, .val (.int (0 : Int32))] [(.int (own_force sec fr to))]))
    rw [own_force_a hc]
    show GoW p.tables e below s _ _ _ (T40.setTop (mkF m 218 #[.val (.int p1), .val (.int p2), .val (.int p3), .val (.int p4), .val (.int xx), .val (.int yy), .val (.int fr), .val (.int to), .val (.int md), .val (.int sec), .val (.double dc), .second, .val (.ref b18), .val (.ref b33), .val (.long ((sec.toInt64) - (fr.toInt64))), .second, .val (.long ((to.toInt64) - (fr.toInt64))), .second, .val (.int (0 : Int32))] [(.int (0 : Int32))]))
    have sg41 : ∀ t, Steps p.tables e below (T40.setTop (mkF m 228 #[.val (.int p1), .val (.int p2), .val (.int p3), .val (.int p4), .val (.int xx), .val (.int yy), .val (.int fr), .val (.int to), .val (.int md), .val (.int sec), .val (.double dc), .second, .val (.ref b18), .val (.ref b33), .val (.long ((sec.toInt64) - (fr.toInt64))), .second, .val (.long ((to.toInt64) - (fr.toInt64))), .second, .val (.int (0 : Int32))] [(.int (1 : Int32))])) t → Steps p.tables e below (T40.setTop (mkF m 218 #[.val (.int p1), .val (.int p2), .val (.int p3), .val (.int p4), .val (.int xx), .val (.int yy), .val (.int fr), .val (.int to), .val (.int md), .val (.int sec), .val (.double dc), .second, .val (.ref b18), .val (.ref b33), .val (.long ((sec.toInt64) - (fr.toInt64))), .second, .val (.long ((to.toInt64) - (fr.toInt64))), .second, .val (.int (0 : Int32))] [(.int (0 : Int32))])) t := by
      intro t kt
      show Steps p.tables e below (T40.setTop (mkF m 218 #[.val (.int p1), .val (.int p2), .val (.int p3), .val (.int p4), .val (.int xx), .val (.int yy), .val (.int fr), .val (.int to), .val (.int md), .val (.int sec), .val (.double dc), .second, .val (.ref b18), .val (.ref b33), .val (.long ((sec.toInt64) - (fr.toInt64))), .second, .val (.long ((to.toInt64) - (fr.toInt64))), .second, .val (.int (0 : Int32))] [(.int (0 : Int32))])) _
      refine XS.iload X40.here hx rfl (hb hby at_218) rfl ?_
      show Steps p.tables e below (T40.setTop (mkF m 220 #[.val (.int p1), .val (.int p2), .val (.int p3), .val (.int p4), .val (.int xx), .val (.int yy), .val (.int fr), .val (.int to), .val (.int md), .val (.int sec), .val (.double dc), .second, .val (.ref b18), .val (.ref b33), .val (.long ((sec.toInt64) - (fr.toInt64))), .second, .val (.long ((to.toInt64) - (fr.toInt64))), .second, .val (.int (0 : Int32))] [(.int (0 : Int32)), (.int (0 : Int32))])) _
      refine XS.icmpNo X40.here hx rfl (hb hby at_220) rfl (teq (by decide : (0 : Int32) = (0 : Int32))).2 ?_
      show Steps p.tables e below (T40.setTop (mkF m 223 #[.val (.int p1), .val (.int p2), .val (.int p3), .val (.int p4), .val (.int xx), .val (.int yy), .val (.int fr), .val (.int to), .val (.int md), .val (.int sec), .val (.double dc), .second, .val (.ref b18), .val (.ref b33), .val (.long ((sec.toInt64) - (fr.toInt64))), .second, .val (.long ((to.toInt64) - (fr.toInt64))), .second, .val (.int (0 : Int32))] [])) _
      refine XS.iconst X40.here hx rfl (hb hby at_223) ?_
      show Steps p.tables e below (T40.setTop (mkF m 224 #[.val (.int p1), .val (.int p2), .val (.int p3), .val (.int p4), .val (.int xx), .val (.int yy), .val (.int fr), .val (.int to), .val (.int md), .val (.int sec), .val (.double dc), .second, .val (.ref b18), .val (.ref b33), .val (.long ((sec.toInt64) - (fr.toInt64))), .second, .val (.long ((to.toInt64) - (fr.toInt64))), .second, .val (.int (0 : Int32))] [(.int (1 : Int32))])) _
      refine XS.goto X40.here hx rfl (pc0 := 224) (pc' := 228) rfl (hb hby at_224) (by decide) (by decide) ?_
      exact kt
    refine GoW.adv sg41 ?_
    refine GoW.ret (v := (some (.int (1 : Int32)))) X40 hS20 (by rw [e40]; exact hk37) (fun h => by rw [Bd.returns] at h; cases h) Bd.notSynchronized (fun fs hr => retN X40 hx (t := .boolean) Bd.returns (by simp) (hb hby at_228) hr) ?_ (by decide) (by decide)
    show Q_rm0 Z p1 p2 p3 p4 h0 n0 (some (.int (1 : Int32))) T40.heap _
    rw [e40]
    exact ⟨rfl, N40⟩
  · by_cases hd : sec < to
    · have sg42 : ∀ t, Steps p.tables e below (T37.setTop (mkF m 215 #[.val (.int p1), .val (.int p2), .val (.int p3), .val (.int p4), .val (.int xx), .val (.int yy), .val (.int fr), .val (.int to), .val (.int md), .val (.int sec), .val (.double dc), .second, .val (.ref b18), .val (.ref b33), .val (.long ((sec.toInt64) - (fr.toInt64))), .second, .val (.long ((to.toInt64) - (fr.toInt64))), .second, .val (.int (1 : Int32))] [(.int sec), (.ref b33)])) t → Steps p.tables e below (T37.setTop (mkF m 189 #[.val (.int p1), .val (.int p2), .val (.int p3), .val (.int p4), .val (.int xx), .val (.int yy), .val (.int fr), .val (.int to), .val (.int md), .val (.int sec), .val (.double dc), .second, .val (.ref b18), .val (.ref b33), .val (.long ((sec.toInt64) - (fr.toInt64))), .second, .val (.long ((to.toInt64) - (fr.toInt64))), .second, .unset] [])) t := by
        intro t kt
        show Steps p.tables e below (T37.setTop (mkF m 189 #[.val (.int p1), .val (.int p2), .val (.int p3), .val (.int p4), .val (.int xx), .val (.int yy), .val (.int fr), .val (.int to), .val (.int md), .val (.int sec), .val (.double dc), .second, .val (.ref b18), .val (.ref b33), .val (.long ((sec.toInt64) - (fr.toInt64))), .second, .val (.long ((to.toInt64) - (fr.toInt64))), .second, .unset] [])) _
        refine XS.lload X37.here hx rfl (hb hby at_189) rfl ?_
        show Steps p.tables e below (T37.setTop (mkF m 191 #[.val (.int p1), .val (.int p2), .val (.int p3), .val (.int p4), .val (.int xx), .val (.int yy), .val (.int fr), .val (.int to), .val (.int md), .val (.int sec), .val (.double dc), .second, .val (.ref b18), .val (.ref b33), .val (.long ((sec.toInt64) - (fr.toInt64))), .second, .val (.long ((to.toInt64) - (fr.toInt64))), .second, .unset] [(.long ((sec.toInt64) - (fr.toInt64)))])) _
        refine XS.lconst X37.here hx rfl (hb hby at_191) ?_
        show Steps p.tables e below (T37.setTop (mkF m 192 #[.val (.int p1), .val (.int p2), .val (.int p3), .val (.int p4), .val (.int xx), .val (.int yy), .val (.int fr), .val (.int to), .val (.int md), .val (.int sec), .val (.double dc), .second, .val (.ref b18), .val (.ref b33), .val (.long ((sec.toInt64) - (fr.toInt64))), .second, .val (.long ((to.toInt64) - (fr.toInt64))), .second, .unset] [(.long (0 : Int64)), (.long ((sec.toInt64) - (fr.toInt64)))])) _
        refine XS.lcmp X37.here hx rfl (hb hby at_192) rfl ?_
        show Steps p.tables e below (T37.setTop (mkF m 193 #[.val (.int p1), .val (.int p2), .val (.int p3), .val (.int p4), .val (.int xx), .val (.int yy), .val (.int fr), .val (.int to), .val (.int md), .val (.int sec), .val (.double dc), .second, .val (.ref b18), .val (.ref b33), .val (.long ((sec.toInt64) - (fr.toInt64))), .second, .val (.long ((to.toInt64) - (fr.toInt64))), .second, .unset] [(.int (lcmpW ((sec.toInt64) - (fr.toInt64)) (0 : Int64)))])) _
        refine XS.ifNo X37.here hx rfl (hb hby at_193) rfl ((if0 _ _).trans (flt (own_lc_nlt (fun z => hc (own_d0.mp z)) : ¬ ((lcmpW ((sec.toInt64) - (fr.toInt64)) (0 : Int64)) < (0 : Int32)))).1) ?_
        show Steps p.tables e below (T37.setTop (mkF m 196 #[.val (.int p1), .val (.int p2), .val (.int p3), .val (.int p4), .val (.int xx), .val (.int yy), .val (.int fr), .val (.int to), .val (.int md), .val (.int sec), .val (.double dc), .second, .val (.ref b18), .val (.ref b33), .val (.long ((sec.toInt64) - (fr.toInt64))), .second, .val (.long ((to.toInt64) - (fr.toInt64))), .second, .unset] [])) _
        refine XS.lload X37.here hx rfl (hb hby at_196) rfl ?_
        show Steps p.tables e below (T37.setTop (mkF m 198 #[.val (.int p1), .val (.int p2), .val (.int p3), .val (.int p4), .val (.int xx), .val (.int yy), .val (.int fr), .val (.int to), .val (.int md), .val (.int sec), .val (.double dc), .second, .val (.ref b18), .val (.ref b33), .val (.long ((sec.toInt64) - (fr.toInt64))), .second, .val (.long ((to.toInt64) - (fr.toInt64))), .second, .unset] [(.long ((sec.toInt64) - (fr.toInt64)))])) _
        refine XS.lload X37.here hx rfl (hb hby at_198) rfl ?_
        show Steps p.tables e below (T37.setTop (mkF m 200 #[.val (.int p1), .val (.int p2), .val (.int p3), .val (.int p4), .val (.int xx), .val (.int yy), .val (.int fr), .val (.int to), .val (.int md), .val (.int sec), .val (.double dc), .second, .val (.ref b18), .val (.ref b33), .val (.long ((sec.toInt64) - (fr.toInt64))), .second, .val (.long ((to.toInt64) - (fr.toInt64))), .second, .unset] [(.long ((to.toInt64) - (fr.toInt64))), (.long ((sec.toInt64) - (fr.toInt64)))])) _
        refine XS.lcmp X37.here hx rfl (hb hby at_200) rfl ?_
        show Steps p.tables e below (T37.setTop (mkF m 201 #[.val (.int p1), .val (.int p2), .val (.int p3), .val (.int p4), .val (.int xx), .val (.int yy), .val (.int fr), .val (.int to), .val (.int md), .val (.int sec), .val (.double dc), .second, .val (.ref b18), .val (.ref b33), .val (.long ((sec.toInt64) - (fr.toInt64))), .second, .val (.long ((to.toInt64) - (fr.toInt64))), .second, .unset] [(.int (lcmpW ((sec.toInt64) - (fr.toInt64)) ((to.toInt64) - (fr.toInt64))))])) _
        refine XS.ifNo X37.here hx rfl (hb hby at_201) rfl ((if0 _ _).trans (tlt (own_lc_lt (own_d1.mpr hd) : (lcmpW ((sec.toInt64) - (fr.toInt64)) ((to.toInt64) - (fr.toInt64))) < (0 : Int32))).2.1) ?_
        show Steps p.tables e below (T37.setTop (mkF m 204 #[.val (.int p1), .val (.int p2), .val (.int p3), .val (.int p4), .val (.int xx), .val (.int yy), .val (.int fr), .val (.int to), .val (.int md), .val (.int sec), .val (.double dc), .second, .val (.ref b18), .val (.ref b33), .val (.long ((sec.toInt64) - (fr.toInt64))), .second, .val (.long ((to.toInt64) - (fr.toInt64))), .second, .unset] [])) _
        refine XS.iconst X37.here hx rfl (hb hby at_204) ?_
        show Steps p.tables e below (T37.setTop (mkF m 205 #[.val (.int p1), .val (.int p2), .val (.int p3), .val (.int p4), .val (.int xx), .val (.int yy), .val (.int fr), .val (.int to), .val (.int md), .val (.int sec), .val (.double dc), .second, .val (.ref b18), .val (.ref b33), .val (.long ((sec.toInt64) - (fr.toInt64))), .second, .val (.long ((to.toInt64) - (fr.toInt64))), .second, .unset] [(.int (1 : Int32))])) _
        refine XS.goto X37.here hx rfl (pc0 := 205) (pc' := 209) rfl (hb hby at_205) (by decide) (by decide) ?_
        show Steps p.tables e below (T37.setTop (mkF m 209 #[.val (.int p1), .val (.int p2), .val (.int p3), .val (.int p4), .val (.int xx), .val (.int yy), .val (.int fr), .val (.int to), .val (.int md), .val (.int sec), .val (.double dc), .second, .val (.ref b18), .val (.ref b33), .val (.long ((sec.toInt64) - (fr.toInt64))), .second, .val (.long ((to.toInt64) - (fr.toInt64))), .second, .unset] [(.int (1 : Int32))])) _
        refine XS.istore X37.here hx rfl (hb hby at_209) rfl (l' := #[.val (.int p1), .val (.int p2), .val (.int p3), .val (.int p4), .val (.int xx), .val (.int yy), .val (.int fr), .val (.int to), .val (.int md), .val (.int sec), .val (.double dc), .second, .val (.ref b18), .val (.ref b33), .val (.long ((sec.toInt64) - (fr.toInt64))), .second, .val (.long ((to.toInt64) - (fr.toInt64))), .second, .val (.int (1 : Int32))]) rfl ?_
        show Steps p.tables e below (T37.setTop (mkF m 211 #[.val (.int p1), .val (.int p2), .val (.int p3), .val (.int p4), .val (.int xx), .val (.int yy), .val (.int fr), .val (.int to), .val (.int md), .val (.int sec), .val (.double dc), .second, .val (.ref b18), .val (.ref b33), .val (.long ((sec.toInt64) - (fr.toInt64))), .second, .val (.long ((to.toInt64) - (fr.toInt64))), .second, .val (.int (1 : Int32))] [])) _
        refine XS.aload X37.here hx rfl (hb hby at_211) rfl rfl ?_
        show Steps p.tables e below (T37.setTop (mkF m 213 #[.val (.int p1), .val (.int p2), .val (.int p3), .val (.int p4), .val (.int xx), .val (.int yy), .val (.int fr), .val (.int to), .val (.int md), .val (.int sec), .val (.double dc), .second, .val (.ref b18), .val (.ref b33), .val (.long ((sec.toInt64) - (fr.toInt64))), .second, .val (.long ((to.toInt64) - (fr.toInt64))), .second, .val (.int (1 : Int32))] [(.ref b33)])) _
        refine XS.iload X37.here hx rfl (hb hby at_213) rfl ?_
        exact kt
      refine GoW.adv sg42 ?_
      obtain ⟨cq43, kq43, q43a, q43b, q43c⟩ := isOf hZ20 rfl p37_0
      obtain ⟨_, _, ⟨T43, L43, k43, n43⟩, -, X43, ⟨Lc43, hQ43, l43, y43, z43⟩, st43⟩ := X37.virtualBack hx (y := (⟨"com/example/nudged_routes/nudgedroutes/network/Incident", "isInForceAt", "(I)Z"⟩ : MethodName)) (z := (⟨"com/example/nudged_routes/nudgedroutes/network/Incident", "isInForceAt", "(I)Z"⟩ : MethodName)) hown20 (mvT hZ20 (hw _ (List.mem_of_getElem? (i := 61) rfl))) (mvT hZ20 (hw _ (List.mem_of_getElem? (i := 62) rfl))) (notFace_of_selects (args := #[]) (mvT hZ20 (hw _ (List.mem_of_getElem? (i := 64) rfl)))) (mvT hZ20 (hw _ (List.mem_of_getElem? (i := 64) rfl))) (mvT hZ20 (hw _ (List.mem_of_getElem? (i := 63) rfl))) (by decide) (backOf (W := 0) (rm_force l Z a0 hw [] b33 sec fr to T37.heap n0 Z37 p37_2 p37_3) hZ20 (hw _ (List.mem_of_getElem? (i := 65) rfl)) (hw _ (List.mem_of_getElem? (i := 43) rfl)) (by decide) (by decide)) q43a q43c (g := (mkF m 215 #[.val (.int p1), .val (.int p2), .val (.int p3), .val (.int p4), .val (.int xx), .val (.int yy), .val (.int fr), .val (.int to), .val (.int md), .val (.int sec), .val (.double dc), .second, .val (.ref b18), .val (.ref b33), .val (.long ((sec.toInt64) - (fr.toInt64))), .second, .val (.long ((to.toInt64) - (fr.toInt64))), .second, .val (.int (1 : Int32))] [(.int sec), (.ref b33)])) rfl (by rw [hml]; rfl) (Steps.refl _) (argsL := [(.int sec)]) (rest := []) (lenOf pd_oIcZ rfl) rfl (by show 2 * 0 + _ ≤ _; exact Nat.le_of_eq rfl) (hb hby at_215) (fun _ _ => ⟨rfl, rfl, (by decide : 4 + 0 ≤ _), (by decide : 20 + 0 ≤ _)⟩)
      dsimp only [Pt.U, Pt.locs, Pt.cells, Pt.slots] at X43 l43 y43 z43 st43 hQ43
      subst l43 y43 z43
      obtain ⟨rfl, N43q, e43⟩ := hQ43
      have N43 := Fr.app N37 N43q
      refine GoW.tr st43 ?_
      show GoW p.tables e below s _ _ _ (T43.setTop (mkF m 218 #[.val (.int p1), .val (.int p2), .val (.int p3), .val (.int p4), .val (.int xx), .val (.int yy), .val (.int fr), .val (.int to), .val (.int md), .val (.int sec), .val (.double dc), .second, .val (.ref b18), .val (.ref b33), .val (.long ((sec.toInt64) - (fr.toInt64))), .second, .val (.long ((to.toInt64) - (fr.toInt64))), .second, .val (.int (1 : Int32))] [(.int (own_force sec fr to))]))
      rw [own_force_b hc hd]
      show GoW p.tables e below s _ _ _ (T43.setTop (mkF m 218 #[.val (.int p1), .val (.int p2), .val (.int p3), .val (.int p4), .val (.int xx), .val (.int yy), .val (.int fr), .val (.int to), .val (.int md), .val (.int sec), .val (.double dc), .second, .val (.ref b18), .val (.ref b33), .val (.long ((sec.toInt64) - (fr.toInt64))), .second, .val (.long ((to.toInt64) - (fr.toInt64))), .second, .val (.int (1 : Int32))] [(.int (1 : Int32))]))
      have sg44 : ∀ t, Steps p.tables e below (T43.setTop (mkF m 228 #[.val (.int p1), .val (.int p2), .val (.int p3), .val (.int p4), .val (.int xx), .val (.int yy), .val (.int fr), .val (.int to), .val (.int md), .val (.int sec), .val (.double dc), .second, .val (.ref b18), .val (.ref b33), .val (.long ((sec.toInt64) - (fr.toInt64))), .second, .val (.long ((to.toInt64) - (fr.toInt64))), .second, .val (.int (1 : Int32))] [(.int (1 : Int32))])) t → Steps p.tables e below (T43.setTop (mkF m 218 #[.val (.int p1), .val (.int p2), .val (.int p3), .val (.int p4), .val (.int xx), .val (.int yy), .val (.int fr), .val (.int to), .val (.int md), .val (.int sec), .val (.double dc), .second, .val (.ref b18), .val (.ref b33), .val (.long ((sec.toInt64) - (fr.toInt64))), .second, .val (.long ((to.toInt64) - (fr.toInt64))), .second, .val (.int (1 : Int32))] [(.int (1 : Int32))])) t := by
        intro t kt
        show Steps p.tables e below (T43.setTop (mkF m 218 #[.val (.int p1), .val (.int p2), .val (.int p3), .val (.int p4), .val (.int xx), .val (.int yy), .val (.int fr), .val (.int to), .val (.int md), .val (.int sec), .val (.double dc), .second, .val (.ref b18), .val (.ref b33), .val (.long ((sec.toInt64) - (fr.toInt64))), .second, .val (.long ((to.toInt64) - (fr.toInt64))), .second, .val (.int (1 : Int32))] [(.int (1 : Int32))])) _
        refine XS.iload X43.here hx rfl (hb hby at_218) rfl ?_
        show Steps p.tables e below (T43.setTop (mkF m 220 #[.val (.int p1), .val (.int p2), .val (.int p3), .val (.int p4), .val (.int xx), .val (.int yy), .val (.int fr), .val (.int to), .val (.int md), .val (.int sec), .val (.double dc), .second, .val (.ref b18), .val (.ref b33), .val (.long ((sec.toInt64) - (fr.toInt64))), .second, .val (.long ((to.toInt64) - (fr.toInt64))), .second, .val (.int (1 : Int32))] [(.int (1 : Int32)), (.int (1 : Int32))])) _
        refine XS.icmpNo X43.here hx rfl (hb hby at_220) rfl (teq (by decide : (1 : Int32) = (1 : Int32))).2 ?_
        show Steps p.tables e below (T43.setTop (mkF m 223 #[.val (.int p1), .val (.int p2), .val (.int p3), .val (.int p4), .val (.int xx), .val (.int yy), .val (.int fr), .val (.int to), .val (.int md), .val (.int sec), .val (.double dc), .second, .val (.ref b18), .val (.ref b33), .val (.long ((sec.toInt64) - (fr.toInt64))), .second, .val (.long ((to.toInt64) - (fr.toInt64))), .second, .val (.int (1 : Int32))] [])) _
        refine XS.iconst X43.here hx rfl (hb hby at_223) ?_
        show Steps p.tables e below (T43.setTop (mkF m 224 #[.val (.int p1), .val (.int p2), .val (.int p3), .val (.int p4), .val (.int xx), .val (.int yy), .val (.int fr), .val (.int to), .val (.int md), .val (.int sec), .val (.double dc), .second, .val (.ref b18), .val (.ref b33), .val (.long ((sec.toInt64) - (fr.toInt64))), .second, .val (.long ((to.toInt64) - (fr.toInt64))), .second, .val (.int (1 : Int32))] [(.int (1 : Int32))])) _
        refine XS.goto X43.here hx rfl (pc0 := 224) (pc' := 228) rfl (hb hby at_224) (by decide) (by decide) ?_
        exact kt
      refine GoW.adv sg44 ?_
      refine GoW.ret (v := (some (.int (1 : Int32)))) X43 hS20 (by rw [e43]; exact hk37) (fun h => by rw [Bd.returns] at h; cases h) Bd.notSynchronized (fun fs hr => retN X43 hx (t := .boolean) Bd.returns (by simp) (hb hby at_228) hr) ?_ (by decide) (by decide)
      show Q_rm0 Z p1 p2 p3 p4 h0 n0 (some (.int (1 : Int32))) T43.heap _
      rw [e43]
      exact ⟨rfl, N43⟩
    · have sg45 : ∀ t, Steps p.tables e below (T37.setTop (mkF m 215 #[.val (.int p1), .val (.int p2), .val (.int p3), .val (.int p4), .val (.int xx), .val (.int yy), .val (.int fr), .val (.int to), .val (.int md), .val (.int sec), .val (.double dc), .second, .val (.ref b18), .val (.ref b33), .val (.long ((sec.toInt64) - (fr.toInt64))), .second, .val (.long ((to.toInt64) - (fr.toInt64))), .second, .val (.int (0 : Int32))] [(.int sec), (.ref b33)])) t → Steps p.tables e below (T37.setTop (mkF m 189 #[.val (.int p1), .val (.int p2), .val (.int p3), .val (.int p4), .val (.int xx), .val (.int yy), .val (.int fr), .val (.int to), .val (.int md), .val (.int sec), .val (.double dc), .second, .val (.ref b18), .val (.ref b33), .val (.long ((sec.toInt64) - (fr.toInt64))), .second, .val (.long ((to.toInt64) - (fr.toInt64))), .second, .unset] [])) t := by
        intro t kt
        show Steps p.tables e below (T37.setTop (mkF m 189 #[.val (.int p1), .val (.int p2), .val (.int p3), .val (.int p4), .val (.int xx), .val (.int yy), .val (.int fr), .val (.int to), .val (.int md), .val (.int sec), .val (.double dc), .second, .val (.ref b18), .val (.ref b33), .val (.long ((sec.toInt64) - (fr.toInt64))), .second, .val (.long ((to.toInt64) - (fr.toInt64))), .second, .unset] [])) _
        refine XS.lload X37.here hx rfl (hb hby at_189) rfl ?_
        show Steps p.tables e below (T37.setTop (mkF m 191 #[.val (.int p1), .val (.int p2), .val (.int p3), .val (.int p4), .val (.int xx), .val (.int yy), .val (.int fr), .val (.int to), .val (.int md), .val (.int sec), .val (.double dc), .second, .val (.ref b18), .val (.ref b33), .val (.long ((sec.toInt64) - (fr.toInt64))), .second, .val (.long ((to.toInt64) - (fr.toInt64))), .second, .unset] [(.long ((sec.toInt64) - (fr.toInt64)))])) _
        refine XS.lconst X37.here hx rfl (hb hby at_191) ?_
        show Steps p.tables e below (T37.setTop (mkF m 192 #[.val (.int p1), .val (.int p2), .val (.int p3), .val (.int p4), .val (.int xx), .val (.int yy), .val (.int fr), .val (.int to), .val (.int md), .val (.int sec), .val (.double dc), .second, .val (.ref b18), .val (.ref b33), .val (.long ((sec.toInt64) - (fr.toInt64))), .second, .val (.long ((to.toInt64) - (fr.toInt64))), .second, .unset] [(.long (0 : Int64)), (.long ((sec.toInt64) - (fr.toInt64)))])) _
        refine XS.lcmp X37.here hx rfl (hb hby at_192) rfl ?_
        show Steps p.tables e below (T37.setTop (mkF m 193 #[.val (.int p1), .val (.int p2), .val (.int p3), .val (.int p4), .val (.int xx), .val (.int yy), .val (.int fr), .val (.int to), .val (.int md), .val (.int sec), .val (.double dc), .second, .val (.ref b18), .val (.ref b33), .val (.long ((sec.toInt64) - (fr.toInt64))), .second, .val (.long ((to.toInt64) - (fr.toInt64))), .second, .unset] [(.int (lcmpW ((sec.toInt64) - (fr.toInt64)) (0 : Int64)))])) _
        refine XS.ifNo X37.here hx rfl (hb hby at_193) rfl ((if0 _ _).trans (flt (own_lc_nlt (fun z => hc (own_d0.mp z)) : ¬ ((lcmpW ((sec.toInt64) - (fr.toInt64)) (0 : Int64)) < (0 : Int32)))).1) ?_
        show Steps p.tables e below (T37.setTop (mkF m 196 #[.val (.int p1), .val (.int p2), .val (.int p3), .val (.int p4), .val (.int xx), .val (.int yy), .val (.int fr), .val (.int to), .val (.int md), .val (.int sec), .val (.double dc), .second, .val (.ref b18), .val (.ref b33), .val (.long ((sec.toInt64) - (fr.toInt64))), .second, .val (.long ((to.toInt64) - (fr.toInt64))), .second, .unset] [])) _
        refine XS.lload X37.here hx rfl (hb hby at_196) rfl ?_
        show Steps p.tables e below (T37.setTop (mkF m 198 #[.val (.int p1), .val (.int p2), .val (.int p3), .val (.int p4), .val (.int xx), .val (.int yy), .val (.int fr), .val (.int to), .val (.int md), .val (.int sec), .val (.double dc), .second, .val (.ref b18), .val (.ref b33), .val (.long ((sec.toInt64) - (fr.toInt64))), .second, .val (.long ((to.toInt64) - (fr.toInt64))), .second, .unset] [(.long ((sec.toInt64) - (fr.toInt64)))])) _
        refine XS.lload X37.here hx rfl (hb hby at_198) rfl ?_
        show Steps p.tables e below (T37.setTop (mkF m 200 #[.val (.int p1), .val (.int p2), .val (.int p3), .val (.int p4), .val (.int xx), .val (.int yy), .val (.int fr), .val (.int to), .val (.int md), .val (.int sec), .val (.double dc), .second, .val (.ref b18), .val (.ref b33), .val (.long ((sec.toInt64) - (fr.toInt64))), .second, .val (.long ((to.toInt64) - (fr.toInt64))), .second, .unset] [(.long ((to.toInt64) - (fr.toInt64))), (.long ((sec.toInt64) - (fr.toInt64)))])) _
        refine XS.lcmp X37.here hx rfl (hb hby at_200) rfl ?_
        show Steps p.tables e below (T37.setTop (mkF m 201 #[.val (.int p1), .val (.int p2), .val (.int p3), .val (.int p4), .val (.int xx), .val (.int yy), .val (.int fr), .val (.int to), .val (.int md), .val (.int sec), .val (.double dc), .second, .val (.ref b18), .val (.ref b33), .val (.long ((sec.toInt64) - (fr.toInt64))), .second, .val (.long ((to.toInt64) - (fr.toInt64))), .second, .unset] [(.int (lcmpW ((sec.toInt64) - (fr.toInt64)) ((to.toInt64) - (fr.toInt64))))])) _
        refine XS.ifYes X37.here hx rfl (pc0 := 201) (pc' := 208) rfl (hb hby at_201) rfl ((if0 _ _).trans (flt (own_lc_nlt (fun z => hd (own_d1.mp z)) : ¬ ((lcmpW ((sec.toInt64) - (fr.toInt64)) ((to.toInt64) - (fr.toInt64))) < (0 : Int32)))).2.1) (by decide) (by decide) ?_
        show Steps p.tables e below (T37.setTop (mkF m 208 #[.val (.int p1), .val (.int p2), .val (.int p3), .val (.int p4), .val (.int xx), .val (.int yy), .val (.int fr), .val (.int to), .val (.int md), .val (.int sec), .val (.double dc), .second, .val (.ref b18), .val (.ref b33), .val (.long ((sec.toInt64) - (fr.toInt64))), .second, .val (.long ((to.toInt64) - (fr.toInt64))), .second, .unset] [])) _
        refine XS.iconst X37.here hx rfl (hb hby at_208) ?_
        show Steps p.tables e below (T37.setTop (mkF m 209 #[.val (.int p1), .val (.int p2), .val (.int p3), .val (.int p4), .val (.int xx), .val (.int yy), .val (.int fr), .val (.int to), .val (.int md), .val (.int sec), .val (.double dc), .second, .val (.ref b18), .val (.ref b33), .val (.long ((sec.toInt64) - (fr.toInt64))), .second, .val (.long ((to.toInt64) - (fr.toInt64))), .second, .unset] [(.int (0 : Int32))])) _
        refine XS.istore X37.here hx rfl (hb hby at_209) rfl (l' := #[.val (.int p1), .val (.int p2), .val (.int p3), .val (.int p4), .val (.int xx), .val (.int yy), .val (.int fr), .val (.int to), .val (.int md), .val (.int sec), .val (.double dc), .second, .val (.ref b18), .val (.ref b33), .val (.long ((sec.toInt64) - (fr.toInt64))), .second, .val (.long ((to.toInt64) - (fr.toInt64))), .second, .val (.int (0 : Int32))]) rfl ?_
        show Steps p.tables e below (T37.setTop (mkF m 211 #[.val (.int p1), .val (.int p2), .val (.int p3), .val (.int p4), .val (.int xx), .val (.int yy), .val (.int fr), .val (.int to), .val (.int md), .val (.int sec), .val (.double dc), .second, .val (.ref b18), .val (.ref b33), .val (.long ((sec.toInt64) - (fr.toInt64))), .second, .val (.long ((to.toInt64) - (fr.toInt64))), .second, .val (.int (0 : Int32))] [])) _
        refine XS.aload X37.here hx rfl (hb hby at_211) rfl rfl ?_
        show Steps p.tables e below (T37.setTop (mkF m 213 #[.val (.int p1), .val (.int p2), .val (.int p3), .val (.int p4), .val (.int xx), .val (.int yy), .val (.int fr), .val (.int to), .val (.int md), .val (.int sec), .val (.double dc), .second, .val (.ref b18), .val (.ref b33), .val (.long ((sec.toInt64) - (fr.toInt64))), .second, .val (.long ((to.toInt64) - (fr.toInt64))), .second, .val (.int (0 : Int32))] [(.ref b33)])) _
        refine XS.iload X37.here hx rfl (hb hby at_213) rfl ?_
        exact kt
      refine GoW.adv sg45 ?_
      obtain ⟨cq46, kq46, q46a, q46b, q46c⟩ := isOf hZ20 rfl p37_0
      obtain ⟨_, _, ⟨T46, L46, k46, n46⟩, -, X46, ⟨Lc46, hQ46, l46, y46, z46⟩, st46⟩ := X37.virtualBack hx (y := (⟨"com/example/nudged_routes/nudgedroutes/network/Incident", "isInForceAt", "(I)Z"⟩ : MethodName)) (z := (⟨"com/example/nudged_routes/nudgedroutes/network/Incident", "isInForceAt", "(I)Z"⟩ : MethodName)) hown20 (mvT hZ20 (hw _ (List.mem_of_getElem? (i := 61) rfl))) (mvT hZ20 (hw _ (List.mem_of_getElem? (i := 62) rfl))) (notFace_of_selects (args := #[]) (mvT hZ20 (hw _ (List.mem_of_getElem? (i := 64) rfl)))) (mvT hZ20 (hw _ (List.mem_of_getElem? (i := 64) rfl))) (mvT hZ20 (hw _ (List.mem_of_getElem? (i := 63) rfl))) (by decide) (backOf (W := 0) (rm_force l Z a0 hw [] b33 sec fr to T37.heap n0 Z37 p37_2 p37_3) hZ20 (hw _ (List.mem_of_getElem? (i := 65) rfl)) (hw _ (List.mem_of_getElem? (i := 43) rfl)) (by decide) (by decide)) q46a q46c (g := (mkF m 215 #[.val (.int p1), .val (.int p2), .val (.int p3), .val (.int p4), .val (.int xx), .val (.int yy), .val (.int fr), .val (.int to), .val (.int md), .val (.int sec), .val (.double dc), .second, .val (.ref b18), .val (.ref b33), .val (.long ((sec.toInt64) - (fr.toInt64))), .second, .val (.long ((to.toInt64) - (fr.toInt64))), .second, .val (.int (0 : Int32))] [(.int sec), (.ref b33)])) rfl (by rw [hml]; rfl) (Steps.refl _) (argsL := [(.int sec)]) (rest := []) (lenOf pd_oIcZ rfl) rfl (by show 2 * 0 + _ ≤ _; exact Nat.le_of_eq rfl) (hb hby at_215) (fun _ _ => ⟨rfl, rfl, (by decide : 4 + 0 ≤ _), (by decide : 20 + 0 ≤ _)⟩)
      dsimp only [Pt.U, Pt.locs, Pt.cells, Pt.slots] at X46 l46 y46 z46 st46 hQ46
      subst l46 y46 z46
      obtain ⟨rfl, N46q, e46⟩ := hQ46
      have N46 := Fr.app N37 N46q
      refine GoW.tr st46 ?_
      show GoW p.tables e below s _ _ _ (T46.setTop (mkF m 218 #[.val (.int p1), .val (.int p2), .val (.int p3), .val (.int p4), .val (.int xx), .val (.int yy), .val (.int fr), .val (.int to), .val (.int md), .val (.int sec), .val (.double dc), .second, .val (.ref b18), .val (.ref b33), .val (.long ((sec.toInt64) - (fr.toInt64))), .second, .val (.long ((to.toInt64) - (fr.toInt64))), .second, .val (.int (0 : Int32))] [(.int (own_force sec fr to))]))
      rw [own_force_c hc hd]
      show GoW p.tables e below s _ _ _ (T46.setTop (mkF m 218 #[.val (.int p1), .val (.int p2), .val (.int p3), .val (.int p4), .val (.int xx), .val (.int yy), .val (.int fr), .val (.int to), .val (.int md), .val (.int sec), .val (.double dc), .second, .val (.ref b18), .val (.ref b33), .val (.long ((sec.toInt64) - (fr.toInt64))), .second, .val (.long ((to.toInt64) - (fr.toInt64))), .second, .val (.int (0 : Int32))] [(.int (0 : Int32))]))
      have sg47 : ∀ t, Steps p.tables e below (T46.setTop (mkF m 228 #[.val (.int p1), .val (.int p2), .val (.int p3), .val (.int p4), .val (.int xx), .val (.int yy), .val (.int fr), .val (.int to), .val (.int md), .val (.int sec), .val (.double dc), .second, .val (.ref b18), .val (.ref b33), .val (.long ((sec.toInt64) - (fr.toInt64))), .second, .val (.long ((to.toInt64) - (fr.toInt64))), .second, .val (.int (0 : Int32))] [(.int (1 : Int32))])) t → Steps p.tables e below (T46.setTop (mkF m 218 #[.val (.int p1), .val (.int p2), .val (.int p3), .val (.int p4), .val (.int xx), .val (.int yy), .val (.int fr), .val (.int to), .val (.int md), .val (.int sec), .val (.double dc), .second, .val (.ref b18), .val (.ref b33), .val (.long ((sec.toInt64) - (fr.toInt64))), .second, .val (.long ((to.toInt64) - (fr.toInt64))), .second, .val (.int (0 : Int32))] [(.int (0 : Int32))])) t := by
        intro t kt
        show Steps p.tables e below (T46.setTop (mkF m 218 #[.val (.int p1), .val (.int p2), .val (.int p3), .val (.int p4), .val (.int xx), .val (.int yy), .val (.int fr), .val (.int to), .val (.int md), .val (.int sec), .val (.double dc), .second, .val (.ref b18), .val (.ref b33), .val (.long ((sec.toInt64) - (fr.toInt64))), .second, .val (.long ((to.toInt64) - (fr.toInt64))), .second, .val (.int (0 : Int32))] [(.int (0 : Int32))])) _
        refine XS.iload X46.here hx rfl (hb hby at_218) rfl ?_
        show Steps p.tables e below (T46.setTop (mkF m 220 #[.val (.int p1), .val (.int p2), .val (.int p3), .val (.int p4), .val (.int xx), .val (.int yy), .val (.int fr), .val (.int to), .val (.int md), .val (.int sec), .val (.double dc), .second, .val (.ref b18), .val (.ref b33), .val (.long ((sec.toInt64) - (fr.toInt64))), .second, .val (.long ((to.toInt64) - (fr.toInt64))), .second, .val (.int (0 : Int32))] [(.int (0 : Int32)), (.int (0 : Int32))])) _
        refine XS.icmpNo X46.here hx rfl (hb hby at_220) rfl (teq (by decide : (0 : Int32) = (0 : Int32))).2 ?_
        show Steps p.tables e below (T46.setTop (mkF m 223 #[.val (.int p1), .val (.int p2), .val (.int p3), .val (.int p4), .val (.int xx), .val (.int yy), .val (.int fr), .val (.int to), .val (.int md), .val (.int sec), .val (.double dc), .second, .val (.ref b18), .val (.ref b33), .val (.long ((sec.toInt64) - (fr.toInt64))), .second, .val (.long ((to.toInt64) - (fr.toInt64))), .second, .val (.int (0 : Int32))] [])) _
        refine XS.iconst X46.here hx rfl (hb hby at_223) ?_
        show Steps p.tables e below (T46.setTop (mkF m 224 #[.val (.int p1), .val (.int p2), .val (.int p3), .val (.int p4), .val (.int xx), .val (.int yy), .val (.int fr), .val (.int to), .val (.int md), .val (.int sec), .val (.double dc), .second, .val (.ref b18), .val (.ref b33), .val (.long ((sec.toInt64) - (fr.toInt64))), .second, .val (.long ((to.toInt64) - (fr.toInt64))), .second, .val (.int (0 : Int32))] [(.int (1 : Int32))])) _
        refine XS.goto X46.here hx rfl (pc0 := 224) (pc' := 228) rfl (hb hby at_224) (by decide) (by decide) ?_
        exact kt
      refine GoW.adv sg47 ?_
      refine GoW.ret (v := (some (.int (1 : Int32)))) X46 hS20 (by rw [e46]; exact hk37) (fun h => by rw [Bd.returns] at h; cases h) Bd.notSynchronized (fun fs hr => retN X46 hx (t := .boolean) Bd.returns (by simp) (hb hby at_228) hr) ?_ (by decide) (by decide)
      show Q_rm0 Z p1 p2 p3 p4 h0 n0 (some (.int (1 : Int32))) T46.heap _
      rw [e46]
      exact ⟨rfl, N46⟩
set_option maxRecDepth 65536 in
set_option maxHeartbeats 40000000 in
theorem comes_1 {Post : Tables → Env → Array Value → State → Outcome → State → Prop} (hpost : ∀ tb e args s v u, (limb_1_1.after args s (.returned v) u = true ∧ limb_1_2.after args s (.returned v) u = true ∧ True) → ReturnedEndW s (.returned v) u (Jvm.fieldLocs frame_1_writes args s ++ Jvm.arrayLocs frame_1_arrays args s ++ Jvm.staticLocs frame_1_statics s) 16 1152 → Post tb e args s (.returned v) u) :
    ArmFor flags0 classFile x code maxLocals ret World_1 tables_1 room_1 Calls_1 rest_1 Pre_1 Post := by
  intro l hfl _ _ p e ha hc hk s m args below hf hA hF happ hP
  obtain ⟨hcalls, hrest, hpre⟩ := hP
  obtain ⟨-, -, -, hnamed, -, -, -, hat⟩ := (Spec.applies_iff hf).mp happ
  obtain ⟨hg, hn⟩ := and_e (Cond.before_iff.mp (show (Jvm.Cond.and given_1 narrow_1).before args s = true from hpre))
  obtain ⟨g1, g2⟩ := and_e hg
  obtain ⟨g3, g4⟩ := and_e g2
  obtain ⟨g5, g6⟩ := and_e g4
  obtain ⟨g7, g8⟩ := and_e g6
  obtain ⟨w0, w1, w2, w3, rfl⟩ : ∃ w0 w1 w2 w3 : Value, args = #[w0, w1, w2, w3] := by
    have hs : args.size = 4 := by simpa [Cond.value, given_1] using g1
    obtain ⟨L⟩ := args
    match L, hs with
    | [w0, w1, w2, w3], _ => exact ⟨w0, w1, w2, w3, rfl⟩
  have hw := fun d (hd : d ∈ tables_1) => atoms_spec (ws := Jvm.Cond.code x code maxLocals ret :: tables_1) hat d (List.mem_cons_of_mem _ hd)
  have hfit : Fit s := fun {y c} hc i hi => by
    obtain ⟨ha, rfl⟩ := Array.getElem?_eq_some_iff.mp hc
    have q := List.all_eq_true.mp ((Array.all_eq_true_iff_forall_mem.mp hF) _ (Array.getElem_mem ha)) i (List.mem_range.mpr hi)
    simpa [Array.getElem?_eq_getElem hi] using q
  obtain ⟨i0, ei0⟩ := is_v g3
  obtain rfl : w0 = (.int i0) := Option.some.inj ei0
  obtain ⟨i1, ei1⟩ := is_v g5
  obtain rfl : w1 = (.int i1) := Option.some.inj ei1
  obtain ⟨i2, ei2⟩ := is_v g7
  obtain rfl : w2 = (.int i2) := Option.some.inj ei2
  obtain ⟨i3, ei3⟩ := is_v g8
  obtain rfl : w3 = (.int i3) := Option.some.inj ei3
  obtain ⟨n, o, h1, h2, h3, _, L, rfl, ⟨rfl, N⟩, hq⟩ := rm0 l s _ hw tables_1 i0 i1 i2 i3  s.heap s.heap.size (Nat.le_refl _)  p e ha hc hk s m _ below hf ((Spec.applies_iff_loose hf).mp happ).1 ⟨rfl, State.Warmed39.refl s, rfl⟩ trivial
  refine ⟨n, _, h1, h2, h3, hpost _ _ _ _ _ _ ⟨Cond.after_iff.mpr rfl, Cond.after_iff.mpr (eq_i res_at (Term.int_eval (1)) rfl), trivial⟩ ⟨hq.1, hq.2.1, hq.2.2.1, (hq.2.2.2.sift fun y hy => Or.inr (N y hy)).mono (by decide) (by decide)⟩⟩
theorem main_1_1 : Claimed_1_1 := comes_1 fun _ _ _ _ _ _ h hF => ⟨h.1, hF⟩
theorem main_1_2 : Claimed_1_2 := comes_1 fun _ _ _ _ _ _ h hF => ⟨h.2.1, hF⟩
end Jvm.Pilot.@@N@@
namespace Jvm.Pilot.@@N@@
open Jvm Jvm.ClassFile Sem Op Lib Jvm.Free Jvm.Stand Jvm.Pilot.@@N@@.Jvm.D
/-! MADE BY PROGRAM (witnessworld.py) out of the Statement's table words and the real class files: 16 classes; the members and pool entries that the words name. The judged class is class 1, her method 1. -/
namespace start1
open Jvm.ClassFile
def u (s : String) : CpInfo := .utf8 (stringToUtf16 s)
/-- a pool by its gaps: so many unusable entries, then the entry; so many at the end -/
def gap : Nat → List CpInfo → List CpInfo
  | 0, r => r
  | n + 1, r => .unusable :: gap n r
def poolList (es : List (Nat × CpInfo)) (last : Nat) : List CpInfo := es.foldr (fun e r => gap e.1 (e.2 :: r)) (gap last [])
def pool (es : List (Nat × CpInfo)) (last : Nat) : Array CpInfo := ⟨poolList es last⟩
def fileOf (pool : Array CpInfo) (this : Nat) (attrs : Array Attribute := #[]) (ms : Array MethodInfo := #[]) (fl : Nat := 33) (sup : Nat := 0) (ifs : Array Nat := #[]) (fds : Array FieldInfo := #[]) : ClassFile where
  minorVersion := 0
  majorVersion := 65
  constantPool := pool
  accessFlags := fl
  thisClass := this
  superClass := sup
  interfaces := ifs
  fields := fds
  methods := ms
  attributes := attrs
def plain (name : String) (sup : Option ClassId) : Class where
  name := name
  kind := .ordinary
  loader := none
  accessFlags := 33
  super := sup
  interfaces := #[]
  cf := none
  fields := #[]
  methods := #[]
  instanceTypes := #[]
  staticTypes := #[]
  resolved := #[]
  callSites := []
  init := .initialized
  statics := none
  mirror := none

def pool0 : Array CpInfo := pool [(5, u "<init>"), (0, u "()V"), (1, .class_ 10), (1, u "java/lang/Object")] 113

def k0c0 : Code := { maxStack := 0, maxLocals := 1, code := object_method_1_code, exceptionTable := #[], attributes := #[] }
def k0m0 : Method := { name := "<init>", desc := "()V", sig := { parameters := [], returnType := none }, accessFlags := 1, code := some k0c0 }
/-- java/lang/Object -/
def k0 : Class := { plain "java/lang/Object" none with
  accessFlags := 33
  interfaces := #[]
  cf := some (fileOf pool0 8 #[] #[{ accessFlags := 1, nameIndex := 5, descriptorIndex := 6, attributes := #[] }] 33 0 #[] #[])
  fields := #[]
  methods := #[k0m0]
  instanceTypes := #[]
  staticTypes := #[]
  resolved := Array.replicate 124 none
  statics := none }

def pool1 : Array CpInfo := pool [(2, .class_ 4), (1, u "java/lang/Object"), (0, u "<init>"), (0, u "()V"), (0, .integer 2147483647), (0, .methodref 9 10), (0, .class_ 11), (0, .nameAndType 12 13), (0, u "java/lang/Math"), (0, u "min"), (0, u "(II)I"), (0, .methodref 9 15), (0, .nameAndType 16 13), (0, u "max"), (2, .class_ 20), (0, u "com/example/nudged_routes/nudgedroutes/network/Link"), (0, .string 22), (0, u "a"), (0, .methodref 19 24), (0, .nameAndType 5 25), (0, u "(ILjava/lang/String;Lcom/example/nudged_routes/nudgedroutes/network/Node;Lcom/example/nudged_routes/nudgedroutes/network/Node;DDDI)V"), (0, .class_ 27), (0, u "com/example/nudged_routes/nudgedroutes/network/Incident"), (0, .methodref 26 29), (0, .nameAndType 5 30), (0, u "(Lcom/example/nudged_routes/nudgedroutes/network/Link;IID)V"), (0, .methodref 26 32), (0, .nameAndType 33 34), (0, u "isInForceAt"), (0, u "(I)Z"), (0, .class_ 36), (0, u "com/example/nudged_routes/nudgedroutes/network/IncidentIsInForceAtPinLaw"), (2, u "law"), (0, u "(IIII)Z")] 3

def k1m0 : Method := { name := "<init>", desc := "()V", sig := { parameters := [], returnType := none }, accessFlags := 1, code := none }
def k1c1 : Code := { maxStack := 13, maxLocals := 19, code := code, exceptionTable := #[], attributes := #[] }
def k1m1 : Method := { name := "law", desc := "(IIII)Z", sig := { parameters := [.int, .int, .int, .int], returnType := some .boolean }, accessFlags := 9, code := some k1c1 }
/-- com/example/nudged_routes/nudgedroutes/network/IncidentIsInForceAtPinLaw -/
def k1 : Class := { plain "com/example/nudged_routes/nudgedroutes/network/IncidentIsInForceAtPinLaw" (some 0) with
  accessFlags := 49
  interfaces := #[]
  cf := some (fileOf pool1 35 #[] #[{ accessFlags := 1, nameIndex := 5, descriptorIndex := 6, attributes := #[] }, { accessFlags := 9, nameIndex := 39, descriptorIndex := 40, attributes := #[] }] 49 2 #[] #[])
  fields := #[]
  methods := #[k1m0, k1m1]
  instanceTypes := #[]
  staticTypes := #[]
  resolved := Array.replicate 44 none
  statics := none }

def pool2 : Array CpInfo := pool [(1, .class_ 2), (0, u "java/lang/Math"), (1, .class_ 6), (1, u "java/lang/Object"), (0, u "<init>"), (0, u "()V"), (89, .class_ 100), (1, u "java/lang/Math$RandomNumberGeneratorHolder"), (71, u "negativeZeroFloatBits"), (0, u "J"), (2, u "negativeZeroDoubleBits"), (21, u "max"), (2, u "min"), (43, u "$assertionsDisabled"), (0, u "Z"), (88, u "(II)I"), (2, u "twoToTheDoubleScaleDown"), (0, u "D"), (4, u "twoToTheDoubleScaleUp"), (9, u "E"), (3, u "PI"), (2, u "TAU"), (2, u "DEGREES_TO_RADIANS"), (0, u "RADIANS_TO_DEGREES")] 94

def k2m0 : Method := { name := "<init>", desc := "()V", sig := { parameters := [], returnType := none }, accessFlags := 2, code := none }
def k2c1 : Code := { maxStack := 2, maxLocals := 2, code := jdk_29_method_65_code, exceptionTable := #[], attributes := #[] }
def k2m1 : Method := { name := "max", desc := "(II)I", sig := { parameters := [.int, .int], returnType := some .int }, accessFlags := 9, code := some k2c1 }
def k2c2 : Code := { maxStack := 2, maxLocals := 2, code := jdk_29_method_69_code, exceptionTable := #[], attributes := #[] }
def k2m2 : Method := { name := "min", desc := "(II)I", sig := { parameters := [.int, .int], returnType := some .int }, accessFlags := 9, code := some k2c2 }
/-- java/lang/Math -/
def k2 : Class := { plain "java/lang/Math" (some 0) with
  accessFlags := 49
  interfaces := #[]
  cf := some (fileOf pool2 1 #[.nestMembers #[98]] #[{ accessFlags := 2, nameIndex := 7, descriptorIndex := 8, attributes := #[] }, { accessFlags := 9, nameIndex := 198, descriptorIndex := 335, attributes := #[] }, { accessFlags := 9, nameIndex := 201, descriptorIndex := 335, attributes := #[] }] 49 4 #[] #[{ accessFlags := 25, nameIndex := 354, descriptorIndex := 339, attributes := #[] }, { accessFlags := 25, nameIndex := 358, descriptorIndex := 339, attributes := #[] }, { accessFlags := 25, nameIndex := 361, descriptorIndex := 339, attributes := #[] }, { accessFlags := 26, nameIndex := 364, descriptorIndex := 339, attributes := #[] }, { accessFlags := 26, nameIndex := 365, descriptorIndex := 339, attributes := #[] }, { accessFlags := 26, nameIndex := 172, descriptorIndex := 173, attributes := #[] }, { accessFlags := 26, nameIndex := 176, descriptorIndex := 173, attributes := #[] }, { accessFlags := 8, nameIndex := 344, descriptorIndex := 339, attributes := #[] }, { accessFlags := 8, nameIndex := 338, descriptorIndex := 339, attributes := #[] }, { accessFlags := 4120, nameIndex := 245, descriptorIndex := 246, attributes := #[] }])
  fields := #[{ name := "E", type := .double, accessFlags := 25, slot := 0, constantValue := 0 }, { name := "PI", type := .double, accessFlags := 25, slot := 1, constantValue := 0 }, { name := "TAU", type := .double, accessFlags := 25, slot := 2, constantValue := 0 }, { name := "DEGREES_TO_RADIANS", type := .double, accessFlags := 26, slot := 3, constantValue := 0 }, { name := "RADIANS_TO_DEGREES", type := .double, accessFlags := 26, slot := 4, constantValue := 0 }, { name := "negativeZeroFloatBits", type := .long, accessFlags := 26, slot := 5, constantValue := 0 }, { name := "negativeZeroDoubleBits", type := .long, accessFlags := 26, slot := 6, constantValue := 0 }, { name := "twoToTheDoubleScaleUp", type := .double, accessFlags := 8, slot := 7, constantValue := 0 }, { name := "twoToTheDoubleScaleDown", type := .double, accessFlags := 8, slot := 8, constantValue := 0 }, { name := "$assertionsDisabled", type := .boolean, accessFlags := 4120, slot := 9, constantValue := 0 }]
  methods := #[k2m0, k2m1, k2m2]
  instanceTypes := #[]
  staticTypes := #[.double, .double, .double, .double, .double, .long, .long, .double, .double, .boolean]
  resolved := Array.replicate 460 none
  statics := none }

def pool3 : Array CpInfo := pool [(8, .class_ 10), (1, u "com/example/nudged_routes/nudgedroutes/network/Link"), (0, u "<init>"), (0, u "(ILjava/lang/String;Lcom/example/nudged_routes/nudgedroutes/network/Node;Lcom/example/nudged_routes/nudgedroutes/network/Node;DDDI)V"), (0, .methodref 14 15), (0, .class_ 16), (0, .nameAndType 11 17), (0, u "java/lang/Object"), (0, u "()V"), (14, .fieldref 8 33), (0, .nameAndType 34 35), (0, u "index"), (0, u "I"), (0, .fieldref 8 37), (0, .nameAndType 38 39), (0, u "id"), (0, u "Ljava/lang/String;"), (0, .fieldref 8 41), (0, .nameAndType 42 43), (0, u "from"), (0, u "Lcom/example/nudged_routes/nudgedroutes/network/Node;"), (0, .fieldref 8 45), (0, .nameAndType 46 43), (0, u "to"), (0, .fieldref 8 48), (0, .nameAndType 49 50), (0, u "capacityVph"), (0, u "D"), (0, .fieldref 8 52), (0, .nameAndType 53 50), (0, u "lengthM"), (0, .fieldref 8 55), (0, .nameAndType 56 50), (0, u "freeFlowTimeS"), (0, .fieldref 8 58), (0, .nameAndType 59 35), (0, u "lanes"), (58, u "LANE_CAPACITY_VPH"), (3, u "KMH_PER_METRE_PER_SECOND"), (8, u "()D")] 29

def k3c0 : Code := { maxStack := 5, maxLocals := 12, code := prog_58_method_2_code, exceptionTable := #[], attributes := #[] }
def k3m0 : Method := { name := "<init>", desc := "(ILjava/lang/String;Lcom/example/nudged_routes/nudgedroutes/network/Node;Lcom/example/nudged_routes/nudgedroutes/network/Node;DDDI)V", sig := { parameters := [.int, (.object "java/lang/String"), (.object "com/example/nudged_routes/nudgedroutes/network/Node"), (.object "com/example/nudged_routes/nudgedroutes/network/Node"), .double, .double, .double, .int], returnType := none }, accessFlags := 1, code := some k3c0 }
def k3c1 : Code := { maxStack := 2, maxLocals := 1, code := prog_58_method_7_code, exceptionTable := #[], attributes := #[] }
def k3m1 : Method := { name := "capacityVph", desc := "()D", sig := { parameters := [], returnType := some .double }, accessFlags := 1, code := some k3c1 }
/-- com/example/nudged_routes/nudgedroutes/network/Link -/
def k3 : Class := { plain "com/example/nudged_routes/nudgedroutes/network/Link" (some 0) with
  accessFlags := 49
  interfaces := #[]
  cf := some (fileOf pool3 8 #[] #[{ accessFlags := 1, nameIndex := 11, descriptorIndex := 12, attributes := #[] }, { accessFlags := 1, nameIndex := 49, descriptorIndex := 131, attributes := #[] }] 49 14 #[] #[{ accessFlags := 25, nameIndex := 118, descriptorIndex := 50, attributes := #[] }, { accessFlags := 26, nameIndex := 122, descriptorIndex := 50, attributes := #[] }, { accessFlags := 18, nameIndex := 34, descriptorIndex := 35, attributes := #[] }, { accessFlags := 18, nameIndex := 38, descriptorIndex := 39, attributes := #[] }, { accessFlags := 18, nameIndex := 42, descriptorIndex := 43, attributes := #[] }, { accessFlags := 18, nameIndex := 46, descriptorIndex := 43, attributes := #[] }, { accessFlags := 18, nameIndex := 49, descriptorIndex := 50, attributes := #[] }, { accessFlags := 18, nameIndex := 53, descriptorIndex := 50, attributes := #[] }, { accessFlags := 18, nameIndex := 56, descriptorIndex := 50, attributes := #[] }, { accessFlags := 18, nameIndex := 59, descriptorIndex := 35, attributes := #[] }])
  fields := #[{ name := "LANE_CAPACITY_VPH", type := .double, accessFlags := 25, slot := 0, constantValue := 0 }, { name := "KMH_PER_METRE_PER_SECOND", type := .double, accessFlags := 26, slot := 1, constantValue := 0 }, { name := "index", type := .int, accessFlags := 18, slot := 0, constantValue := 0 }, { name := "id", type := (.object "java/lang/String"), accessFlags := 18, slot := 1, constantValue := 0 }, { name := "from", type := (.object "com/example/nudged_routes/nudgedroutes/network/Node"), accessFlags := 18, slot := 2, constantValue := 0 }, { name := "to", type := (.object "com/example/nudged_routes/nudgedroutes/network/Node"), accessFlags := 18, slot := 3, constantValue := 0 }, { name := "capacityVph", type := .double, accessFlags := 18, slot := 4, constantValue := 0 }, { name := "lengthM", type := .double, accessFlags := 18, slot := 5, constantValue := 0 }, { name := "freeFlowTimeS", type := .double, accessFlags := 18, slot := 6, constantValue := 0 }, { name := "lanes", type := .int, accessFlags := 18, slot := 7, constantValue := 0 }]
  methods := #[k3m0, k3m1]
  instanceTypes := #[.int, (.object "java/lang/String"), (.object "com/example/nudged_routes/nudgedroutes/network/Node"), (.object "com/example/nudged_routes/nudgedroutes/network/Node"), .double, .double, .double, .int]
  staticTypes := #[.double, .double]
  resolved := Array.replicate 161 none
  statics := none }

def pool4 : Array CpInfo := pool [(1, .class_ 2), (0, u "java/io/Serializable"), (0, .class_ 4), (0, u "java/lang/Object")] 2

/-- java/io/Serializable -/
def k4 : Class := { plain "java/io/Serializable" (some 0) with
  accessFlags := 1537
  interfaces := #[]
  cf := some (fileOf pool4 1 #[] #[] 1537 3 #[] #[])
  fields := #[]
  methods := #[]
  instanceTypes := #[]
  staticTypes := #[]
  resolved := Array.replicate 7 none
  statics := none }

def pool5 : Array CpInfo := pool [(1, .class_ 2), (0, u "java/lang/Comparable"), (0, .class_ 4), (0, u "java/lang/Object")] 7

/-- java/lang/Comparable -/
def k5 : Class := { plain "java/lang/Comparable" (some 0) with
  accessFlags := 1537
  interfaces := #[]
  cf := some (fileOf pool5 1 #[] #[] 1537 3 #[] #[])
  fields := #[]
  methods := #[]
  instanceTypes := #[]
  staticTypes := #[]
  resolved := Array.replicate 12 none
  statics := none }

def pool6 : Array CpInfo := pool [(2, .class_ 4), (1, u "java/lang/CharSequence"), (42, .class_ 48), (0, u "java/lang/CharSequence$1CodePointIterator"), (10, .class_ 60), (0, u "java/lang/CharSequence$1CharIterator"), (5, .class_ 67), (0, u "java/lang/Object")] 63

/-- java/lang/CharSequence -/
def k6 : Class := { plain "java/lang/CharSequence" (some 0) with
  accessFlags := 1537
  interfaces := #[]
  cf := some (fileOf pool6 2 #[.nestMembers #[47, 59]] #[] 1537 66 #[] #[])
  fields := #[]
  methods := #[]
  instanceTypes := #[]
  staticTypes := #[]
  resolved := Array.replicate 131 none
  statics := none }

def pool7 : Array CpInfo := pool [(1, .class_ 2), (0, u "java/lang/constant/Constable"), (0, .class_ 4), (0, u "java/lang/Object")] 6

/-- java/lang/constant/Constable -/
def k7 : Class := { plain "java/lang/constant/Constable" (some 0) with
  accessFlags := 1537
  interfaces := #[]
  cf := some (fileOf pool7 1 #[] #[] 1537 3 #[] #[])
  fields := #[]
  methods := #[]
  instanceTypes := #[]
  staticTypes := #[]
  resolved := Array.replicate 11 none
  statics := none }

def pool8 : Array CpInfo := pool [(1, .class_ 2), (0, u "java/lang/constant/ConstantDesc"), (0, .class_ 4), (0, u "java/lang/Object")] 32

/-- java/lang/constant/ConstantDesc -/
def k8 : Class := { plain "java/lang/constant/ConstantDesc" (some 0) with
  accessFlags := 1537
  interfaces := #[]
  cf := some (fileOf pool8 1 #[] #[] 1537 3 #[] #[])
  fields := #[]
  methods := #[]
  instanceTypes := #[]
  staticTypes := #[]
  resolved := Array.replicate 37 none
  statics := none }

def pool9 : Array CpInfo := pool [(2, .class_ 4), (1, u "java/lang/Object"), (0, u "<init>"), (0, u "()V"), (3, .class_ 12), (1, u "java/lang/String"), (0, u "value"), (0, u "[B"), (2, u "coder"), (0, u "B"), (2, u "hash"), (0, u "I"), (2, u "hashIsZero"), (0, u "Z"), (13, u "COMPACT_STRINGS"), (534, .class_ 576), (0, u "java/lang/CharSequence"), (22, u "CASE_INSENSITIVE_ORDER"), (0, u "Ljava/util/Comparator;"), (500, u "serialPersistentFields"), (0, u "[Ljava/io/ObjectStreamField;"), (0, .class_ 1104), (0, u "java/lang/String$CaseInsensitiveComparator"), (1, .class_ 1107), (0, u "java/io/Serializable"), (0, .class_ 1109), (0, u "java/lang/Comparable"), (0, .class_ 1111), (0, u "java/lang/constant/Constable"), (0, .class_ 1113), (0, u "java/lang/constant/ConstantDesc"), (2, u "serialVersionUID"), (0, u "J"), (3, u "REPL"), (0, u "C"), (2, u "LATIN1"), (1, u "UTF16")] 323

def k9m0 : Method := { name := "<init>", desc := "()V", sig := { parameters := [], returnType := none }, accessFlags := 1, code := none }
/-- java/lang/String -/
def k9 : Class := { plain "java/lang/String" (some 0) with
  accessFlags := 49
  interfaces := #[4, 5, 6, 7, 8]
  cf := some (fileOf pool9 10 #[.nestMembers #[1103]] #[{ accessFlags := 1, nameIndex := 5, descriptorIndex := 6, attributes := #[] }] 49 2 #[1106, 1108, 575, 1110, 1112] #[{ accessFlags := 18, nameIndex := 13, descriptorIndex := 14, attributes := #[] }, { accessFlags := 18, nameIndex := 17, descriptorIndex := 18, attributes := #[] }, { accessFlags := 2, nameIndex := 21, descriptorIndex := 22, attributes := #[] }, { accessFlags := 2, nameIndex := 25, descriptorIndex := 26, attributes := #[] }, { accessFlags := 26, nameIndex := 1116, descriptorIndex := 1117, attributes := #[] }, { accessFlags := 24, nameIndex := 40, descriptorIndex := 26, attributes := #[] }, { accessFlags := 26, nameIndex := 1101, descriptorIndex := 1102, attributes := #[] }, { accessFlags := 26, nameIndex := 1121, descriptorIndex := 1122, attributes := #[] }, { accessFlags := 25, nameIndex := 599, descriptorIndex := 600, attributes := #[] }, { accessFlags := 24, nameIndex := 1125, descriptorIndex := 18, attributes := #[] }, { accessFlags := 24, nameIndex := 1127, descriptorIndex := 18, attributes := #[] }])
  fields := #[{ name := "value", type := (.array .byte), accessFlags := 18, slot := 0, constantValue := 0 }, { name := "coder", type := .byte, accessFlags := 18, slot := 1, constantValue := 0 }, { name := "hash", type := .int, accessFlags := 2, slot := 2, constantValue := 0 }, { name := "hashIsZero", type := .boolean, accessFlags := 2, slot := 3, constantValue := 0 }, { name := "serialVersionUID", type := .long, accessFlags := 26, slot := 0, constantValue := 0 }, { name := "COMPACT_STRINGS", type := .boolean, accessFlags := 24, slot := 1, constantValue := 0 }, { name := "serialPersistentFields", type := (.array (.object "java/io/ObjectStreamField")), accessFlags := 26, slot := 2, constantValue := 0 }, { name := "REPL", type := .char, accessFlags := 26, slot := 3, constantValue := 0 }, { name := "CASE_INSENSITIVE_ORDER", type := (.object "java/util/Comparator"), accessFlags := 25, slot := 4, constantValue := 0 }, { name := "LATIN1", type := .byte, accessFlags := 24, slot := 5, constantValue := 0 }, { name := "UTF16", type := .byte, accessFlags := 24, slot := 6, constantValue := 0 }]
  methods := #[k9m0]
  instanceTypes := #[(.array .byte), .byte, .int, .boolean]
  staticTypes := #[.long, .boolean, (.array (.object "java/io/ObjectStreamField")), .char, (.object "java/util/Comparator"), .byte, .byte]
  resolved := Array.replicate 1451 none
  statics := none }

def pool10 : Array CpInfo := pool [(1, .methodref 2 3), (0, .class_ 4), (0, .nameAndType 5 6), (0, u "java/lang/Object"), (0, u "<init>"), (0, u "()V"), (12, .methodref 20 21), (0, .class_ 22), (0, .nameAndType 23 24), (0, u "com/example/nudged_routes/nudgedroutes/network/Link"), (0, u "capacityVph"), (0, u "()D"), (7, .fieldref 33 34), (0, .class_ 35), (0, .nameAndType 36 37), (0, u "com/example/nudged_routes/nudgedroutes/network/Incident"), (0, u "link"), (0, u "Lcom/example/nudged_routes/nudgedroutes/network/Link;"), (0, .fieldref 33 39), (0, .nameAndType 40 41), (0, u "fromS"), (0, u "I"), (0, .fieldref 33 43), (0, .nameAndType 44 41), (0, u "toS"), (0, .fieldref 33 46), (0, .nameAndType 23 47), (0, u "D"), (0, u "(Lcom/example/nudged_routes/nudgedroutes/network/Link;IID)V"), (4, u "isInForceAt"), (0, u "(I)Z")] 23

def k10c0 : Code := { maxStack := 7, maxLocals := 6, code := prog_56_method_1_code, exceptionTable := #[], attributes := #[] }
def k10m0 : Method := { name := "<init>", desc := "(Lcom/example/nudged_routes/nudgedroutes/network/Link;IID)V", sig := { parameters := [(.object "com/example/nudged_routes/nudgedroutes/network/Link"), .int, .int, .double], returnType := none }, accessFlags := 1, code := some k10c0 }
def k10c1 : Code := { maxStack := 2, maxLocals := 2, code := prog_56_method_4_code, exceptionTable := #[], attributes := #[] }
def k10m1 : Method := { name := "isInForceAt", desc := "(I)Z", sig := { parameters := [.int], returnType := some .boolean }, accessFlags := 1, code := some k10c1 }
/-- com/example/nudged_routes/nudgedroutes/network/Incident -/
def k10 : Class := { plain "com/example/nudged_routes/nudgedroutes/network/Incident" (some 0) with
  accessFlags := 49
  interfaces := #[]
  cf := some (fileOf pool10 33 #[] #[{ accessFlags := 1, nameIndex := 5, descriptorIndex := 48, attributes := #[] }, { accessFlags := 1, nameIndex := 53, descriptorIndex := 54, attributes := #[] }] 49 2 #[] #[{ accessFlags := 18, nameIndex := 36, descriptorIndex := 37, attributes := #[] }, { accessFlags := 18, nameIndex := 40, descriptorIndex := 41, attributes := #[] }, { accessFlags := 18, nameIndex := 44, descriptorIndex := 41, attributes := #[] }, { accessFlags := 18, nameIndex := 23, descriptorIndex := 47, attributes := #[] }])
  fields := #[{ name := "link", type := (.object "com/example/nudged_routes/nudgedroutes/network/Link"), accessFlags := 18, slot := 0, constantValue := 0 }, { name := "fromS", type := .int, accessFlags := 18, slot := 1, constantValue := 0 }, { name := "toS", type := .int, accessFlags := 18, slot := 2, constantValue := 0 }, { name := "capacityVph", type := .double, accessFlags := 18, slot := 3, constantValue := 0 }]
  methods := #[k10m0, k10m1]
  instanceTypes := #[(.object "com/example/nudged_routes/nudgedroutes/network/Link"), .int, .int, .double]
  staticTypes := #[]
  resolved := Array.replicate 78 none
  statics := none }

def pool11 : Array CpInfo := pool [(1, u "java/lang/Cloneable"), (0, .class_ 1), (0, u "java/lang/Object"), (0, .class_ 3)] 3

/-- java/lang/Cloneable -/
def k11 : Class := { plain "java/lang/Cloneable" (some 0) with
  accessFlags := 1537
  interfaces := #[]
  cf := some (fileOf pool11 2 #[] #[] 1537 4 #[] #[])
  fields := #[]
  methods := #[]
  instanceTypes := #[]
  staticTypes := #[]
  resolved := Array.replicate 8 none
  statics := none }

/-- the primitive byte -/
def k12 : Class := { plain "byte" none with kind := .primitive 'B', accessFlags := 0x411 }
/-- [B -/
def k13 : Class := { plain "[B" (some 0) with kind := .array 12 .byte, interfaces := #[11, 4], accessFlags := 1041 }

/-- the primitive int -/
def k14 : Class := { plain "int" none with kind := .primitive 'I', accessFlags := 0x411 }
/-- [I -/
def k15 : Class := { plain "[I" (some 0) with kind := .array 14 .int, interfaces := #[11, 4], accessFlags := 1041 }

def heap : Heap := #[]
def classes : Array Class := #[k0, k1, k2, k3, k4, k5, k6, k7, k8, k9, k10, k11, k12, k13, k14, k15]
def interned : List (Array UInt16 × Addr) := []
def slotsUsed : Nat := 0
def theMethod : MethodId := ⟨1, 1⟩
def args0 : Array Value := #[.int 5, .int 5, .int 5, .int 5]
def aboutOver (below : List Frame) : State where
  vm := { classes := classes, interned := interned.toArray }
  heap := heap
  slotsUsed := slotsUsed
  threads := #[{ frames := .invoking theMethod args0 :: below }]
def below0 : List Frame := [.native { method := ⟨0, 0⟩, args := #[] }]
def about1 : State := aboutOver below0
def p0 : Program := .bare "" "" ""
def e0 : Env := launch0.env 0 0 0
theorem w_frames : about1.frames = Frame.invoking theMethod args0 :: below0 := rfl
set_option maxRecDepth 65536 in
theorem w_args : argsFit about1.vm theMethod args0 = true := by decide +kernel
set_option maxRecDepth 65536 in
theorem w_heap : heapFits about1 = true := by decide +kernel
set_option maxRecDepth 65536 in
theorem w_runnable : about1.curStatus? = some .runnable := by decide +kernel
set_option maxRecDepth 65536 in
theorem w_alone : about1.alone = true := by decide +kernel
set_option maxRecDepth 65536 in
theorem w_named : about1.methodNamed? x = some theMethod := by decide +kernel
set_option maxRecDepth 65536 in
theorem w_hears : about1.hears theMethod below0 = true := by decide +kernel
set_option maxRecDepth 65536 in
theorem w_ripe : about1.ripe theMethod args0 below0 = true := by decide +kernel
theorem w_running : about1.status = .running := rfl
set_option maxRecDepth 65536 in
theorem w_room : about1.hasRoom e0.platform room_1 = true :=
  launch0.hasRoom_least _ room_1 (by decide +kernel) (by decide +kernel) (by decide +kernel) (by decide +kernel) (by decide +kernel) (by decide +kernel)
theorem allAtoms_all (ts : List Jvm.Cond) (a : Array Jvm.Value) (st : Jvm.State) : (allAtoms ts).before a st = ts.all (fun c => c.before a st) := by
  induction ts with
  | nil => rfl
  | cons c t ih =>
    show (Jvm.Cond.and c (allAtoms t)).before a st = _
    rw [Jvm.Cond.before_and, ih, List.all_cons]
def words1 : List Jvm.Cond := Jvm.Cond.code x code maxLocals ret :: tables_1
/-- a 'code' word, met by the world's own term for the bytes: nothing is compared byte by byte -/
theorem code_word {y : MethodName} {bytes : ByteArray} {mx : Nat} {rt : Option FieldType} {a : Array Value} {s : State} {m : MethodId} {meth : Method} {c : Code} (h1 : s.methodNamed? y = some m) (h2 : s.vm.method? m = some meth) (h3 : meth.code = some c) (h4 : c.code = bytes)
    (h5 : (c.maxLocals == mx && c.exceptionTable.isEmpty && decide (c.maxStack ≤ mostOperands) && decide (meth.sig.returnType = rt) && !meth.locks && decide (parseMethodDescriptor y.desc = some meth.sig)) = true) : (Jvm.Cond.code y bytes mx rt).before a s = true := by
  simp only [Bool.and_eq_true, beq_iff_eq, Bool.not_eq_true', decide_eq_true_eq] at h5
  obtain ⟨⟨⟨⟨⟨g1, g2⟩, g3⟩, g4⟩, g5⟩, g6⟩ := h5
  simp [Cond.before, Cond.holds, Cond.value, h1, h2, h3, h4, g1, g2, g3, g4, g5, g6]
def isCode : Jvm.Cond → Bool
  | .code _ _ _ _ => true
  | _ => false
theorem all_split {L : List Jvm.Cond} {P : Jvm.Cond → Bool} (h1 : L.all (fun c => isCode c || P c) = true) (h2 : ∀ c ∈ L.filter isCode, P c = true) : L.all P = true := by
  refine List.all_eq_true.mpr fun c hc => ?_
  have h := List.all_eq_true.mp h1 c hc
  rcases Bool.eq_false_or_eq_true (isCode c) with hi | hi
  · exact h2 c (List.mem_filter.mpr ⟨hc, hi⟩)
  · simpa [hi] using h
set_option maxRecDepth 65536 in
theorem w_c0 : (Jvm.Cond.code x code maxLocals ret).before args0 about1 = true := code_word (m := ⟨1, 1⟩) (meth := k1m1) (c := k1c1) (by decide +kernel) rfl rfl rfl (by decide +kernel)
set_option maxRecDepth 65536 in
theorem w_c1 : (Jvm.Cond.code ({ cls := "java/lang/Math", name := "min", desc := "(II)I" } : Jvm.MethodName) jdk_29_method_69_code (2 : Nat) (Option.some Jvm.ClassFile.FieldType.int)).before args0 about1 = true := code_word (m := ⟨2, 2⟩) (meth := k2m2) (c := k2c2) (by decide +kernel) rfl rfl rfl (by decide +kernel)
set_option maxRecDepth 65536 in
theorem w_c2 : (Jvm.Cond.code ({ cls := "java/lang/Math", name := "max", desc := "(II)I" } : Jvm.MethodName) jdk_29_method_65_code (2 : Nat) (Option.some Jvm.ClassFile.FieldType.int)).before args0 about1 = true := code_word (m := ⟨2, 1⟩) (meth := k2m1) (c := k2c1) (by decide +kernel) rfl rfl rfl (by decide +kernel)
set_option maxRecDepth 65536 in
theorem w_c3 : (Jvm.Cond.code ({ cls := "com/example/nudged_routes/nudgedroutes/network/Link", name := "<init>", desc := "(ILjava/lang/String;Lcom/example/nudged_routes/nudgedroutes/network/Node;Lcom/example/nudged_routes/nudgedroutes/network/Node;DDDI)V" } : Jvm.MethodName) prog_58_method_2_code (12 : Nat) (Option.none : Option Jvm.ClassFile.FieldType)).before args0 about1 = true := code_word (m := ⟨3, 0⟩) (meth := k3m0) (c := k3c0) (by decide +kernel) rfl rfl rfl (by decide +kernel)
set_option maxRecDepth 65536 in
theorem w_c4 : (Jvm.Cond.code ({ cls := "java/lang/Object", name := "<init>", desc := "()V" } : Jvm.MethodName) object_method_1_code (1 : Nat) (Option.none : Option Jvm.ClassFile.FieldType)).before args0 about1 = true := code_word (m := ⟨0, 0⟩) (meth := k0m0) (c := k0c0) (by decide +kernel) rfl rfl rfl (by decide +kernel)
set_option maxRecDepth 65536 in
theorem w_c5 : (Jvm.Cond.code ({ cls := "com/example/nudged_routes/nudgedroutes/network/Incident", name := "<init>", desc := "(Lcom/example/nudged_routes/nudgedroutes/network/Link;IID)V" } : Jvm.MethodName) prog_56_method_1_code (6 : Nat) (Option.none : Option Jvm.ClassFile.FieldType)).before args0 about1 = true := code_word (m := ⟨10, 0⟩) (meth := k10m0) (c := k10c0) (by decide +kernel) rfl rfl rfl (by decide +kernel)
set_option maxRecDepth 65536 in
theorem w_c6 : (Jvm.Cond.code ({ cls := "com/example/nudged_routes/nudgedroutes/network/Link", name := "capacityVph", desc := "()D" } : Jvm.MethodName) prog_58_method_7_code (1 : Nat) (Option.some Jvm.ClassFile.FieldType.double)).before args0 about1 = true := code_word (m := ⟨3, 1⟩) (meth := k3m1) (c := k3c1) (by decide +kernel) rfl rfl rfl (by decide +kernel)
set_option maxRecDepth 65536 in
theorem w_c7 : (Jvm.Cond.code ({ cls := "com/example/nudged_routes/nudgedroutes/network/Incident", name := "isInForceAt", desc := "(I)Z" } : Jvm.MethodName) prog_56_method_4_code (2 : Nat) (Option.some Jvm.ClassFile.FieldType.boolean)).before args0 about1 = true := code_word (m := ⟨10, 1⟩) (meth := k10m1) (c := k10c1) (by decide +kernel) rfl rfl rfl (by decide +kernel)
def codes1 : List Jvm.Cond := [Jvm.Cond.code x code maxLocals ret, Jvm.Cond.code ({ cls := "java/lang/Math", name := "min", desc := "(II)I" } : Jvm.MethodName) jdk_29_method_69_code (2 : Nat) (Option.some Jvm.ClassFile.FieldType.int), Jvm.Cond.code ({ cls := "java/lang/Math", name := "max", desc := "(II)I" } : Jvm.MethodName) jdk_29_method_65_code (2 : Nat) (Option.some Jvm.ClassFile.FieldType.int), Jvm.Cond.code ({ cls := "com/example/nudged_routes/nudgedroutes/network/Link", name := "<init>", desc := "(ILjava/lang/String;Lcom/example/nudged_routes/nudgedroutes/network/Node;Lcom/example/nudged_routes/nudgedroutes/network/Node;DDDI)V" } : Jvm.MethodName) prog_58_method_2_code (12 : Nat) (Option.none : Option Jvm.ClassFile.FieldType), Jvm.Cond.code ({ cls := "java/lang/Object", name := "<init>", desc := "()V" } : Jvm.MethodName) object_method_1_code (1 : Nat) (Option.none : Option Jvm.ClassFile.FieldType), Jvm.Cond.code ({ cls := "com/example/nudged_routes/nudgedroutes/network/Incident", name := "<init>", desc := "(Lcom/example/nudged_routes/nudgedroutes/network/Link;IID)V" } : Jvm.MethodName) prog_56_method_1_code (6 : Nat) (Option.none : Option Jvm.ClassFile.FieldType), Jvm.Cond.code ({ cls := "com/example/nudged_routes/nudgedroutes/network/Link", name := "capacityVph", desc := "()D" } : Jvm.MethodName) prog_58_method_7_code (1 : Nat) (Option.some Jvm.ClassFile.FieldType.double), Jvm.Cond.code ({ cls := "com/example/nudged_routes/nudgedroutes/network/Incident", name := "isInForceAt", desc := "(I)Z" } : Jvm.MethodName) prog_56_method_4_code (2 : Nat) (Option.some Jvm.ClassFile.FieldType.boolean)]
set_option maxRecDepth 65536 in
theorem codes_eq : words1.filter isCode = codes1 := rfl
theorem w_codes : ∀ c ∈ words1.filter isCode, c.before args0 about1 = true := by
  rw [codes_eq]
  intro c hc
  simp only [codes1, List.mem_cons, List.not_mem_nil, or_false] at hc
  rcases hc with rfl | rfl | rfl | rfl | rfl | rfl | rfl | rfl
  · exact w_c0
  · exact w_c1
  · exact w_c2
  · exact w_c3
  · exact w_c4
  · exact w_c5
  · exact w_c6
  · exact w_c7
set_option maxRecDepth 65536 in
theorem w_t1 : (words1.take 24).all (fun c => isCode c || c.before args0 about1) = true := by decide +kernel
set_option maxRecDepth 65536 in
theorem w_t2 : ((words1.drop 24).take 24).all (fun c => isCode c || c.before args0 about1) = true := by decide +kernel
set_option maxRecDepth 65536 in
theorem w_t3 : ((words1.drop 24).drop 24).all (fun c => isCode c || c.before args0 about1) = true := by decide +kernel
theorem w_tables : (allAtoms (Jvm.Cond.code x code maxLocals ret :: tables_1)).before args0 about1 = true := by
  rw [allAtoms_all]
  show words1.all (fun c => c.before args0 about1) = true
  refine all_split ?_ w_codes
  rw [← List.take_append_drop 24 words1, List.all_append, w_t1, ← List.take_append_drop 24 (words1.drop 24), List.all_append, w_t2, w_t3]
  rfl
set_option maxRecDepth 65536 in
theorem w_case : (Jvm.Cond.and given_1 narrow_1).before args0 about1 = true := by decide +kernel
theorem w_applies : (headSpec (Jvm.Cond.code x code maxLocals ret :: tables_1) room_1).applies x e0.platform about1 = true :=
  (Spec.applies_iff w_frames).mpr ⟨w_running, w_runnable, w_alone, w_named, w_hears, w_ripe, w_room, w_tables⟩
theorem atStart : AtStart classFile x code maxLocals ret World_1 tables_1 room_1 Calls_1 rest_1 Pre_1 launch0 p0 e0 about1 theMethod args0 below0 :=
  ⟨lists_1, trivial, launch0.admits_env _ _ _, launch0.least_env, fairChoices_fair.cas, fairChoices_fair.clock, w_frames, w_args, w_heap, w_applies, trivial, trivial, w_case⟩
end start1
theorem witness_1 : WitnessClaimed_1 := ⟨start1.p0, start1.e0, start1.about1, start1.theMethod, start1.args0, start1.below0, start1.atStart⟩
end Jvm.Pilot.@@N@@
