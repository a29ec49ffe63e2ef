import JvmDerived
import JvmDerived.Pilot.@@N@@Statement
import JvmDerived.Pilot.@@N@@Code
set_option linter.unusedVariables false
set_option linter.unusedSimpArgs false
@@BLOCK:NumsL.lean.txt@@
namespace Jvm.RoadKit
open Sem ClassFile Op Lib Jvm.Stand Jvm.Free Jvm.LawKit
section OwnSteps
variable {tb : Tables} [Ours tb] {e : Env} {below : List Frame} {T target : State} {m : MethodId} {c : Code} {g : JFrame}
theorem own_dloadN (h : At T m c below) (hx : tb.exec = Jvm.exec) (hg : g.method = m) {k : Fin 4} {v : UInt64} (hd : decode c.code g.pc = .ok (.dload_n k, 1)) (hl : g.locals[k.val]? = some (.val (.double v)))
    (hr : Steps tb e below (T.setTop { g with pc := g.pc + 1, stack := .double v :: g.stack }) target) : Steps tb e below (T.setTop g) target := by
  subst hg
  jvm_step h [h.top, hx, hd, hl]
  exact hr
theorem own_dload (h : At T m c below) (hx : tb.exec = Jvm.exec) (hg : g.method = m) {k : Nat} {v : UInt64} (hd : decode c.code g.pc = .ok (.dload k, 2)) (hl : g.locals[k]? = some (.val (.double v)))
    (hr : Steps tb e below (T.setTop { g with pc := g.pc + 2, stack := .double v :: g.stack }) target) : Steps tb e below (T.setTop g) target := by
  subst hg
  jvm_step h [h.top, hx, hd, hl]
  exact hr
theorem own_dstoreN (h : At T m c below) (hx : tb.exec = Jvm.exec) (hg : g.method = m) {k : Fin 4} {x : UInt64} {rest : List Value} {l' : Array Slot} (hd : decode c.code g.pc = .ok (.dstore_n k, 1)) (hs : g.stack = .double x :: rest) (hl : storeLocals g.locals k.val (.double x) = some l')
    (hr : Steps tb e below (T.setTop { g with pc := g.pc + 1, stack := rest, locals := l' }) target) : Steps tb e below (T.setTop g) target := by
  subst hg
  jvm_step h [h.top, hx, hd, hs, hl]
  exact hr
theorem own_dstore (h : At T m c below) (hx : tb.exec = Jvm.exec) (hg : g.method = m) {k : Nat} {x : UInt64} {rest : List Value} {l' : Array Slot} (hd : decode c.code g.pc = .ok (.dstore k, 2)) (hs : g.stack = .double x :: rest) (hl : storeLocals g.locals k (.double x) = some l')
    (hr : Steps tb e below (T.setTop { g with pc := g.pc + 2, stack := rest, locals := l' }) target) : Steps tb e below (T.setTop g) target := by
  subst hg
  jvm_step h [h.top, hx, hd, hs, hl]
  exact hr
theorem own_i2d (h : At T m c below) (hx : tb.exec = Jvm.exec) (hg : g.method = m) {x : Int32} {rest : List Value} (hd : decode c.code g.pc = .ok (.i2d, 1)) (hs : g.stack = .int x :: rest)
    (hr : Steps tb e below (T.setTop { g with pc := g.pc + 1, stack := .double (FP.i2d x) :: rest }) target) : Steps tb e below (T.setTop g) target := by
  subst hg
  jvm_step h [h.top, hx, hd, hs]
  exact hr
theorem own_l2d (h : At T m c below) (hx : tb.exec = Jvm.exec) (hg : g.method = m) {x : Int64} {rest : List Value} (hd : decode c.code g.pc = .ok (.l2d, 1)) (hs : g.stack = .long x :: rest)
    (hr : Steps tb e below (T.setTop { g with pc := g.pc + 1, stack := .double (FP.l2d x) :: rest }) target) : Steps tb e below (T.setTop g) target := by
  subst hg
  jvm_step h [h.top, hx, hd, hs]
  exact hr
theorem own_d2l (h : At T m c below) (hx : tb.exec = Jvm.exec) (hg : g.method = m) {x : UInt64} {rest : List Value} (hd : decode c.code g.pc = .ok (.d2l, 1)) (hs : g.stack = .double x :: rest)
    (hr : Steps tb e below (T.setTop { g with pc := g.pc + 1, stack := .long (FP.d2l x) :: rest }) target) : Steps tb e below (T.setTop g) target := by
  subst hg
  jvm_step h [h.top, hx, hd, hs]
  exact hr
theorem own_d2i (h : At T m c below) (hx : tb.exec = Jvm.exec) (hg : g.method = m) {x : UInt64} {rest : List Value} (hd : decode c.code g.pc = .ok (.d2i, 1)) (hs : g.stack = .double x :: rest)
    (hr : Steps tb e below (T.setTop { g with pc := g.pc + 1, stack := .int (FP.d2i x) :: rest }) target) : Steps tb e below (T.setTop g) target := by
  subst hg
  jvm_step h [h.top, hx, hd, hs]
  exact hr
theorem own_dneg (h : At T m c below) (hx : tb.exec = Jvm.exec) (hg : g.method = m) {x : UInt64} {rest : List Value} (hd : decode c.code g.pc = .ok (.dneg, 1)) (hs : g.stack = .double x :: rest)
    (hr : Steps tb e below (T.setTop { g with pc := g.pc + 1, stack := .double (FP.dneg x) :: rest }) target) : Steps tb e below (T.setTop g) target := by
  subst hg
  jvm_step h [h.top, hx, hd, hs]
  exact hr
theorem own_dcmp (h : At T m c below) (hx : tb.exec = Jvm.exec) (hg : g.method = m) {op : CmpOp} {x y : UInt64} {rest : List Value} (hd : decode c.code g.pc = .ok (.dcmp op, 1)) (hs : g.stack = .double y :: .double x :: rest)
    (hr : Steps tb e below (T.setTop { g with pc := g.pc + 1, stack := .int (cmpValue (FP.dcmp x y) op) :: rest }) target) : Steps tb e below (T.setTop g) target := by
  subst hg
  jvm_step h [h.top, hx, hd, hs]
  exact hr
theorem own_dconst0 (h : At T m c below) (hx : tb.exec = Jvm.exec) (hg : g.method = m) (hd : decode c.code g.pc = .ok (.dconst 0, 1))
    (hr : Steps tb e below (T.setTop { g with pc := g.pc + 1, stack := .double (0 : UInt64) :: g.stack }) target) : Steps tb e below (T.setTop g) target := by
  subst hg
  jvm_step h [h.top, hx, hd]
  exact hr
theorem own_dconst1 (h : At T m c below) (hx : tb.exec = Jvm.exec) (hg : g.method = m) (hd : decode c.code g.pc = .ok (.dconst 1, 1))
    (hr : Steps tb e below (T.setTop { g with pc := g.pc + 1, stack := .double (4607182418800017408 : UInt64) :: g.stack }) target) : Steps tb e below (T.setTop g) target := by
  subst hg
  jvm_step h [h.top, hx, hd]
  exact hr
/-- no NaN, as the steps' law asks it -/
abbrev OwnNum (x : UInt64) : Prop := x &&& 0x7fffffffffffffff ≤ 0x7ff0000000000000
theorem own_dadd (h : At T m c below) (hx : tb.exec = Jvm.exec) (hg : g.method = m) {x y : UInt64} {rest : List Value} (hd : decode c.code g.pc = .ok (.dadd, 1)) (hs : g.stack = .double y :: .double x :: rest) (hn : OwnNum (FP.dadd x y))
    (hr : Steps tb e below (T.setTop { g with pc := g.pc + 1, stack := .double (FP.dadd x y) :: rest }) target) : Steps tb e below (T.setTop g) target := by
  subst hg
  obtain ⟨gm, gpc, gl, gs, gk, ge, gr⟩ := g
  cases hs
  jvm_step h [h.top, hx, hd, Op.dadd.at_number h.top hn]
  exact hr
theorem own_dsub (h : At T m c below) (hx : tb.exec = Jvm.exec) (hg : g.method = m) {x y : UInt64} {rest : List Value} (hd : decode c.code g.pc = .ok (.dsub, 1)) (hs : g.stack = .double y :: .double x :: rest) (hn : OwnNum (FP.dsub x y))
    (hr : Steps tb e below (T.setTop { g with pc := g.pc + 1, stack := .double (FP.dsub x y) :: rest }) target) : Steps tb e below (T.setTop g) target := by
  subst hg
  obtain ⟨gm, gpc, gl, gs, gk, ge, gr⟩ := g
  cases hs
  jvm_step h [h.top, hx, hd, Op.dsub.at_number h.top hn]
  exact hr
theorem own_dmul (h : At T m c below) (hx : tb.exec = Jvm.exec) (hg : g.method = m) {x y : UInt64} {rest : List Value} (hd : decode c.code g.pc = .ok (.dmul, 1)) (hs : g.stack = .double y :: .double x :: rest) (hn : OwnNum (FP.dmul x y))
    (hr : Steps tb e below (T.setTop { g with pc := g.pc + 1, stack := .double (FP.dmul x y) :: rest }) target) : Steps tb e below (T.setTop g) target := by
  subst hg
  obtain ⟨gm, gpc, gl, gs, gk, ge, gr⟩ := g
  cases hs
  jvm_step h [h.top, hx, hd, Op.dmul.at_number h.top hn]
  exact hr
theorem own_ddiv (h : At T m c below) (hx : tb.exec = Jvm.exec) (hg : g.method = m) {x y : UInt64} {rest : List Value} (hd : decode c.code g.pc = .ok (.ddiv, 1)) (hs : g.stack = .double y :: .double x :: rest) (hn : OwnNum (FP.ddiv x y))
    (hr : Steps tb e below (T.setTop { g with pc := g.pc + 1, stack := .double (FP.ddiv x y) :: rest }) target) : Steps tb e below (T.setTop g) target := by
  subst hg
  obtain ⟨gm, gpc, gl, gs, gk, ge, gr⟩ := g
  cases hs
  jvm_step h [h.top, hx, hd, Op.ddiv.at_number h.top hn]
  exact hr
end OwnSteps
/-- the run from S ends by a return, with what Q says of its value, the heap and the places written -/
def Go (tb : Tables) (e : Env) (below : List Frame) (s : State) (k n : Nat) (Q : Option Value → Heap → List Loc → Prop) (S : State) : Prop :=
  ∃ s₂ o, Steps tb e below S s₂ ∧ s₂.status = .running ∧ Ended s₂ below o ∧ ∃ v L, o = .returned v ∧ Q v s₂.heap L ∧ FrameEnd s o s₂ L k n
theorem Go.adv {tb : Tables} {e : Env} {below : List Frame} {s : State} {k n : Nat} {Q : Option Value → Heap → List Loc → Prop} {S S' : State} (h : ∀ t, Steps tb e below S' t → Steps tb e below S t) (g : Go tb e below s k n Q S') : Go tb e below s k n Q S := by
  obtain ⟨s₂, o, h1, h2⟩ := g
  exact ⟨s₂, o, h _ h1, h2⟩
theorem Go.tr {tb : Tables} {e : Env} {below : List Frame} {s : State} {k n : Nat} {Q : Option Value → Heap → List Loc → Prop} {S S' : State} (h : Steps tb e below S S') (g : Go tb e below s k n Q S') : Go tb e below s k n Q S := by
  obtain ⟨s₂, o, h1, h2⟩ := g
  exact ⟨s₂, o, h.trans h1, h2⟩
theorem Go.start {tb : Tables} {e : Env} {below : List Frame} {s : State} {k n : Nat} {Q : Option Value → Heap → List Loc → Prop} {T : State} {g g' : JFrame} (q : g = g') (h : Go tb e below s k n Q (T.setTop g')) :
    ∃ s₂ o, Steps tb e below (T.setTop g) s₂ ∧ s₂.status = .running ∧ Ended s₂ below o ∧ ∃ v L, o = .returned v ∧ Q v s₂.heap L ∧ FrameEnd s o s₂ L k n := by
  subst q; exact h
theorem own_staKeep0 {Z : State} {h h' : Heap} {C n d : String} {w : Value} (F : Sta Z h C n d w) (K : Keep h h' []) : Sta Z h' C n d w := by
  obtain ⟨cf, i, k, f, st, cell, h1, h2, h3, h4, h5, h6, h7⟩ := F
  exact ⟨cf, i, k, f, st, cell, h1, h2, h3, h4, K.2.1 st cell h5 nin0, h6, h7⟩
theorem own_staKeep {Z : State} {h h' : Heap} {C n d D : String} {w : Value} {a : Addr} (F : Sta Z h C n d w) (K : Keep h h' [a]) (E : Exa Z h a D) : Sta Z h' C n d w := by
  obtain ⟨cf, i, k, f, st, cell, h1, h2, h3, h4, h5, h6, h7⟩ := F
  obtain ⟨c2, k2, e1, -, -, e4, -⟩ := E
  refine ⟨cf, i, k, f, st, cell, h1, h2, h3, h4, K.2.1 st cell h5 fun hm => ?_, h6, h7⟩
  cases List.mem_singleton.mp hm
  cases h5.symm.trans e1
  rw [h6] at e4; cases e4
section OwnRet
variable {p : Program} {l : Launch} {e : Env} {R : Room} {s : State} {m : MethodId} {args : Array Value} {below : List Frame} {meth : Method} {c : Code} {T : State} {locs : List Loc} {cells slots : Nat}
theorem Go.ret (X : Stand p l e R s m args below meth c T locs cells slots) {v : Option Value} (hv : meth.sig.returnType = none → v = none) (hlk : meth.locks = false) {k n : Nat} {Q : Option Value → Heap → List Loc → Prop} {S : State}
    (hs : ∀ fs, (∀ (f : JFrame) (acts : List Action), f.method = m → f.locked = none → f.entered = [] → (doReturn e (T.setTop f) acts v).1 = T.setFrames fs) → Steps p.tables e below S (T.setFrames fs))
    (hQ : Q v T.heap locs) (hk : cells ≤ k) (hn : slots ≤ n) : Go p.tables e below s k n Q S := by
  obtain ⟨fs, hr, hrun, hended, hW, hsame⟩ := X.leave (v := v) hv hlk
  exact ⟨_, _, hs fs hr, hrun, hended, _, _, rfl, hQ, ⟨_, rfl⟩, hW, hsame.mono hk hn⟩
/-- the same, where String constants may have been made: the wide frame -/
def GoW (tb : Tables) (e : Env) (below : List Frame) (s : State) (k n : Nat) (Q : Option Value → Heap → List Loc → Prop) (S : State) : Prop :=
  ∃ s₂ o, Steps tb e below S s₂ ∧ s₂.status = .running ∧ Ended s₂ below o ∧ ∃ v L, o = .returned v ∧ Q v s₂.heap L ∧ ReturnedEndW s o s₂ L k n
theorem GoW.adv {tb : Tables} {e : Env} {below : List Frame} {s : State} {k n : Nat} {Q : Option Value → Heap → List Loc → Prop} {S S' : State} (h : ∀ t, Steps tb e below S' t → Steps tb e below S t) (g : GoW tb e below s k n Q S') : GoW tb e below s k n Q S := by
  obtain ⟨s₂, o, h1, h2⟩ := g
  exact ⟨s₂, o, h _ h1, h2⟩
theorem GoW.tr {tb : Tables} {e : Env} {below : List Frame} {s : State} {k n : Nat} {Q : Option Value → Heap → List Loc → Prop} {S S' : State} (h : Steps tb e below S S') (g : GoW tb e below s k n Q S') : GoW tb e below s k n Q S := by
  obtain ⟨s₂, o, h1, h2⟩ := g
  exact ⟨s₂, o, h.trans h1, h2⟩
theorem GoW.start {tb : Tables} {e : Env} {below : List Frame} {s : State} {k n : Nat} {Q : Option Value → Heap → List Loc → Prop} {T : State} {g g' : JFrame} (q : g = g') (h : GoW tb e below s k n Q (T.setTop g')) :
    ∃ s₂ o, Steps tb e below (T.setTop g) s₂ ∧ s₂.status = .running ∧ Ended s₂ below o ∧ ∃ v L, o = .returned v ∧ Q v s₂.heap L ∧ ReturnedEndW s o s₂ L k n := by
  subst q; exact h
theorem GoW.ret {vm : Vm} (X : Stand p l e R (s.setVm vm) m args below meth c T locs cells slots) {kk : Nat} (hS : s.Since vm kk) (hkk : kk ≤ T.heap.size) {v : Option Value} (hv : meth.sig.returnType = none → v = none) (hlk : meth.locks = false) {k n : Nat} {Q : Option Value → Heap → List Loc → Prop} {S : State}
    (hs : ∀ fs, (∀ (f : JFrame) (acts : List Action), f.method = m → f.locked = none → f.entered = [] → (doReturn e (T.setTop f) acts v).1 = T.setFrames fs) → Steps p.tables e below S (T.setFrames fs))
    (hQ : Q v T.heap locs) (hk : cells ≤ k) (hn : slots ≤ n) : GoW p.tables e below s k n Q S := by
  obtain ⟨fs, hr, hrun, hended, h1, h2, h3, h4⟩ := X.leaveW hS hkk (v := v) hv hlk
  exact ⟨_, _, hs fs hr, hrun, hended, _, _, rfl, hQ, h1, h2, h3, h4.mono hk hn⟩
end OwnRet
end Jvm.RoadKit
namespace Jvm.Own
open Jvm.FP.Core
/-- a datum times 2^k -/
def sh (k : Int) : Datum → Datum
  | .nan => .nan
  | .inf s => .inf s
  | .fin s c q => .fin s c (q + k)
/-- the double a is i / 2^k -/
def Dy (k : Nat) (i : Int) (a : UInt64) : Prop := Whole i (sh k (val64 a))
theorem whole_shape {i : Int} {d : Datum} (h : Whole i d) : ∃ s c q, d = .fin s c q := by
  cases d with
  | nan => exact h.elim
  | inf => exact h.elim
  | fin s c q => exact ⟨s, c, q, rfl⟩
theorem sh_shape {k : Int} {i : Int} {d : Datum} (h : Whole i (sh k d)) : ∃ s c q, d = .fin s c q := by
  cases d with
  | nan => exact h.elim
  | inf => exact h.elim
  | fin s c q => exact ⟨s, c, q, rfl⟩
theorem units_sh (c : Nat) (q e k : Int) : inUnits c (q + k) (e + k) = inUnits c q e := by
  show c * 2 ^ (q + k - (e + k)).toNat = c * 2 ^ (q - e).toNat
  rw [show q + k - (e + k) = q - e by omega]
theorem sum_sh (k : Int) (s : Bool) (c : Nat) (q : Int) (t : Bool) (d : Nat) (r : Int) : exactSum (.fin s c (q + k)) (.fin t d (r + k)) = sh k (exactSum (.fin s c q) (.fin t d r)) := by
  have hm : min (q + k) (r + k) = min q r + k := by omega
  have hu : sumUnits s c (q + k) t d (r + k) (min q r + k) = sumUnits s c q t d r (min q r) := by
    show signed s (inUnits c (q + k) (min q r + k)) + signed t (inUnits d (r + k) (min q r + k)) = signed s (inUnits c q (min q r)) + signed t (inUnits d r (min q r))
    rw [units_sh, units_sh]
  show Datum.fin (sumSign s t (sumUnits s c (q + k) t d (r + k) (min (q + k) (r + k)))) (sumUnits s c (q + k) t d (r + k) (min (q + k) (r + k))).natAbs (min (q + k) (r + k)) = Datum.fin (sumSign s t (sumUnits s c q t d r (min q r))) (sumUnits s c q t d r (min q r)).natAbs (min q r + k)
  rw [hm, hu]
theorem round_sh {k : Nat} (hk : k ≤ 900) {i : Int} (hi : i.natAbs ≤ 2 ^ 53) {d : Datum} (h : Whole i (sh k d)) : Whole i (sh k (round b64 d)) := by
  obtain ⟨s, c, q, rfl⟩ := sh_shape h
  have h' : Whole i (.fin s c (q + k)) := h
  by_cases h0 : i = 0
  · have hc : c = 0 := (whole_zero h').mpr h0
    subst hc
    subst h0
    have e1 : round b64 (.fin s 0 q) = .fin s 0 b64.qmin := (if_pos rfl : roundRatio b64 s 0 1 q = _)
    rw [e1]
    show signed s (0 * 2 ^ (b64.qmin + k).toNat) = 0 * _
    rw [Nat.zero_mul, Int.zero_mul]
    exact signed_zero s
  · obtain ⟨c0, q0, hfit, hv⟩ := natFit good_b64 wide_b64 s (n := i.natAbs) (show _ ≤ 2 ^ 53 from hi)
    have hs := whole_sign h' h0
    have hn := whole_natAbs h'
    have hW : Whole i (.fin s i.natAbs 0) := by rw [hs]; exact whole_ofInt i
    have e1 : round b64 (.fin s i.natAbs 0) = .fin s c0 q0 := roundRatio_exact good_b64 (by decide) hfit hv
    have hW2 := whole_round good_b64 wide_b64 (show _ ≤ 2 ^ 53 from hi) hW
    rw [e1] at hW2
    have hq : -100 ≤ q0 := by
      refine Int.not_lt.mp fun hlt => ?_
      have p1 : (q0 - 0).toNat = 0 := by omega
      have p2 : 2 ^ 101 ≤ 2 ^ (0 - q0).toNat := Nat.pow_le_pow_right (by decide) (by omega)
      have p3 : 1 * 2 ^ (0 - q0).toNat ≤ i.natAbs * 2 ^ (0 - q0).toNat := Nat.mul_le_mul_right _ (by omega)
      have p4 : c0 < 2 ^ 53 := hfit.1
      rw [hv, p1, Nat.pow_zero, Nat.mul_one, Nat.mul_one, Nat.one_mul] at p3
      have p5 : (2 : Nat) ^ 53 ≤ 2 ^ 101 := Nat.pow_le_pow_right (by decide) (by decide)
      exact absurd (Nat.lt_of_le_of_lt (Nat.le_trans p2 p3) p4) (Nat.not_lt.mpr p5)
    have hfit' : Jvm.FP.Core.fits b64 (.fin s c0 (q0 - k)) := by
      obtain ⟨f1, f2, f3, f4⟩ := hfit
      refine ⟨f1, ?_, by omega, Or.inr ?_⟩
      · rw [qmin_b64]; omega
      · rcases f4 with f4 | f4
        · rw [qmin_b64] at f4; omega
        · exact f4
    have e2 : round b64 (.fin s c q) = .fin s c0 (q0 - k) := by
      show roundRatio b64 s c 1 q = _
      rw [roundRatio_congr (A' := i.natAbs) (B' := 1) (e' := -(k : Int)) (by decide) (by decide) (by
        rw [show q - -(k : Int) = q + k by omega, show -(k : Int) - q = -(q + k) by omega, Nat.mul_one, Nat.mul_one]; exact hn)]
      exact roundRatio_exact good_b64 (by decide) hfit' (by
        rw [show -(k : Int) - (q0 - k) = 0 - q0 by omega, show q0 - k - -(k : Int) = q0 - 0 by omega]; exact hv)
    rw [e2]
    show Whole i (.fin s c0 (q0 - k + k))
    rw [Int.sub_add_cancel]
    exact hW2
theorem Dy.of {i : Int} {a : UInt64} (h : DInt i a) : Dy 0 i a := by
  have h1 : Whole i (val64 a) := h
  obtain ⟨s, c, q, e⟩ := whole_shape h1
  show Whole i (sh 0 (val64 a))
  rw [e] at h1 ⊢
  show Whole i (.fin s c (q + 0))
  rw [Int.add_zero]; exact h1
theorem Dy.int {i : Int} {a : UInt64} (h : Dy 0 i a) : DInt i a := by
  have h1 : Whole i (sh 0 (val64 a)) := h
  obtain ⟨s, c, q, e⟩ := sh_shape h1
  show Whole i (val64 a)
  rw [e] at h1 ⊢
  have h2 : Whole i (.fin s c (q + 0)) := h1
  rw [Int.add_zero] at h2; exact h2
theorem Dy.fin {k : Nat} {i : Int} {a : UInt64} (h : Dy k i a) : DFin a := sh_shape h
theorem Dy.add {k : Nat} {i j : Int} {a b : UInt64} (ha : Dy k i a) (hb : Dy k j b) (hk : k ≤ 900) (h : (i + j).natAbs ≤ 2 ^ 53) : Dy k (i + j) (dadd a b) := by
  show Whole _ (sh k (val64 (dadd a b)))
  rw [val64_dadd]
  refine round_sh hk h ?_
  have ha' : Whole i (sh k (val64 a)) := ha
  have hb' : Whole j (sh k (val64 b)) := hb
  obtain ⟨s, c, q, e1⟩ := sh_shape ha'
  obtain ⟨t, d, r, e2⟩ := sh_shape hb'
  rw [e1] at ha' ⊢
  rw [e2] at hb' ⊢
  rw [← sum_sh]
  exact whole_sum ha' hb'
theorem Dy.sub {k : Nat} {i j : Int} {a b : UInt64} (ha : Dy k i a) (hb : Dy k j b) (hk : k ≤ 900) (h : (i - j).natAbs ≤ 2 ^ 53) : Dy k (i - j) (dsub a b) := by
  show Whole _ (sh k (val64 (dsub a b)))
  rw [val64_dsub]
  refine round_sh hk h ?_
  have ha' : Whole i (sh k (val64 a)) := ha
  have hb' : Whole j (sh k (val64 b)) := hb
  obtain ⟨s, c, q, e1⟩ := sh_shape ha'
  obtain ⟨t, d, r, e2⟩ := sh_shape hb'
  rw [e1] at ha' ⊢
  rw [e2] at hb' ⊢
  show Whole (i - j) (sh k (exactSum (.fin s c q) (.fin (!t) d r)))
  rw [← sum_sh]
  exact whole_sum ha' (whole_negate hb')
theorem Dy.mul {k n : Nat} {i j : Int} {a b : UInt64} (ha : Dy k i a) (hb : Dy n j b) (hk : k + n ≤ 900) (h : (i * j).natAbs ≤ 2 ^ 53) : Dy (k + n) (i * j) (dmul a b) := by
  show Whole _ (sh ((k + n : Nat) : Int) (val64 (dmul a b)))
  rw [val64_dmul]
  refine round_sh hk h ?_
  have ha' : Whole i (sh k (val64 a)) := ha
  have hb' : Whole j (sh n (val64 b)) := hb
  obtain ⟨s, c, q, e1⟩ := sh_shape ha'
  obtain ⟨t, d, r, e2⟩ := sh_shape hb'
  rw [e1] at ha' ⊢
  rw [e2] at hb' ⊢
  have hp : Whole (i * j) (.fin (s != t) (c * d) ((q + k) + (r + n))) := whole_product ha' hb'
  show Whole (i * j) (.fin (s != t) (c * d) (q + r + ((k + n : Nat) : Int)))
  rw [show q + r + ((k + n : Nat) : Int) = (q + k) + (r + n) by omega]
  exact hp
theorem Dy.cmp {k : Nat} {i j : Int} {a b : UInt64} (ha : Dy k i a) (hb : Dy k j b) : dcmp a b = some (compare i j) := by
  have ha' : Whole i (sh k (val64 a)) := ha
  have hb' : Whole j (sh k (val64 b)) := hb
  show order (val64 a) (val64 b) = _
  obtain ⟨s, c, q, e1⟩ := sh_shape ha'
  obtain ⟨t, d, r, e2⟩ := sh_shape hb'
  rw [e1] at ha' ⊢
  rw [e2] at hb' ⊢
  rw [← order_whole ha' hb']
  show some (compare (signed s (inUnits c q (min q r))) (signed t (inUnits d r (min q r)))) = some (compare (signed s (inUnits c (q + k) (min (q + k) (r + k)))) (signed t (inUnits d (r + k) (min (q + k) (r + k)))))
  rw [show min (q + (k : Int)) (r + k) = min q r + k by omega, units_sh, units_sh]
theorem whole_up {i : Int} {s : Bool} {c : Nat} {q : Int} (n : Nat) (h : Whole i (.fin s c q)) : Whole (i * ((2 ^ n : Nat) : Int)) (.fin s c (q + n)) := by
  have h1 : signed s (c * 2 ^ q.toNat) = i * ((2 ^ (-q).toNat : Nat) : Int) := h
  show signed s (c * 2 ^ (q + n).toNat) = i * ((2 ^ n : Nat) : Int) * ((2 ^ (-(q + n)).toNat : Nat) : Int)
  have p2 : ((2 ^ (-q).toNat : Nat) : Int) ≠ 0 := by
    have := Nat.two_pow_pos (-q).toNat; omega
  refine Int.eq_of_mul_eq_mul_right p2 ?_
  have hx : (q + n).toNat + (-q).toNat = q.toNat + (n + (-(q + n)).toNat) := by omega
  rw [← signed_mul, Nat.mul_assoc, ← Nat.pow_add, hx, Nat.pow_add, ← Nat.mul_assoc, signed_mul, h1, Nat.pow_add, Int.natCast_mul]
  ac_rfl
theorem Dy.up {k : Nat} {i : Int} {a : UInt64} (n : Nat) (h : Dy k i a) : Dy (k + n) (i * ((2 ^ n : Nat) : Int)) a := by
  have h1 : Whole i (sh k (val64 a)) := h
  obtain ⟨s, c, q, e⟩ := sh_shape h1
  show Whole _ (sh ((k + n : Nat) : Int) (val64 a))
  rw [e] at h1 ⊢
  have h2 : Whole i (.fin s c (q + k)) := h1
  have h3 := whole_up n h2
  show Whole _ (.fin s c (q + ((k + n : Nat) : Int)))
  rw [show q + ((k + n : Nat) : Int) = q + k + n by omega]
  exact h3
/-- divided by 2^n -/
theorem Dy.div2 {k n : Nat} {i : Int} {a b : UInt64} {mm : Nat} {r : Int} (h : Dy k i a) (hb : val64 b = .fin false (2 ^ mm) r) (hr : r + mm = n) (hk : k + n ≤ 900) (hi : i.natAbs ≤ 2 ^ 53) : Dy (k + n) i (ddiv a b) := by
  have h1 : Whole i (sh k (val64 a)) := h
  obtain ⟨s, c, q, e⟩ := sh_shape h1
  show Whole _ (sh ((k + n : Nat) : Int) (val64 (ddiv a b)))
  rw [val64_ddiv, hb]
  rw [e] at h1 ⊢
  have hp : 0 < 2 ^ mm := Nat.two_pow_pos mm
  have e1 : quotient b64 (.fin s c q) (.fin false (2 ^ mm) r) = round b64 (.fin s c (q - n)) := by
    show (if 2 ^ mm = 0 then _ else roundRatio b64 (s != false) c (2 ^ mm) (q - r)) = roundRatio b64 s c 1 (q - n)
    rw [if_neg (by omega), show (s != false) = s by cases s <;> rfl]
    refine roundRatio_congr hp (by decide) ?_
    rw [show (q - r - (q - (n : Int))).toNat = mm by omega, show (q - (n : Int) - (q - r)).toNat = 0 by omega, Nat.pow_zero, Nat.mul_one, Nat.mul_one]
  rw [e1]
  refine round_sh hk hi ?_
  have h2 : Whole i (.fin s c (q + k)) := h1
  show Whole i (.fin s c (q - n + ((k + n : Nat) : Int)))
  rw [show q - (n : Int) + ((k + n : Nat) : Int) = q + k by omega]
  exact h2
/-- the quotient of two whole numbers, as a rounded ratio -/
theorem div_ratio {i j : Int} {a b : UInt64} (ha : DInt i a) (hb : DInt j b) (hi : 0 ≤ i) (hj : 0 < j) : ∃ s, val64 (ddiv a b) = roundRatio b64 s i.natAbs j.natAbs 0 ∧ (0 < i → s = false) := by
  have ha' : Whole i (val64 a) := ha
  have hb' : Whole j (val64 b) := hb
  obtain ⟨s, c, q, e1⟩ := whole_shape ha'
  obtain ⟨t, d, r, e2⟩ := whole_shape hb'
  rw [val64_ddiv]
  rw [e1] at ha' ⊢
  rw [e2] at hb' ⊢
  have hd : d ≠ 0 := fun h => by have := (whole_zero hb').mp h; omega
  have ht : t = false := by rw [whole_sign hb' (by omega)]; exact decide_eq_false (by omega)
  have h1 := whole_natAbs ha'
  have h2 := whole_natAbs hb'
  refine ⟨s, ?_, fun h => by rw [whole_sign ha' (by omega)]; exact decide_eq_false (by omega)⟩
  subst ht
  show (if d = 0 then _ else roundRatio b64 (s != false) c d (q - r)) = _
  rw [if_neg hd, show (s != false) = s by cases s <;> rfl]
  refine roundRatio_congr (by omega) (by omega) ?_
  have hx : (q - r - 0).toNat + (-q).toNat + r.toNat = (0 - (q - r)).toNat + q.toNat + (-r).toNat := by omega
  generalize (q - r - 0).toNat = u at hx ⊢
  generalize (0 - (q - r)).toNat = v at hx ⊢
  generalize q.toNat = a1 at hx h1
  generalize (-q).toNat = a2 at hx h1
  generalize r.toNat = b1 at hx h2
  generalize (-r).toNat = b2 at hx h2
  generalize i.natAbs = I at h1 ⊢
  generalize j.natAbs = J at h2 ⊢
  refine Nat.eq_of_mul_eq_mul_right (Nat.two_pow_pos (a1 + b2)) ?_
  calc c * J * 2 ^ u * 2 ^ (a1 + b2) = (c * 2 ^ a1) * (J * 2 ^ b2) * 2 ^ u := by rw [Nat.pow_add]; ac_rfl
    _ = (I * 2 ^ a2) * (d * 2 ^ b1) * 2 ^ u := by rw [h1, ← h2]
    _ = I * d * 2 ^ (u + a2 + b1) := by simp only [Nat.pow_add]; ac_rfl
    _ = I * d * 2 ^ (v + a1 + b2) := by rw [hx]
    _ = I * d * 2 ^ v * 2 ^ (a1 + b2) := by simp only [Nat.pow_add]; ac_rfl
theorem units0 (A : Nat) : inUnits A 0 b64.qmin = A * one64 := by
  show A * 2 ^ (0 - b64.qmin).toNat = A * 2 ^ 1074
  have h1 : (0 - b64.qmin).toNat = 1074 := by decide
  rw [h1]
theorem ratio_le {s : Bool} {A B : Nat} (hB : 0 < B) {V : UInt64} (hV : DFin V) (h : A * one64 ≤ zmag b64 (val64 V) * B) : zmag b64 (roundRatio b64 s A B 0) ≤ zmag b64 (val64 V) := by
  refine zmag_roundRatio_le good_b64 hB (val64_fits V) hV.ne_nan (Int.le_refl _) (by rw [qmin_b64]; decide) ?_
  rw [units0, Int.sub_self]
  show A * one64 ≤ zmag b64 (val64 V) * 1 * B
  rw [Nat.mul_one]; exact h
theorem ratio_ge {s : Bool} {A B : Nat} (hB : 0 < B) {V : UInt64} (h : zmag b64 (val64 V) * B ≤ A * one64) : zmag b64 (val64 V) ≤ zmag b64 (roundRatio b64 s A B 0) := by
  refine zmag_roundRatio_ge good_b64 hB (val64_fits V) (Int.le_refl _) (by rw [qmin_b64]; decide) ?_
  rw [units0, Int.sub_self]
  show zmag b64 (val64 V) * 1 * B ≤ A * one64
  rw [Nat.mul_one]; exact h
/-- 1, the number next below it, and 2^-53, in units -/
theorem z_one : zmag b64 (val64 4607182418800017408) = 2 ^ 53 * 2 ^ 1021 := by decide +kernel
theorem z_pred : zmag b64 (val64 4607182418800017407) = (2 ^ 53 - 1) * 2 ^ 1021 := by decide +kernel
theorem z_tiny : zmag b64 (val64 4368491638549381120) = 2 ^ 1021 := by decide +kernel
theorem f_one : DFin 4607182418800017408 := (fin_bits _).mpr (by decide +kernel)
theorem f_pred : DFin 4607182418800017407 := (fin_bits _).mpr (by decide +kernel)
theorem one_split : one64 = 2 ^ 53 * 2 ^ 1021 := by
  show 2 ^ 1074 = _
  rw [← Nat.pow_add]
theorem zv_one : zval b64 (val64 4607182418800017408) = ((2 ^ 53 * 2 ^ 1021 : Nat) : Int) := by decide +kernel
theorem ratio_one {s : Bool} {A B : Nat} (hB : 0 < B) (h : A ≤ B) : zmag b64 (roundRatio b64 s A B 0) ≤ 2 ^ 53 * 2 ^ 1021 := by
  rw [← z_one]
  refine ratio_le hB f_one ?_
  rw [z_one, ← one_split, Nat.mul_comm]
  exact Nat.mul_le_mul_left _ h
theorem ratio_eq {s : Bool} {B : Nat} (hB : 0 < B) : zmag b64 (roundRatio b64 s B B 0) = 2 ^ 53 * 2 ^ 1021 := by
  refine Nat.le_antisymm (ratio_one hB (Nat.le_refl _)) ?_
  rw [← z_one]
  refine ratio_ge hB ?_
  rw [z_one, ← one_split, Nat.mul_comm]
  exact Nat.le_refl _
theorem ratio_lt {s : Bool} {A B : Nat} (h : A < B) (hB : B ≤ 2 ^ 53) : zmag b64 (roundRatio b64 s A B 0) < 2 ^ 53 * 2 ^ 1021 := by
  have h1 : zmag b64 (roundRatio b64 s A B 0) ≤ zmag b64 (val64 4607182418800017407) := by
    refine ratio_le (by omega) f_pred ?_
    rw [z_pred, one_split]
    have h2 : A * 2 ^ 53 ≤ (2 ^ 53 - 1) * B := by omega
    calc A * (2 ^ 53 * 2 ^ 1021) = A * 2 ^ 53 * 2 ^ 1021 := by rw [Nat.mul_assoc]
      _ ≤ (2 ^ 53 - 1) * B * 2 ^ 1021 := Nat.mul_le_mul_right _ h2
      _ = (2 ^ 53 - 1) * 2 ^ 1021 * B := Nat.mul_right_comm _ _ _
  rw [z_pred] at h1
  refine Nat.lt_of_le_of_lt h1 ?_
  exact Nat.mul_lt_mul_of_pos_right (by decide) (Nat.two_pow_pos _)
theorem ratio_pos {s : Bool} {A B : Nat} (hA : 0 < A) (hB : 0 < B) (h : B ≤ 2 ^ 53) : 0 < zmag b64 (roundRatio b64 s A B 0) := by
  have h1 : zmag b64 (val64 4368491638549381120) ≤ zmag b64 (roundRatio b64 s A B 0) := by
    refine ratio_ge hB ?_
    rw [z_tiny, one_split]
    have h2 : B ≤ A * 2 ^ 53 := Nat.le_trans h (Nat.le_mul_of_pos_left _ hA)
    calc 2 ^ 1021 * B = B * 2 ^ 1021 := Nat.mul_comm _ _
      _ ≤ A * 2 ^ 53 * 2 ^ 1021 := Nat.mul_le_mul_right _ h2
      _ = A * (2 ^ 53 * 2 ^ 1021) := by rw [Nat.mul_assoc]
  rw [z_tiny] at h1
  exact Nat.lt_of_lt_of_le (Nat.two_pow_pos _) h1
theorem ratio_zero {s : Bool} {B : Nat} : zmag b64 (roundRatio b64 s 0 B 0) = 0 := by
  have e1 : roundRatio b64 s 0 B 0 = .fin s 0 b64.qmin := if_pos rfl
  rw [e1]
  show 0 * _ = 0
  exact Nat.zero_mul _
theorem ratio_ne_nan {s : Bool} {A B : Nat} {e : Int} : roundRatio b64 s A B e ≠ .nan := roundRatio_ne_nan _ _ _ _ _
theorem zv0 : zval b64 (val64 0) = 0 := zval64_zero
theorem nn0 : val64 0 ≠ .nan := by rw [val64_zero]; exact Datum.noConfusion
theorem nn1 : val64 4607182418800017408 ≠ .nan := f_one.ne_nan
/-- a quotient of two whole numbers i ≤ j stands to 1 and to 0 as i stands to j and to 0 -/
theorem div_cmp {i j : Int} {a b : UInt64} (ha : DInt i a) (hb : DInt j b) (hi : 0 ≤ i) (hij : i ≤ j) (hj : 0 < j) (hJ : j ≤ 2 ^ 53) :
    dcmp (ddiv a b) 4607182418800017408 = some (if i = j then .eq else .lt) ∧ dcmp (ddiv a b) 0 = some (if i = 0 then .eq else .gt) ∧ dcmp 0 (ddiv a b) = some (if i = 0 then .eq else .lt) := by
  obtain ⟨s, hv, hs⟩ := div_ratio ha hb hi hj
  have nn : val64 (ddiv a b) ≠ .nan := by rw [hv]; exact ratio_ne_nan
  have hB : 0 < j.natAbs := by omega
  have hz : zval b64 (val64 (ddiv a b)) = ((zmag b64 (roundRatio b64 s i.natAbs j.natAbs 0) : Nat) : Int) := by
    rw [hv]
    show signed (sgn (roundRatio b64 s i.natAbs j.natAbs 0)) _ = _
    rw [sgn_roundRatio]
    by_cases h0 : 0 < i
    · rw [hs h0]; rfl
    · rw [show i.natAbs = 0 by omega, ratio_zero]; exact signed_zero s
  have hlt : ¬ i = j → zmag b64 (roundRatio b64 s i.natAbs j.natAbs 0) < 2 ^ 53 * 2 ^ 1021 := fun h => ratio_lt (by omega) (by omega)
  have heq : i = j → zmag b64 (roundRatio b64 s i.natAbs j.natAbs 0) = 2 ^ 53 * 2 ^ 1021 := fun h => by rw [h]; exact ratio_eq hB
  have hp : ¬ i = 0 → 0 < zmag b64 (roundRatio b64 s i.natAbs j.natAbs 0) := fun h => ratio_pos (by omega) hB (by omega)
  have hzero : i = 0 → zmag b64 (roundRatio b64 s i.natAbs j.natAbs 0) = 0 := fun h => by rw [show i.natAbs = 0 by omega]; exact ratio_zero
  generalize zmag b64 (roundRatio b64 s i.natAbs j.natAbs 0) = w at *
  have z1 := zv_one
  generalize 2 ^ 53 * 2 ^ 1021 = o1 at *
  refine ⟨?_, ?_, ?_⟩
  · by_cases h : i = j
    · rw [if_pos h]; exact dcmp_eq.mpr ⟨nn, nn1, by rw [hz, z1, heq h]⟩
    · rw [if_neg h]; exact dcmp_lt.mpr ⟨nn, nn1, by rw [hz, z1]; have := hlt h; omega⟩
  · by_cases h : i = 0
    · rw [if_pos h]; exact dcmp_eq.mpr ⟨nn, nn0, by rw [hz, zv0, hzero h]; rfl⟩
    · rw [if_neg h]; exact dcmp_gt.mpr ⟨nn, nn0, by rw [hz, zv0]; have := hp h; omega⟩
  · by_cases h : i = 0
    · rw [if_pos h]; exact dcmp_eq.mpr ⟨nn0, nn, by rw [hz, zv0, hzero h]; rfl⟩
    · rw [if_neg h]; exact dcmp_lt.mpr ⟨nn0, nn, by rw [hz, zv0]; have := hp h; omega⟩
/-- two quotients of one ratio compare as equal -/
theorem div_same {i j i' j' : Int} {a b a' b' : UInt64} (ha : DInt i a) (hb : DInt j b) (ha' : DInt i' a') (hb' : DInt j' b') (hi : 0 ≤ i) (hj : 0 < j) (hi' : 0 ≤ i') (hj' : 0 < j') (h : i * j' = i' * j) :
    dcmp (ddiv a b) (ddiv a' b') = some .eq := by
  obtain ⟨s, hv, hs⟩ := div_ratio ha hb hi hj
  obtain ⟨s', hv', hs'⟩ := div_ratio ha' hb' hi' hj'
  have nn : val64 (ddiv a b) ≠ .nan := by rw [hv]; exact ratio_ne_nan
  have nn' : val64 (ddiv a' b') ≠ .nan := by rw [hv']; exact ratio_ne_nan
  refine dcmp_eq.mpr ⟨nn, nn', ?_⟩
  rw [hv, hv']
  by_cases h0 : i = 0
  · have h1 : i' = 0 := by
      rw [h0, Int.zero_mul] at h
      rcases Int.mul_eq_zero.mp h.symm with h | h
      · exact h
      · omega
    rw [h0, h1]
    have e1 : ∀ (t : Bool) (B : Nat), zval b64 (roundRatio b64 t 0 B 0) = 0 := fun t B => by
      show signed _ (zmag b64 (roundRatio b64 t 0 B 0)) = 0
      rw [ratio_zero]; exact signed_zero _
    exact (e1 _ _).trans (e1 _ _).symm
  · have h1 : 0 < i' := by
      rcases Int.lt_or_eq_of_le hi' with h2 | h2
      · exact h2
      · exfalso
        rw [← h2, Int.zero_mul] at h
        rcases Int.mul_eq_zero.mp h with h | h <;> omega
    rw [hs (by omega), hs' h1]
    congr 1
    refine roundRatio_congr (by omega) (by omega) ?_
    have := congrArg Int.natAbs h
    rw [Int.natAbs_mul, Int.natAbs_mul] at this
    rw [this]
/-- a quotient that is whole -/
theorem div_int {i j k : Int} {a b : UInt64} (ha : DInt i a) (hb : DInt j b) (hi : 0 < i) (hj : 0 < j) (h : i = k * j) (hk : k.natAbs ≤ 2 ^ 53) : DInt k (ddiv a b) := by
  obtain ⟨s, hv, hs⟩ := div_ratio ha hb (by omega) hj
  obtain rfl := hs hi
  have hk0 : 0 < k := by
    refine Int.not_le.mp fun hn => ?_
    have := Int.mul_nonneg (show 0 ≤ -k by omega) (Int.le_of_lt hj)
    rw [Int.neg_mul] at this
    omega
  obtain ⟨c, q, hfit, hq⟩ := natFit good_b64 wide_b64 false (n := k.natAbs) (show _ ≤ 2 ^ 53 from hk)
  show Whole k (val64 (ddiv a b))
  rw [hv]
  have hn : i.natAbs = k.natAbs * j.natAbs := by rw [h, Int.natAbs_mul]
  have e1 : roundRatio b64 false i.natAbs j.natAbs 0 = .fin false c q := roundRatio_exact good_b64 (by omega) hfit (by
    rw [hn, Nat.mul_right_comm, hq]; rw [Nat.mul_one]; ac_rfl)
  have e2 : round b64 (.fin false k.natAbs 0) = .fin false c q := roundRatio_exact good_b64 (by decide) hfit hq
  have hW : Whole k (.fin false k.natAbs 0) := by
    have := whole_ofInt k
    have e3 : ofInt k = .fin false k.natAbs 0 := by
      show Datum.fin (decide (k < 0)) k.natAbs 0 = _
      rw [decide_eq_false (by omega)]
    rw [e3] at this; exact this
  have := whole_round good_b64 wide_b64 (show _ ≤ 2 ^ 53 from hk) hW
  rw [e2] at this
  rw [e1]; exact this
/-- no NaN, as the steps ask it -/
theorem num_of {x : UInt64} (h : DFin x) : x &&& 0x7fffffffffffffff ≤ 0x7ff0000000000000 := by
  have h1 := (fin_bits x).mp h
  rw [UInt64.le_iff_toNat_le, mask_toNat]
  show x.toNat % 2 ^ 63 ≤ 9218868437227405312
  omega
theorem num_nan {x : UInt64} (h : dIsNaN x = false) : x &&& 0x7fffffffffffffff ≤ 0x7ff0000000000000 := by
  have h1 := (ne_nan x).mp ((notNaN_iff x).mp h)
  rw [UInt64.le_iff_toNat_le, mask_toNat]
  show x.toNat % 2 ^ 63 ≤ 9218868437227405312
  exact h1
theorem cv_eq {x y : UInt64} {op : ClassFile.CmpOp} (h : dcmp x y = some .eq) : Jvm.Op.cmpValue (Jvm.FP.dcmp x y) op = 0 := by
  show Jvm.Op.cmpValue (dcmp x y) op = 0
  rw [h]; rfl
theorem cv_lt {x y : UInt64} {op : ClassFile.CmpOp} (h : dcmp x y = some .lt) : Jvm.Op.cmpValue (Jvm.FP.dcmp x y) op = -1 := by
  show Jvm.Op.cmpValue (dcmp x y) op = -1
  rw [h]; rfl
theorem cv_gt {x y : UInt64} {op : ClassFile.CmpOp} (h : dcmp x y = some .gt) : Jvm.Op.cmpValue (Jvm.FP.dcmp x y) op = 1 := by
  show Jvm.Op.cmpValue (dcmp x y) op = 1
  rw [h]; rfl
end Jvm.Own
namespace Jvm.Pilot.@@N@@
open Jvm Jvm.ClassFile Sem Op Lib Jvm.Free Jvm.Stand Jvm.LawKit Jvm.RoadKit Bundle Jvm.Pilot.@@N@@.Jvm.D

def own_prec (gg ss cc : Int32) : UInt64 := if ss = 0 then (if gg = 0 then 4607182418800017408 else 0) else FP.ddiv (FP.i2d cc) (FP.i2d ss)
def own_rec (gg ss cc : Int32) : UInt64 := if gg = 0 then (if ss = 0 then 4607182418800017408 else 0) else FP.ddiv (FP.i2d cc) (FP.i2d gg)
def own_f1 (gg ss cc : Int32) : UInt64 := if gg = 0 ∨ ss = 0 then (if gg = ss then 4607182418800017408 else 0) else FP.ddiv (FP.dmul 4611686018427387904 (FP.i2d cc)) (FP.l2d (gg.toInt64 + ss.toInt64))
theorem own_prec_a {gg ss cc : Int32} (h1 : ss = 0) (h2 : gg = 0) : own_prec gg ss cc = 4607182418800017408 := (if_pos h1).trans (if_pos h2)
theorem own_prec_b {gg ss cc : Int32} (h1 : ss = 0) (h2 : ¬ gg = 0) : own_prec gg ss cc = 0 := (if_pos h1).trans (if_neg h2)
theorem own_prec_c {gg ss cc : Int32} (h1 : ¬ ss = 0) : own_prec gg ss cc = FP.ddiv (FP.i2d cc) (FP.i2d ss) := if_neg h1
theorem own_rec_a {gg ss cc : Int32} (h1 : gg = 0) (h2 : ss = 0) : own_rec gg ss cc = 4607182418800017408 := (if_pos h1).trans (if_pos h2)
theorem own_rec_b {gg ss cc : Int32} (h1 : gg = 0) (h2 : ¬ ss = 0) : own_rec gg ss cc = 0 := (if_pos h1).trans (if_neg h2)
theorem own_rec_c {gg ss cc : Int32} (h1 : ¬ gg = 0) : own_rec gg ss cc = FP.ddiv (FP.i2d cc) (FP.i2d gg) := if_neg h1
theorem own_f1_a {gg ss cc : Int32} (h1 : gg = 0 ∨ ss = 0) (h2 : gg = ss) : own_f1 gg ss cc = 4607182418800017408 := (if_pos h1).trans (if_pos h2)
theorem own_f1_b {gg ss cc : Int32} (h1 : gg = 0 ∨ ss = 0) (h2 : ¬ gg = ss) : own_f1 gg ss cc = 0 := (if_pos h1).trans (if_neg h2)
theorem own_f1_c {gg ss cc : Int32} (h1 : ¬ (gg = 0 ∨ ss = 0)) : own_f1 gg ss cc = FP.ddiv (FP.dmul 4611686018427387904 (FP.i2d cc)) (FP.l2d (gg.toInt64 + ss.toInt64)) := if_neg h1
theorem own_i2 : FP.Core.DInt 2 4611686018427387904 := by
  have h : FP.Core.val64 4611686018427387904 = .fin false (2 ^ 52) (-51) := by decide +kernel
  show FP.Core.Whole 2 (FP.Core.val64 4611686018427387904)
  rw [h]
  show FP.Core.signed false (2 ^ 52 * 2 ^ (-51 : Int).toNat) = 2 * ((2 ^ (-(-51 : Int)).toNat : Nat) : Int)
  decide +kernel
theorem own_z32 {x : Int32} : x = 0 ↔ x.toInt = 0 := ⟨fun h => by rw [h]; rfl, fun h => Int32.toInt.inj h⟩
theorem own_e32 {x y : Int32} : x = y ↔ x.toInt = y.toInt := ⟨fun h => by rw [h], fun h => Int32.toInt.inj h⟩
/-- the counts that the law makes -/
def OwnCnt (gg ss cc : Int32) : Prop := 0 ≤ cc.toInt ∧ cc.toInt ≤ gg.toInt ∧ cc.toInt ≤ ss.toInt
theorem OwnCnt.swap {gg ss cc : Int32} (h : OwnCnt gg ss cc) : OwnCnt ss gg cc := ⟨h.1, h.2.2, h.2.1⟩
theorem OwnCnt.c1 {gg ss cc : Int32} (h : OwnCnt gg ss cc) : ¬ (cc < (0 : Int32)) := by
  rw [Int32.lt_iff_toInt_lt]; show ¬ cc.toInt < 0; have := h.1; omega
theorem OwnCnt.c2 {gg ss cc : Int32} (h : OwnCnt gg ss cc) : ¬ (gg < cc) := by
  rw [Int32.lt_iff_toInt_lt]; have := h.2.1; omega
theorem OwnCnt.c3 {gg ss cc : Int32} (h : OwnCnt gg ss cc) : ¬ (ss < cc) := by
  rw [Int32.lt_iff_toInt_lt]; have := h.2.2; omega
theorem own_two (cc : Int32) : FP.Core.DInt (2 * cc.toInt) (FP.dmul 4611686018427387904 (FP.i2d cc)) :=
  FP.Core.dmul_int own_i2 (FP.Core.i2d_int cc) (by have := cc.toInt_lt; have := cc.le_toInt; omega)
theorem own_sumI (gg ss : Int32) : (gg.toInt64 + ss.toInt64).toInt = gg.toInt + ss.toInt := by
  have a1 := gg.toInt_lt; have a2 := gg.le_toInt; have a3 := ss.toInt_lt; have a4 := ss.le_toInt
  rw [Kit.i64_add (by rw [Kit.i64_of_i32, Kit.i64_of_i32]; omega) (by rw [Kit.i64_of_i32, Kit.i64_of_i32]; omega), Kit.i64_of_i32, Kit.i64_of_i32]
theorem own_sumD (gg ss : Int32) : FP.Core.DInt (gg.toInt + ss.toInt) (FP.l2d (gg.toInt64 + ss.toInt64)) := by
  have a1 := gg.toInt_lt; have a2 := gg.le_toInt; have a3 := ss.toInt_lt; have a4 := ss.le_toInt
  have h := FP.Core.l2d_int (a := gg.toInt64 + ss.toInt64) (by rw [own_sumI]; omega)
  rw [own_sumI] at h; exact h
theorem own_twoL (cc : Int32) : FP.Core.DInt (2 * cc.toInt) (FP.l2d ((2 : Int64) * cc.toInt64)) := by
  have a1 := cc.toInt_lt; have a2 := cc.le_toInt
  have h1 : ((2 : Int64) * cc.toInt64).toInt = 2 * cc.toInt := by
    have := Kit.i64_mul (x := 2) (y := cc.toInt64) (by rw [Kit.i64_of_i32]; show _ ≤ 2 * _; omega) (by rw [Kit.i64_of_i32]; show 2 * _ < _; omega)
    rw [this, Kit.i64_of_i32]; rfl
  have h := FP.Core.l2d_int (a := (2 : Int64) * cc.toInt64) (by rw [h1]; omega)
  rw [h1] at h; exact h
theorem own_numdiv {i j : Int} {a b : UInt64} (ha : FP.Core.DInt i a) (hb : FP.Core.DInt j b) (hj : j ≠ 0) : OwnNum (FP.ddiv a b) := by
  refine Own.num_nan (FP.Core.ddiv_out (FP.Core.DFin.notNaN (Own.Dy.of ha).fin) (Own.Dy.of hb).fin fun hz => ?_)
  obtain ⟨z, q, hv⟩ := hz
  have hb' : FP.Core.Whole j (FP.Core.val64 b) := hb
  rw [hv] at hb'
  exact hj ((FP.Core.whole_zero hb').mp rfl)
theorem own_num2 (cc : Int32) : OwnNum (FP.dmul (4611686018427387904 : UInt64) (FP.i2d cc)) := Own.num_of (Own.Dy.of (own_two cc)).fin
/-- the quotient of a part and a whole, c ≤ w -/
theorem own_part {cc ww : Int32} (h0 : 0 ≤ cc.toInt) (h1 : cc.toInt ≤ ww.toInt) (hw : ¬ ww = 0) :
    FP.Core.dcmp (FP.ddiv (FP.i2d cc) (FP.i2d ww)) 4607182418800017408 = some (if cc = ww then .eq else .lt) ∧ FP.Core.dcmp (FP.ddiv (FP.i2d cc) (FP.i2d ww)) 0 = some (if cc = 0 then .eq else .gt) ∧ FP.Core.dcmp 0 (FP.ddiv (FP.i2d cc) (FP.i2d ww)) = some (if cc = 0 then .eq else .lt) := by
  have a1 := ww.toInt_lt
  have h2 : ww.toInt ≠ 0 := fun h => hw (own_z32.mpr h)
  have h := Own.div_cmp (FP.Core.i2d_int cc) (FP.Core.i2d_int ww) h0 h1 (by omega) (by omega)
  have e1 : (if cc.toInt = ww.toInt then Ordering.eq else .lt) = (if cc = ww then .eq else .lt) := by
    by_cases q : cc = ww
    · rw [if_pos q, if_pos (own_e32.mp q)]
    · rw [if_neg q, if_neg (fun z => q (own_e32.mpr z))]
  have e2 : ∀ o : Ordering, (if cc.toInt = 0 then Ordering.eq else o) = (if cc = 0 then .eq else o) := fun o => by
    by_cases q : cc = 0
    · rw [if_pos q, if_pos (own_z32.mp q)]
    · rw [if_neg q, if_neg (fun z => q (own_z32.mpr z))]
  exact ⟨h.1.trans (congrArg some e1), h.2.1.trans (congrArg some (e2 _)), h.2.2.trans (congrArg some (e2 _))⟩
theorem own_same {cc ww : Int32} (h0 : 0 ≤ cc.toInt) (h1 : cc.toInt ≤ ww.toInt) (hw : ¬ ww = 0) : FP.Core.dcmp (FP.ddiv (FP.i2d cc) (FP.i2d ww)) (FP.ddiv (FP.i2d cc) (FP.i2d ww)) = some .eq := by
  have h2 : ww.toInt ≠ 0 := fun h => hw (own_z32.mpr h)
  exact Own.div_same (FP.Core.i2d_int cc) (FP.Core.i2d_int ww) (FP.Core.i2d_int cc) (FP.Core.i2d_int ww) h0 (by omega) h0 (by omega) rfl
theorem own_c11 : FP.Core.dcmp 4607182418800017408 4607182418800017408 = some .eq := by decide +kernel
theorem own_c10 : FP.Core.dcmp 4607182418800017408 0 = some .gt := by decide +kernel
theorem own_c01 : FP.Core.dcmp 0 4607182418800017408 = some .lt := by decide +kernel
theorem own_c00 : FP.Core.dcmp 0 0 = some .eq := by decide +kernel
theorem own_n2 : ¬ ((4611686018427387904 : UInt64) = 0) := by decide
def own_min (x y : Int32) : Int32 := if y < x then y else x
theorem own_min_a {x y : Int32} (h : y < x) : own_min x y = y := if_pos h
theorem own_min_b {x y : Int32} (h : ¬ y < x) : own_min x y = x := if_neg h
theorem own_min_le (x y : Int32) (hx : 0 ≤ x.toInt) (hy : 0 ≤ y.toInt) : 0 ≤ (own_min x y).toInt ∧ (own_min x y).toInt ≤ x.toInt ∧ (own_min x y).toInt ≤ y.toInt := by
  by_cases h : y < x
  · rw [own_min_a h]; rw [Int32.lt_iff_toInt_lt] at h; omega
  · rw [own_min_b h]; rw [Int32.lt_iff_toInt_lt] at h; omega
theorem own_mask (x : Int32) : 0 ≤ (x &&& (2147483647 : Int32)).toInt := by
  rw [Kit.i32_mask x 2147483647 (k := 31) (by decide) (by decide)]; omega
theorem own_mask3 (x : Int32) : 0 ≤ (x &&& (3 : Int32)).toInt := by
  rw [Kit.i32_mask x 3 (k := 2) (by decide) (by decide)]; omega
/-- the law's own share of m + 1 -/
theorem own_rest {x : Int64} {mm : Int32} (hx : 0 ≤ x.toInt) (hm : 0 ≤ mm.toInt) : 0 ≤ ((x - (x / (mm.toInt64 + (1 : Int64))) * (mm.toInt64 + (1 : Int64))).toInt32).toInt ∧ ((x - (x / (mm.toInt64 + (1 : Int64))) * (mm.toInt64 + (1 : Int64))).toInt32).toInt ≤ mm.toInt ∧ ¬ ((mm.toInt64 + (1 : Int64)) = 0) := by
  have a1 := mm.toInt_lt
  have h1 : (mm.toInt64 + (1 : Int64)).toInt = mm.toInt + 1 := by
    rw [Kit.i64_add (by rw [Kit.i64_of_i32]; show _ ≤ _ + 1; omega) (by rw [Kit.i64_of_i32]; show _ + 1 < _; omega), Kit.i64_of_i32]; rfl
  have h2 := Kit.i64_rem_nonneg (x := x) (y := mm.toInt64 + (1 : Int64)) hx
  rw [h1] at h2
  have h3 := Int.emod_nonneg x.toInt (show mm.toInt + 1 ≠ 0 by omega)
  have h4 := Int.emod_lt_of_pos x.toInt (show 0 < mm.toInt + 1 by omega)
  have h5 := Kit.i32_of_i64 (x := x - (x / (mm.toInt64 + (1 : Int64))) * (mm.toInt64 + (1 : Int64))) (by rw [h2]; omega) (by rw [h2]; omega)
  rw [h5, h2]
  refine ⟨h3, by omega, fun h => ?_⟩
  rw [h] at h1
  have : (0 : Int64).toInt = 0 := rfl
  omega
theorem d1_0 : decode jdk_29_method_69_code 0 = .ok (.iload_n 0, 1) := by decide +kernel
theorem d1_1 : decode jdk_29_method_69_code 1 = .ok (.iload_n 1, 1) := by decide +kernel
theorem d1_2 : decode jdk_29_method_69_code 2 = .ok (.if_icmp .gt 7, 3) := by decide +kernel
theorem d1_9 : decode jdk_29_method_69_code 9 = .ok (.iload_n 1, 1) := by decide +kernel
theorem d1_10 : decode jdk_29_method_69_code 10 = .ok (.ireturn, 1) := by decide +kernel
theorem d1_5 : decode jdk_29_method_69_code 5 = .ok (.iload_n 0, 1) := by decide +kernel
theorem d1_6 : decode jdk_29_method_69_code 6 = .ok (.goto 4, 3) := by decide +kernel
theorem ef_rm_min (m : MethodId) (x0 : Int32) (x1 : Int32) : entryFrame m #[(.int x0), (.int x1)] 2 = mkF m 0 #[.val (.int x0), .val (.int x1)] [] := by first | (simp [entryFrame, mkF, argsToLocals, Value.category]; done) | rfl
def Q_rm_min (Z : State) (p1 : Int32) (p2 : Int32) (h0 : Heap) (n0 : Nat) (v : Option Value) (h : Heap) (L : List Loc) : Prop := v = some (.int (own_min p1 p2)) ∧ Fr n0 L ∧ h = h0
set_option maxRecDepth 65536 in
set_option maxHeartbeats 40000000 in
theorem rm_min (l : Launch) (Z : State) (a0 : Array Value) (hw : ∀ d ∈ tables_1, d.before a0 Z = true) (ws : List Jvm.Cond) (p1 : Int32) (p2 : Int32) (h0 : Heap) (n0 : Nat) (Z0 : n0 ≤ h0.size)  :
    MetFree l (⟨"java/lang/Math", "min", "(II)I"⟩ : MethodName) (head1 (Jvm.Cond.code (⟨"java/lang/Math", "min", "(II)I"⟩ : MethodName) jdk_29_method_69_code 2 (some .int) :: ws) ({ frames := 0, cells := 0, slots := 0, locals := 0 } : Room)) (fun a U => a = #[(.int p1), (.int p2)] ∧ Z.Warmed39 U.vm ∧ U.heap = h0) (fun _ _ _ _ _ => True) (fun _ U o U' => ∃ v L, o = .returned v ∧ Q_rm_min Z p1 p2 h0 n0 v U'.heap L ∧ FrameEnd U o U' L ({ frames := 0, cells := 0, slots := 0, locals := 0 } : Room).cells ({ frames := 0, cells := 0, slots := 0, locals := 0 } : Room).slots) := by
  refine MetFree.of_bodySF (Jvm.Free.JP.mathPlain rfl (by decide +kernel)) hisR ?_
  intro p e s m args below meth c s₁ Bd hml0 hP hK
  obtain ⟨rfl, hZ, hh⟩ := hP
  have hx := Bd.exec
  have hby := Bd.bytes
  have hml : c.maxLocals = 2 := hml0
  have hown : s.vm.findClass "java/lang/Math" = some m.cls := findClass_of_methodNamed Bd.named
  have hnm := (name_of_methodNamed Bd.named Bd.method).1
  have X0 : Stand p l e ({ frames := 0, cells := 0, slots := 0, locals := 0 } : Room) s m #[(.int p1), (.int p2)] below meth c s₁ [] 0 0 := Stand.of_body Bd
  have e0 : s₁.heap = h0 := by rw [← hh, Bd.state]; rfl
  have N0 := Fr.nil n0
  refine Go.start (Q := Q_rm_min Z p1 p2 h0 n0) (ef_rm_min m p1 p2) ?_
  by_cases hc : p2 < p1
  · have sg1 : ∀ t, Steps p.tables e below (s₁.setTop (mkF m 10 #[.val (.int p1), .val (.int p2)] [(.int p2)])) t → Steps p.tables e below (s₁.setTop (mkF m 0 #[.val (.int p1), .val (.int p2)] [])) t := by
      intro t kt
      show Steps p.tables e below (s₁.setTop (mkF m 0 #[.val (.int p1), .val (.int p2)] [])) _
      refine XS.iloadN X0.here hx rfl (hb hby d1_0) rfl ?_
      show Steps p.tables e below (s₁.setTop (mkF m 1 #[.val (.int p1), .val (.int p2)] [(.int p1)])) _
      refine XS.iloadN X0.here hx rfl (hb hby d1_1) rfl ?_
      show Steps p.tables e below (s₁.setTop (mkF m 2 #[.val (.int p1), .val (.int p2)] [(.int p2), (.int p1)])) _
      refine XS.icmpYes X0.here hx rfl (pc0 := 2) (pc' := 9) rfl (hb hby d1_2) rfl (tlt (hc : p2 < p1)).2.2.1 (by decide) (by decide) ?_
      show Steps p.tables e below (s₁.setTop (mkF m 9 #[.val (.int p1), .val (.int p2)] [])) _
      refine XS.iloadN X0.here hx rfl (hb hby d1_9) rfl ?_
      exact kt
    refine Go.adv sg1 ?_
    refine Go.ret (v := (some (.int p2))) X0 (fun h => by rw [Bd.returns] at h; cases h) Bd.notSynchronized (fun fs hr => retOut X0 hx Bd.returns rfl (Or.inl ⟨rfl, Or.inl rfl, _, rfl⟩) (hb hby d1_10) hr) ?_ (by decide) (by decide)
    show Q_rm_min Z p1 p2 h0 n0 (some (.int p2)) s₁.heap _
    rw [e0]
    exact ⟨congrArg (fun z => some (Value.int z)) (own_min_a hc).symm, N0, rfl⟩
  · have sg2 : ∀ t, Steps p.tables e below (s₁.setTop (mkF m 10 #[.val (.int p1), .val (.int p2)] [(.int p1)])) t → Steps p.tables e below (s₁.setTop (mkF m 0 #[.val (.int p1), .val (.int p2)] [])) t := by
      intro t kt
      show Steps p.tables e below (s₁.setTop (mkF m 0 #[.val (.int p1), .val (.int p2)] [])) _
      refine XS.iloadN X0.here hx rfl (hb hby d1_0) rfl ?_
      show Steps p.tables e below (s₁.setTop (mkF m 1 #[.val (.int p1), .val (.int p2)] [(.int p1)])) _
      refine XS.iloadN X0.here hx rfl (hb hby d1_1) rfl ?_
      show Steps p.tables e below (s₁.setTop (mkF m 2 #[.val (.int p1), .val (.int p2)] [(.int p2), (.int p1)])) _
      refine XS.icmpNo X0.here hx rfl (hb hby d1_2) rfl (flt (hc : ¬ (p2 < p1))).2.2.1 ?_
      show Steps p.tables e below (s₁.setTop (mkF m 5 #[.val (.int p1), .val (.int p2)] [])) _
      refine XS.iloadN X0.here hx rfl (hb hby d1_5) rfl ?_
      show Steps p.tables e below (s₁.setTop (mkF m 6 #[.val (.int p1), .val (.int p2)] [(.int p1)])) _
      refine XS.goto X0.here hx rfl (pc0 := 6) (pc' := 10) rfl (hb hby d1_6) (by decide) (by decide) ?_
      exact kt
    refine Go.adv sg2 ?_
    refine Go.ret (v := (some (.int p1))) X0 (fun h => by rw [Bd.returns] at h; cases h) Bd.notSynchronized (fun fs hr => retOut X0 hx Bd.returns rfl (Or.inl ⟨rfl, Or.inl rfl, _, rfl⟩) (hb hby d1_10) hr) ?_ (by decide) (by decide)
    show Q_rm_min Z p1 p2 h0 n0 (some (.int p1)) s₁.heap _
    rw [e0]
    exact ⟨congrArg (fun z => some (Value.int z)) (own_min_b hc).symm, N0, rfl⟩
theorem pn3 : plainName "java/lang/Record" = true := by first | (simp [plainName, overriddenIn]; done) | decide +kernel
theorem d3_0 : decode jdk_30_method_1_code 0 = .ok (.aload_n 0, 1) := by decide +kernel
theorem d3_1 : decode jdk_30_method_1_code 1 = .ok (.invokespecial 1, 3) := by decide +kernel
theorem d3_4 : decode jdk_30_method_1_code 4 = .ok (.return_, 1) := by decide +kernel
theorem ef_rm_rec (m : MethodId) (x0 : Addr) : entryFrame m #[(.ref x0)] 1 = mkF m 0 #[.val (.ref x0)] [] := by first | (simp [entryFrame, mkF, argsToLocals, Value.category]; done) | rfl
def Q_rm_rec (Z : State) (a1 : Addr) (h0 : Heap) (n0 : Nat) (v : Option Value) (h : Heap) (L : List Loc) : Prop := v = none ∧ Fr n0 L ∧ h = h0
set_option maxRecDepth 65536 in
set_option maxHeartbeats 40000000 in
theorem rm_rec (l : Launch) (Z : State) (a0 : Array Value) (hw : ∀ d ∈ tables_1, d.before a0 Z = true) (ws : List Jvm.Cond) (a1 : Addr) (h0 : Heap) (n0 : Nat) (Z0 : n0 ≤ h0.size)  :
    MetFree l (⟨"java/lang/Record", "<init>", "()V"⟩ : MethodName) (head1 (Jvm.Cond.code (⟨"java/lang/Record", "<init>", "()V"⟩ : MethodName) jdk_30_method_1_code 1 none :: ws) ({ frames := 1, cells := 0, slots := 0, locals := 12 } : Room)) (fun a U => a = #[(.ref a1)] ∧ Z.Warmed39 U.vm ∧ U.heap = h0) (fun _ _ _ _ _ => True) (fun _ U o U' => ∃ v L, o = .returned v ∧ Q_rm_rec Z a1 h0 n0 v U'.heap L ∧ FrameEnd U o U' L ({ frames := 1, cells := 0, slots := 0, locals := 12 } : Room).cells ({ frames := 1, cells := 0, slots := 0, locals := 12 } : Room).slots) := by
  refine MetFree.of_bodySF (plainFor_of_name pn3) hisR ?_
  intro p e s m args below meth c s₁ Bd hml0 hP hK
  obtain ⟨rfl, hZ, hh⟩ := hP
  have hx := Bd.exec
  have hby := Bd.bytes
  have hml : c.maxLocals = 1 := hml0
  have hown : s.vm.findClass "java/lang/Record" = some m.cls := findClass_of_methodNamed Bd.named
  have hnm := (name_of_methodNamed Bd.named Bd.method).1
  have X0 : Stand p l e ({ frames := 1, cells := 0, slots := 0, locals := 12 } : Room) s m #[(.ref a1)] below meth c s₁ [] 0 0 := Stand.of_body Bd
  have e0 : s₁.heap = h0 := by rw [← hh, Bd.state]; rfl
  have N0 := Fr.nil n0
  refine Go.start (Q := Q_rm_rec Z a1 h0 n0) (ef_rm_rec m a1) ?_
  have sg1 : ∀ t, Steps p.tables e below (s₁.setTop (mkF m 1 #[.val (.ref a1)] [(.ref a1)])) t → Steps p.tables e below (s₁.setTop (mkF m 0 #[.val (.ref a1)] [])) t := by
    intro t kt
    show Steps p.tables e below (s₁.setTop (mkF m 0 #[.val (.ref a1)] [])) _
    refine XS.aloadN X0.here hx rfl (hb hby d3_0) rfl rfl ?_
    exact kt
  refine Go.adv sg1 ?_
  obtain ⟨T2, X2, e2, st2⟩ := initO X0 hx hZ hown (hw _ (List.mem_of_getElem? (i := 16) rfl)) (hw _ (List.mem_of_getElem? (i := 17) rfl)) (hw _ (List.mem_of_getElem? (i := 18) rfl)) e0 (g := (mkF m 1 #[.val (.ref a1)] [(.ref a1)])) rfl (by rw [hml]; rfl) rfl (hb hby d3_1) (by decide) (W := 0) (by show 2 * 0 + _ ≤ _; exact Nat.le_of_eq rfl) (by decide)
  refine Go.adv st2 ?_
  show Go p.tables e below s _ _ _ (T2.setTop (mkF m 4 #[.val (.ref a1)] []))
  refine Go.ret (v := none) X2 (fun _ => rfl) Bd.notSynchronized (fun fs hr => X2.returnOut hx Bd.returns (hb hby d3_4) hr) ?_ (by decide) (by decide)
  show Q_rm_rec Z a1 h0 n0 none T2.heap _
  rw [e2]
  exact ⟨rfl, N0, rfl⟩
theorem pn2 : plainName "com/example/tally/tally/score/QuestionScore" = true := by first | (simp [plainName, overriddenIn]; done) | decide +kernel
theorem d2_0 : decode prog_51_method_1_code 0 = .ok (.aload_n 0, 1) := by decide +kernel
theorem d2_1 : decode prog_51_method_1_code 1 = .ok (.invokespecial 1, 3) := by decide +kernel
theorem pd_ocV : parseMethodDescriptor "()V" = some ⟨[], none⟩ := by decide +kernel
theorem d2_4 : decode prog_51_method_1_code 4 = .ok (.iload_n 3, 1) := by decide +kernel
theorem d2_5 : decode prog_51_method_1_code 5 = .ok (.ifCond .lt 13, 3) := by decide +kernel
theorem d2_8 : decode prog_51_method_1_code 8 = .ok (.iload_n 3, 1) := by decide +kernel
theorem d2_9 : decode prog_51_method_1_code 9 = .ok (.iload_n 1, 1) := by decide +kernel
theorem d2_10 : decode prog_51_method_1_code 10 = .ok (.if_icmp .gt 8, 3) := by decide +kernel
theorem d2_13 : decode prog_51_method_1_code 13 = .ok (.iload_n 3, 1) := by decide +kernel
theorem d2_14 : decode prog_51_method_1_code 14 = .ok (.iload_n 2, 1) := by decide +kernel
theorem d2_15 : decode prog_51_method_1_code 15 = .ok (.if_icmp .le 19, 3) := by decide +kernel
theorem d2_34 : decode prog_51_method_1_code 34 = .ok (.aload_n 0, 1) := by decide +kernel
theorem d2_35 : decode prog_51_method_1_code 35 = .ok (.iload_n 1, 1) := by decide +kernel
theorem d2_36 : decode prog_51_method_1_code 36 = .ok (.putfield 16, 3) := by decide +kernel
theorem d2_39 : decode prog_51_method_1_code 39 = .ok (.aload_n 0, 1) := by decide +kernel
theorem d2_40 : decode prog_51_method_1_code 40 = .ok (.iload_n 2, 1) := by decide +kernel
theorem d2_41 : decode prog_51_method_1_code 41 = .ok (.putfield 22, 3) := by decide +kernel
theorem d2_44 : decode prog_51_method_1_code 44 = .ok (.aload_n 0, 1) := by decide +kernel
theorem d2_45 : decode prog_51_method_1_code 45 = .ok (.iload_n 3, 1) := by decide +kernel
theorem d2_46 : decode prog_51_method_1_code 46 = .ok (.putfield 25, 3) := by decide +kernel
theorem d2_49 : decode prog_51_method_1_code 49 = .ok (.return_, 1) := by decide +kernel
theorem ef_rm_init (m : MethodId) (x0 : Addr) (x1 : Int32) (x2 : Int32) (x3 : Int32) : entryFrame m #[(.ref x0), (.int x1), (.int x2), (.int x3)] 4 = mkF m 0 #[.val (.ref x0), .val (.int x1), .val (.int x2), .val (.int x3)] [] := by first | (simp [entryFrame, mkF, argsToLocals, Value.category]; done) | rfl
def Q_rm_init (Z : State) (a1 : Addr) (p1 : Int32) (p2 : Int32) (p3 : Int32) (u_gold : Value) (u_system : Value) (u_correct : Value) (h0 : Heap) (n0 : Nat) (v : Option Value) (h : Heap) (L : List Loc) : Prop := v = none ∧ Fr n0 L ∧ Keep h0 h [a1] ∧ Exa Z h a1 "com/example/tally/tally/score/QuestionScore" ∧ Fld Z h a1 "com/example/tally/tally/score/QuestionScore" "gold" "I" (.int p1) ∧ Fld Z h a1 "com/example/tally/tally/score/QuestionScore" "system" "I" (.int p2) ∧ Fld Z h a1 "com/example/tally/tally/score/QuestionScore" "correct" "I" (.int p3)
set_option maxRecDepth 65536 in
set_option maxHeartbeats 40000000 in
theorem rm_init (l : Launch) (Z : State) (a0 : Array Value) (hw : ∀ d ∈ tables_1, d.before a0 Z = true) (ws : List Jvm.Cond) (a1 : Addr) (p1 : Int32) (p2 : Int32) (p3 : Int32) (u_gold : Value) (u_system : Value) (u_correct : Value) (h0 : Heap) (n0 : Nat) (Z0 : n0 ≤ h0.size) (E_a1 : Exa Z h0 a1 "com/example/tally/tally/score/QuestionScore") (g_a1 : n0 ≤ a1) (F_gold_a1 : Fld Z h0 a1 "com/example/tally/tally/score/QuestionScore" "gold" "I" u_gold) (F_system_a1 : Fld Z h0 a1 "com/example/tally/tally/score/QuestionScore" "system" "I" u_system) (F_correct_a1 : Fld Z h0 a1 "com/example/tally/tally/score/QuestionScore" "correct" "I" u_correct) (hC : OwnCnt p1 p2 p3) :
    MetFree l (⟨"com/example/tally/tally/score/QuestionScore", "<init>", "(III)V"⟩ : MethodName) (head1 (Jvm.Cond.code (⟨"com/example/tally/tally/score/QuestionScore", "<init>", "(III)V"⟩ : MethodName) prog_51_method_1_code 4 none :: ws) ({ frames := 2, cells := 0, slots := 0, locals := 24 } : Room)) (fun a U => a = #[(.ref a1), (.int p1), (.int p2), (.int p3)] ∧ Z.Warmed39 U.vm ∧ U.heap = h0) (fun _ _ _ _ _ => True) (fun _ U o U' => ∃ v L, o = .returned v ∧ Q_rm_init Z a1 p1 p2 p3 u_gold u_system u_correct h0 n0 v U'.heap L ∧ FrameEnd U o U' L ({ frames := 2, cells := 0, slots := 0, locals := 24 } : Room).cells ({ frames := 2, cells := 0, slots := 0, locals := 24 } : Room).slots) := by
  refine MetFree.of_bodySF (plainFor_of_name pn2) hisR ?_
  intro p e s m args below meth c s₁ Bd hml0 hP hK
  obtain ⟨rfl, hZ, hh⟩ := hP
  have hx := Bd.exec
  have hby := Bd.bytes
  have hml : c.maxLocals = 4 := hml0
  have hown : s.vm.findClass "com/example/tally/tally/score/QuestionScore" = some m.cls := findClass_of_methodNamed Bd.named
  have hnm := (name_of_methodNamed Bd.named Bd.method).1
  have X0 : Stand p l e ({ frames := 2, cells := 0, slots := 0, locals := 24 } : Room) s m #[(.ref a1), (.int p1), (.int p2), (.int p3)] below meth c s₁ [] 0 0 := Stand.of_body Bd
  have e0 : s₁.heap = h0 := by rw [← hh, Bd.state]; rfl
  have N0 := Fr.nil n0
  refine Go.start (Q := Q_rm_init Z a1 p1 p2 p3 u_gold u_system u_correct h0 n0) (ef_rm_init m a1 p1 p2 p3) ?_
  have sg1 : ∀ t, Steps p.tables e below (s₁.setTop (mkF m 1 #[.val (.ref a1), .val (.int p1), .val (.int p2), .val (.int p3)] [(.ref a1)])) t → Steps p.tables e below (s₁.setTop (mkF m 0 #[.val (.ref a1), .val (.int p1), .val (.int p2), .val (.int p3)] [])) t := by
    intro t kt
    show Steps p.tables e below (s₁.setTop (mkF m 0 #[.val (.ref a1), .val (.int p1), .val (.int p2), .val (.int p3)] [])) _
    refine XS.aloadN X0.here hx rfl (hb hby d2_0) rfl rfl ?_
    exact kt
  refine Go.adv sg1 ?_
  obtain ⟨_, _, ⟨T2, L2, k2, n2⟩, -, X2, ⟨Lc2, hQ2, l2, y2, z2⟩, st2⟩ := X0.specialBack hx (y := (⟨"java/lang/Record", "<init>", "()V"⟩ : MethodName)) rfl hown (mvT hZ (hw _ (List.mem_of_getElem? (i := 11) rfl))) (mvT hZ (hw _ (List.mem_of_getElem? (i := 12) rfl))) (mvT hZ (hw _ (List.mem_of_getElem? (i := 15) rfl))) (by decide) (backOf (W := 0) (rm_rec l Z a0 hw [] a1  h0 n0 Z0 ) hZ (hw _ (List.mem_of_getElem? (i := 15) rfl)) (hw _ (List.mem_of_getElem? (i := 14) rfl)) (by decide) (by decide)) (g := (mkF m 1 #[.val (.ref a1), .val (.int p1), .val (.int p2), .val (.int p3)] [(.ref a1)])) rfl (by rw [hml]; rfl) (Steps.refl _) (a := a1) (argsL := []) (rest := []) (lenOf pd_ocV rfl) rfl (by show 2 * 0 + _ ≤ _; exact Nat.le_of_eq rfl) (hb hby d2_1) (fun _ _ => ⟨rfl, e0, (by decide : 0 + 0 ≤ _), (by decide : 0 + 0 ≤ _)⟩)
  dsimp only [Pt.U, Pt.locs, Pt.cells, Pt.slots] at X2 l2 y2 z2 st2 hQ2
  subst l2 y2 z2
  obtain ⟨rfl, N2q, e2⟩ := hQ2
  have N2 := Fr.app N0 N2q
  refine Go.tr st2 ?_
  show Go p.tables e below s _ _ _ (T2.setTop (mkF m 4 #[.val (.ref a1), .val (.int p1), .val (.int p2), .val (.int p3)] []))
  have sg3 : ∀ t, Steps p.tables e below (T2.setTop (mkF m 36 #[.val (.ref a1), .val (.int p1), .val (.int p2), .val (.int p3)] [(.int p1), (.ref a1)])) t → Steps p.tables e below (T2.setTop (mkF m 4 #[.val (.ref a1), .val (.int p1), .val (.int p2), .val (.int p3)] [])) t := by
    intro t kt
    show Steps p.tables e below (T2.setTop (mkF m 4 #[.val (.ref a1), .val (.int p1), .val (.int p2), .val (.int p3)] [])) _
    refine XS.iloadN X2.here hx rfl (hb hby d2_4) rfl ?_
    show Steps p.tables e below (T2.setTop (mkF m 5 #[.val (.ref a1), .val (.int p1), .val (.int p2), .val (.int p3)] [(.int p3)])) _
    refine XS.ifNo X2.here hx rfl (hb hby d2_5) rfl ((if0 _ _).trans (flt (hC.c1 : ¬ (p3 < (0 : Int32)))).1) ?_
    show Steps p.tables e below (T2.setTop (mkF m 8 #[.val (.ref a1), .val (.int p1), .val (.int p2), .val (.int p3)] [])) _
    refine XS.iloadN X2.here hx rfl (hb hby d2_8) rfl ?_
    show Steps p.tables e below (T2.setTop (mkF m 9 #[.val (.ref a1), .val (.int p1), .val (.int p2), .val (.int p3)] [(.int p3)])) _
    refine XS.iloadN X2.here hx rfl (hb hby d2_9) rfl ?_
    show Steps p.tables e below (T2.setTop (mkF m 10 #[.val (.ref a1), .val (.int p1), .val (.int p2), .val (.int p3)] [(.int p1), (.int p3)])) _
    refine XS.icmpNo X2.here hx rfl (hb hby d2_10) rfl (flt (hC.c2 : ¬ (p1 < p3))).2.2.1 ?_
    show Steps p.tables e below (T2.setTop (mkF m 13 #[.val (.ref a1), .val (.int p1), .val (.int p2), .val (.int p3)] [])) _
    refine XS.iloadN X2.here hx rfl (hb hby d2_13) rfl ?_
    show Steps p.tables e below (T2.setTop (mkF m 14 #[.val (.ref a1), .val (.int p1), .val (.int p2), .val (.int p3)] [(.int p3)])) _
    refine XS.iloadN X2.here hx rfl (hb hby d2_14) rfl ?_
    show Steps p.tables e below (T2.setTop (mkF m 15 #[.val (.ref a1), .val (.int p1), .val (.int p2), .val (.int p3)] [(.int p2), (.int p3)])) _
    refine XS.icmpYes X2.here hx rfl (pc0 := 15) (pc' := 34) rfl (hb hby d2_15) rfl (flt (hC.c3 : ¬ (p2 < p3))).2.2.2 (by decide) (by decide) ?_
    show Steps p.tables e below (T2.setTop (mkF m 34 #[.val (.ref a1), .val (.int p1), .val (.int p2), .val (.int p3)] [])) _
    refine XS.aloadN X2.here hx rfl (hb hby d2_34) rfl rfl ?_
    show Steps p.tables e below (T2.setTop (mkF m 35 #[.val (.ref a1), .val (.int p1), .val (.int p2), .val (.int p3)] [(.ref a1)])) _
    refine XS.iloadN X2.here hx rfl (hb hby d2_35) rfl ?_
    exact kt
  refine Go.adv sg3 ?_
  obtain ⟨T4, h4, X4, e4, W4, st4⟩ := putF X2 hx hZ hown (host := "") (Or.inl (hw _ (List.mem_of_getElem? (i := 19) rfl))) Via.refl e2 F_gold_a1 E_a1 (Or.inr ⟨(hw _ (List.mem_of_getElem? (i := 20) rfl)), rfl, hnm⟩) (hw _ (List.mem_of_getElem? (i := 6) rfl)) (ty := .int) (by decide) rfl rfl (g := (mkF m 36 #[.val (.ref a1), .val (.int p1), .val (.int p2), .val (.int p3)] [(.int p1), (.ref a1)])) rfl rfl (hb hby d2_36)
  have Fw4 := F_gold_a1.same W4
  have K4 : Keep h0 h4 [a1] := (Keep.refl h0 [a1]).wr W4 (Or.inl (List.mem_of_getElem? (i := 0) rfl))
  have Z4 : n0 ≤ h4.size := Nat.le_trans Z0 (Keep.of_wr W4).1
  have N4 := Fr.snoc X4 N2 g_a1
  refine Go.adv st4 ?_
  show Go p.tables e below s _ _ _ (T4.setTop (mkF m 39 #[.val (.ref a1), .val (.int p1), .val (.int p2), .val (.int p3)] []))
  have sg5 : ∀ t, Steps p.tables e below (T4.setTop (mkF m 41 #[.val (.ref a1), .val (.int p1), .val (.int p2), .val (.int p3)] [(.int p2), (.ref a1)])) t → Steps p.tables e below (T4.setTop (mkF m 39 #[.val (.ref a1), .val (.int p1), .val (.int p2), .val (.int p3)] [])) t := by
    intro t kt
    show Steps p.tables e below (T4.setTop (mkF m 39 #[.val (.ref a1), .val (.int p1), .val (.int p2), .val (.int p3)] [])) _
    refine XS.aloadN X4.here hx rfl (hb hby d2_39) rfl rfl ?_
    show Steps p.tables e below (T4.setTop (mkF m 40 #[.val (.ref a1), .val (.int p1), .val (.int p2), .val (.int p3)] [(.ref a1)])) _
    refine XS.iloadN X4.here hx rfl (hb hby d2_40) rfl ?_
    exact kt
  refine Go.adv sg5 ?_
  have f6 := (F_system_a1.other W4 (Or.inr (slot_ne (Or.inr (hw _ (List.mem_of_getElem? (i := 22) rfl))) (Or.inr (hw _ (List.mem_of_getElem? (i := 20) rfl))) (by decide) (t := .int) (t' := .int) (by decide) (by decide))))
  have f7 := (E_a1.wr W4)
  obtain ⟨T8, h8, X8, e8, W8, st8⟩ := putF X4 hx hZ hown (host := "") (Or.inl (hw _ (List.mem_of_getElem? (i := 21) rfl))) Via.refl e4 f6 f7 (Or.inr ⟨(hw _ (List.mem_of_getElem? (i := 22) rfl)), rfl, hnm⟩) (hw _ (List.mem_of_getElem? (i := 6) rfl)) (ty := .int) (by decide) rfl rfl (g := (mkF m 41 #[.val (.ref a1), .val (.int p1), .val (.int p2), .val (.int p3)] [(.int p2), (.ref a1)])) rfl rfl (hb hby d2_41)
  have Fw8 := f6.same W8
  have K8 : Keep h0 h8 [a1] := K4.wr W8 (Or.inl (List.mem_of_getElem? (i := 0) rfl))
  have Z8 : n0 ≤ h8.size := Nat.le_trans Z4 (Keep.of_wr W8).1
  have N8 := Fr.snoc X8 N4 g_a1
  refine Go.adv st8 ?_
  show Go p.tables e below s _ _ _ (T8.setTop (mkF m 44 #[.val (.ref a1), .val (.int p1), .val (.int p2), .val (.int p3)] []))
  have sg9 : ∀ t, Steps p.tables e below (T8.setTop (mkF m 46 #[.val (.ref a1), .val (.int p1), .val (.int p2), .val (.int p3)] [(.int p3), (.ref a1)])) t → Steps p.tables e below (T8.setTop (mkF m 44 #[.val (.ref a1), .val (.int p1), .val (.int p2), .val (.int p3)] [])) t := by
    intro t kt
    show Steps p.tables e below (T8.setTop (mkF m 44 #[.val (.ref a1), .val (.int p1), .val (.int p2), .val (.int p3)] [])) _
    refine XS.aloadN X8.here hx rfl (hb hby d2_44) rfl rfl ?_
    show Steps p.tables e below (T8.setTop (mkF m 45 #[.val (.ref a1), .val (.int p1), .val (.int p2), .val (.int p3)] [(.ref a1)])) _
    refine XS.iloadN X8.here hx rfl (hb hby d2_45) rfl ?_
    exact kt
  refine Go.adv sg9 ?_
  have f10 := ((F_correct_a1.other W4 (Or.inr (slot_ne (Or.inr (hw _ (List.mem_of_getElem? (i := 24) rfl))) (Or.inr (hw _ (List.mem_of_getElem? (i := 20) rfl))) (by decide) (t := .int) (t' := .int) (by decide) (by decide)))).other W8 (Or.inr (slot_ne (Or.inr (hw _ (List.mem_of_getElem? (i := 24) rfl))) (Or.inr (hw _ (List.mem_of_getElem? (i := 22) rfl))) (by decide) (t := .int) (t' := .int) (by decide) (by decide))))
  have f11 := (f7.wr W8)
  obtain ⟨T12, h12, X12, e12, W12, st12⟩ := putF X8 hx hZ hown (host := "") (Or.inl (hw _ (List.mem_of_getElem? (i := 23) rfl))) Via.refl e8 f10 f11 (Or.inr ⟨(hw _ (List.mem_of_getElem? (i := 24) rfl)), rfl, hnm⟩) (hw _ (List.mem_of_getElem? (i := 6) rfl)) (ty := .int) (by decide) rfl rfl (g := (mkF m 46 #[.val (.ref a1), .val (.int p1), .val (.int p2), .val (.int p3)] [(.int p3), (.ref a1)])) rfl rfl (hb hby d2_46)
  have Fw12 := f10.same W12
  have K12 : Keep h0 h12 [a1] := K8.wr W12 (Or.inl (List.mem_of_getElem? (i := 0) rfl))
  have Z12 : n0 ≤ h12.size := Nat.le_trans Z8 (Keep.of_wr W12).1
  have N12 := Fr.snoc X12 N8 g_a1
  refine Go.adv st12 ?_
  show Go p.tables e below s _ _ _ (T12.setTop (mkF m 49 #[.val (.ref a1), .val (.int p1), .val (.int p2), .val (.int p3)] []))
  refine Go.ret (v := none) X12 (fun _ => rfl) Bd.notSynchronized (fun fs hr => X12.returnOut hx Bd.returns (hb hby d2_49) hr) ?_ (by decide) (by decide)
  show Q_rm_init Z a1 p1 p2 p3 u_gold u_system u_correct h0 n0 none T12.heap _
  rw [e12]
  have f13 := (f11.wr W12)
  have f14 := ((Fw4.other W8 (Or.inr (slot_ne (Or.inr (hw _ (List.mem_of_getElem? (i := 20) rfl))) (Or.inr (hw _ (List.mem_of_getElem? (i := 22) rfl))) (by decide) (t := .int) (t' := .int) (by decide) (by decide)))).other W12 (Or.inr (slot_ne (Or.inr (hw _ (List.mem_of_getElem? (i := 20) rfl))) (Or.inr (hw _ (List.mem_of_getElem? (i := 24) rfl))) (by decide) (t := .int) (t' := .int) (by decide) (by decide))))
  have f15 := (Fw8.other W12 (Or.inr (slot_ne (Or.inr (hw _ (List.mem_of_getElem? (i := 22) rfl))) (Or.inr (hw _ (List.mem_of_getElem? (i := 24) rfl))) (by decide) (t := .int) (t' := .int) (by decide) (by decide))))
  exact ⟨rfl, N12, K12, f13, f14, f15, Fw12⟩
theorem pn5 : plainName "com/example/tally/tally/score/QuestionScore" = true := by first | (simp [plainName, overriddenIn]; done) | decide +kernel
theorem d5_0 : decode prog_51_method_4_code 0 = .ok (.aload_n 0, 1) := by decide +kernel
theorem d5_1 : decode prog_51_method_4_code 1 = .ok (.getfield 16, 3) := by decide +kernel
theorem d5_4 : decode prog_51_method_4_code 4 = .ok (.ifCond .ne 16, 3) := by decide +kernel
theorem d5_7 : decode prog_51_method_4_code 7 = .ok (.aload_n 0, 1) := by decide +kernel
theorem d5_8 : decode prog_51_method_4_code 8 = .ok (.getfield 22, 3) := by decide +kernel
theorem d5_11 : decode prog_51_method_4_code 11 = .ok (.ifCond .ne 7, 3) := by decide +kernel
theorem d5_14 : decode prog_51_method_4_code 14 = .ok (.dconst 1, 1) := by decide +kernel
theorem d5_15 : decode prog_51_method_4_code 15 = .ok (.goto 4, 3) := by decide +kernel
theorem d5_19 : decode prog_51_method_4_code 19 = .ok (.dreturn, 1) := by decide +kernel
theorem d5_18 : decode prog_51_method_4_code 18 = .ok (.dconst 0, 1) := by decide +kernel
theorem d5_20 : decode prog_51_method_4_code 20 = .ok (.aload_n 0, 1) := by decide +kernel
theorem d5_21 : decode prog_51_method_4_code 21 = .ok (.getfield 25, 3) := by decide +kernel
theorem d5_24 : decode prog_51_method_4_code 24 = .ok (.i2d, 1) := by decide +kernel
theorem d5_25 : decode prog_51_method_4_code 25 = .ok (.aload_n 0, 1) := by decide +kernel
theorem d5_26 : decode prog_51_method_4_code 26 = .ok (.getfield 16, 3) := by decide +kernel
theorem d5_29 : decode prog_51_method_4_code 29 = .ok (.i2d, 1) := by decide +kernel
theorem d5_30 : decode prog_51_method_4_code 30 = .ok (.ddiv, 1) := by decide +kernel
theorem d5_31 : decode prog_51_method_4_code 31 = .ok (.dreturn, 1) := by decide +kernel
theorem ef_rm_recall (m : MethodId) (x0 : Addr) : entryFrame m #[(.ref x0)] 1 = mkF m 0 #[.val (.ref x0)] [] := by first | (simp [entryFrame, mkF, argsToLocals, Value.category]; done) | rfl
def Q_rm_recall (Z : State) (a1 : Addr) (gg : Int32) (ss : Int32) (cc : Int32) (h0 : Heap) (n0 : Nat) (v : Option Value) (h : Heap) (L : List Loc) : Prop := v = some (.double (own_rec gg ss cc)) ∧ Fr n0 L ∧ h = h0
set_option maxRecDepth 65536 in
set_option maxHeartbeats 40000000 in
theorem rm_recall (l : Launch) (Z : State) (a0 : Array Value) (hw : ∀ d ∈ tables_1, d.before a0 Z = true) (ws : List Jvm.Cond) (a1 : Addr) (gg : Int32) (ss : Int32) (cc : Int32) (h0 : Heap) (n0 : Nat) (Z0 : n0 ≤ h0.size) (F_gold_a1 : Fld Z h0 a1 "com/example/tally/tally/score/QuestionScore" "gold" "I" (.int gg)) (F_system_a1 : Fld Z h0 a1 "com/example/tally/tally/score/QuestionScore" "system" "I" (.int ss)) (F_correct_a1 : Fld Z h0 a1 "com/example/tally/tally/score/QuestionScore" "correct" "I" (.int cc)) :
    MetFree l (⟨"com/example/tally/tally/score/QuestionScore", "recall", "()D"⟩ : MethodName) (head1 (Jvm.Cond.code (⟨"com/example/tally/tally/score/QuestionScore", "recall", "()D"⟩ : MethodName) prog_51_method_4_code 1 (some .double) :: ws) ({ frames := 0, cells := 0, slots := 0, locals := 0 } : Room)) (fun a U => a = #[(.ref a1)] ∧ Z.Warmed39 U.vm ∧ U.heap = h0) (fun _ _ _ _ _ => True) (fun _ U o U' => ∃ v L, o = .returned v ∧ Q_rm_recall Z a1 gg ss cc h0 n0 v U'.heap L ∧ FrameEnd U o U' L ({ frames := 0, cells := 0, slots := 0, locals := 0 } : Room).cells ({ frames := 0, cells := 0, slots := 0, locals := 0 } : Room).slots) := by
  refine MetFree.of_bodySF (plainFor_of_name pn5) hisR ?_
  intro p e s m args below meth c s₁ Bd hml0 hP hK
  obtain ⟨rfl, hZ, hh⟩ := hP
  have hx := Bd.exec
  have hby := Bd.bytes
  have hml : c.maxLocals = 1 := hml0
  have hown : s.vm.findClass "com/example/tally/tally/score/QuestionScore" = some m.cls := findClass_of_methodNamed Bd.named
  have hnm := (name_of_methodNamed Bd.named Bd.method).1
  have X0 : Stand p l e ({ frames := 0, cells := 0, slots := 0, locals := 0 } : Room) s m #[(.ref a1)] below meth c s₁ [] 0 0 := Stand.of_body Bd
  have e0 : s₁.heap = h0 := by rw [← hh, Bd.state]; rfl
  have N0 := Fr.nil n0
  refine Go.start (Q := Q_rm_recall Z a1 gg ss cc h0 n0) (ef_rm_recall m a1) ?_
  by_cases h1 : gg = 0
  · by_cases h2 : ss = 0
    · have sg1 : ∀ t, Steps p.tables e below (s₁.setTop (mkF m 1 #[.val (.ref a1)] [(.ref a1)])) t → Steps p.tables e below (s₁.setTop (mkF m 0 #[.val (.ref a1)] [])) t := by
        intro t kt
        show Steps p.tables e below (s₁.setTop (mkF m 0 #[.val (.ref a1)] [])) _
        refine XS.aloadN X0.here hx rfl (hb hby d5_0) rfl rfl ?_
        exact kt
      refine Go.adv sg1 ?_
      obtain ⟨T2, X2, e2, st2⟩ := getF X0 hx hZ hown (host := "") (Or.inl (hw _ (List.mem_of_getElem? (i := 19) rfl))) Via.refl e0 F_gold_a1 (g := (mkF m 1 #[.val (.ref a1)] [(.ref a1)])) rfl rfl (hb hby d5_1)
      refine Go.adv st2 ?_
      show Go p.tables e below s _ _ _ (T2.setTop (mkF m 4 #[.val (.ref a1)] [(.int gg)]))
      have sg3 : ∀ t, Steps p.tables e below (T2.setTop (mkF m 8 #[.val (.ref a1)] [(.ref a1)])) t → Steps p.tables e below (T2.setTop (mkF m 4 #[.val (.ref a1)] [(.int gg)])) t := by
        intro t kt
        show Steps p.tables e below (T2.setTop (mkF m 4 #[.val (.ref a1)] [(.int gg)])) _
        refine XS.ifNo X2.here hx rfl (hb hby d5_4) rfl ((if0 _ _).trans (teq (h1 : gg = (0 : Int32))).2) ?_
        show Steps p.tables e below (T2.setTop (mkF m 7 #[.val (.ref a1)] [])) _
        refine XS.aloadN X2.here hx rfl (hb hby d5_7) rfl rfl ?_
        exact kt
      refine Go.adv sg3 ?_
      obtain ⟨T4, X4, e4, st4⟩ := getF X2 hx hZ hown (host := "") (Or.inl (hw _ (List.mem_of_getElem? (i := 21) rfl))) Via.refl e2 F_system_a1 (g := (mkF m 8 #[.val (.ref a1)] [(.ref a1)])) rfl rfl (hb hby d5_8)
      refine Go.adv st4 ?_
      show Go p.tables e below s _ _ _ (T4.setTop (mkF m 11 #[.val (.ref a1)] [(.int ss)]))
      have sg5 : ∀ t, Steps p.tables e below (T4.setTop (mkF m 19 #[.val (.ref a1)] [(.double (4607182418800017408 : UInt64))])) t → Steps p.tables e below (T4.setTop (mkF m 11 #[.val (.ref a1)] [(.int ss)])) t := by
        intro t kt
        show Steps p.tables e below (T4.setTop (mkF m 11 #[.val (.ref a1)] [(.int ss)])) _
        refine XS.ifNo X4.here hx rfl (hb hby d5_11) rfl ((if0 _ _).trans (teq (h2 : ss = (0 : Int32))).2) ?_
        show Steps p.tables e below (T4.setTop (mkF m 14 #[.val (.ref a1)] [])) _
        refine own_dconst1 X4.here hx rfl (hb hby d5_14) ?_
        show Steps p.tables e below (T4.setTop (mkF m 15 #[.val (.ref a1)] [(.double (4607182418800017408 : UInt64))])) _
        refine XS.goto X4.here hx rfl (pc0 := 15) (pc' := 19) rfl (hb hby d5_15) (by decide) (by decide) ?_
        exact kt
      refine Go.adv sg5 ?_
      refine Go.ret (v := (some (.double (4607182418800017408 : UInt64)))) X4 (fun h => by rw [Bd.returns] at h; cases h) Bd.notSynchronized (fun fs hr => retOut X4 hx Bd.returns rfl (Or.inr (Or.inr (Or.inl ⟨rfl, rfl, _, rfl⟩))) (hb hby d5_19) hr) ?_ (by decide) (by decide)
      show Q_rm_recall Z a1 gg ss cc h0 n0 (some (.double (4607182418800017408 : UInt64))) T4.heap _
      rw [e4]
      exact ⟨congrArg (fun z => some (Value.double z)) (own_rec_a h1 h2).symm, N0, rfl⟩
    · have sg6 : ∀ t, Steps p.tables e below (s₁.setTop (mkF m 1 #[.val (.ref a1)] [(.ref a1)])) t → Steps p.tables e below (s₁.setTop (mkF m 0 #[.val (.ref a1)] [])) t := by
        intro t kt
        show Steps p.tables e below (s₁.setTop (mkF m 0 #[.val (.ref a1)] [])) _
        refine XS.aloadN X0.here hx rfl (hb hby d5_0) rfl rfl ?_
        exact kt
      refine Go.adv sg6 ?_
      obtain ⟨T7, X7, e7, st7⟩ := getF X0 hx hZ hown (host := "") (Or.inl (hw _ (List.mem_of_getElem? (i := 19) rfl))) Via.refl e0 F_gold_a1 (g := (mkF m 1 #[.val (.ref a1)] [(.ref a1)])) rfl rfl (hb hby d5_1)
      refine Go.adv st7 ?_
      show Go p.tables e below s _ _ _ (T7.setTop (mkF m 4 #[.val (.ref a1)] [(.int gg)]))
      have sg8 : ∀ t, Steps p.tables e below (T7.setTop (mkF m 8 #[.val (.ref a1)] [(.ref a1)])) t → Steps p.tables e below (T7.setTop (mkF m 4 #[.val (.ref a1)] [(.int gg)])) t := by
        intro t kt
        show Steps p.tables e below (T7.setTop (mkF m 4 #[.val (.ref a1)] [(.int gg)])) _
        refine XS.ifNo X7.here hx rfl (hb hby d5_4) rfl ((if0 _ _).trans (teq (h1 : gg = (0 : Int32))).2) ?_
        show Steps p.tables e below (T7.setTop (mkF m 7 #[.val (.ref a1)] [])) _
        refine XS.aloadN X7.here hx rfl (hb hby d5_7) rfl rfl ?_
        exact kt
      refine Go.adv sg8 ?_
      obtain ⟨T9, X9, e9, st9⟩ := getF X7 hx hZ hown (host := "") (Or.inl (hw _ (List.mem_of_getElem? (i := 21) rfl))) Via.refl e7 F_system_a1 (g := (mkF m 8 #[.val (.ref a1)] [(.ref a1)])) rfl rfl (hb hby d5_8)
      refine Go.adv st9 ?_
      show Go p.tables e below s _ _ _ (T9.setTop (mkF m 11 #[.val (.ref a1)] [(.int ss)]))
      have sg10 : ∀ t, Steps p.tables e below (T9.setTop (mkF m 19 #[.val (.ref a1)] [(.double (0 : UInt64))])) t → Steps p.tables e below (T9.setTop (mkF m 11 #[.val (.ref a1)] [(.int ss)])) t := by
        intro t kt
        show Steps p.tables e below (T9.setTop (mkF m 11 #[.val (.ref a1)] [(.int ss)])) _
        refine XS.ifYes X9.here hx rfl (pc0 := 11) (pc' := 18) rfl (hb hby d5_11) rfl ((if0 _ _).trans (feq (h2 : ¬ (ss = (0 : Int32)))).2) (by decide) (by decide) ?_
        show Steps p.tables e below (T9.setTop (mkF m 18 #[.val (.ref a1)] [])) _
        refine own_dconst0 X9.here hx rfl (hb hby d5_18) ?_
        exact kt
      refine Go.adv sg10 ?_
      refine Go.ret (v := (some (.double (0 : UInt64)))) X9 (fun h => by rw [Bd.returns] at h; cases h) Bd.notSynchronized (fun fs hr => retOut X9 hx Bd.returns rfl (Or.inr (Or.inr (Or.inl ⟨rfl, rfl, _, rfl⟩))) (hb hby d5_19) hr) ?_ (by decide) (by decide)
      show Q_rm_recall Z a1 gg ss cc h0 n0 (some (.double (0 : UInt64))) T9.heap _
      rw [e9]
      exact ⟨congrArg (fun z => some (Value.double z)) (own_rec_b h1 h2).symm, N0, rfl⟩
  · have sg11 : ∀ t, Steps p.tables e below (s₁.setTop (mkF m 1 #[.val (.ref a1)] [(.ref a1)])) t → Steps p.tables e below (s₁.setTop (mkF m 0 #[.val (.ref a1)] [])) t := by
      intro t kt
      show Steps p.tables e below (s₁.setTop (mkF m 0 #[.val (.ref a1)] [])) _
      refine XS.aloadN X0.here hx rfl (hb hby d5_0) rfl rfl ?_
      exact kt
    refine Go.adv sg11 ?_
    obtain ⟨T12, X12, e12, st12⟩ := getF X0 hx hZ hown (host := "") (Or.inl (hw _ (List.mem_of_getElem? (i := 19) rfl))) Via.refl e0 F_gold_a1 (g := (mkF m 1 #[.val (.ref a1)] [(.ref a1)])) rfl rfl (hb hby d5_1)
    refine Go.adv st12 ?_
    show Go p.tables e below s _ _ _ (T12.setTop (mkF m 4 #[.val (.ref a1)] [(.int gg)]))
    have sg13 : ∀ t, Steps p.tables e below (T12.setTop (mkF m 21 #[.val (.ref a1)] [(.ref a1)])) t → Steps p.tables e below (T12.setTop (mkF m 4 #[.val (.ref a1)] [(.int gg)])) t := by
      intro t kt
      show Steps p.tables e below (T12.setTop (mkF m 4 #[.val (.ref a1)] [(.int gg)])) _
      refine XS.ifYes X12.here hx rfl (pc0 := 4) (pc' := 20) rfl (hb hby d5_4) rfl ((if0 _ _).trans (feq (h1 : ¬ (gg = (0 : Int32)))).2) (by decide) (by decide) ?_
      show Steps p.tables e below (T12.setTop (mkF m 20 #[.val (.ref a1)] [])) _
      refine XS.aloadN X12.here hx rfl (hb hby d5_20) rfl rfl ?_
      exact kt
    refine Go.adv sg13 ?_
    obtain ⟨T14, X14, e14, st14⟩ := getF X12 hx hZ hown (host := "") (Or.inl (hw _ (List.mem_of_getElem? (i := 23) rfl))) Via.refl e12 F_correct_a1 (g := (mkF m 21 #[.val (.ref a1)] [(.ref a1)])) rfl rfl (hb hby d5_21)
    refine Go.adv st14 ?_
    show Go p.tables e below s _ _ _ (T14.setTop (mkF m 24 #[.val (.ref a1)] [(.int cc)]))
    have sg15 : ∀ t, Steps p.tables e below (T14.setTop (mkF m 26 #[.val (.ref a1)] [(.ref a1), (.double (FP.i2d cc))])) t → Steps p.tables e below (T14.setTop (mkF m 24 #[.val (.ref a1)] [(.int cc)])) t := by
      intro t kt
      show Steps p.tables e below (T14.setTop (mkF m 24 #[.val (.ref a1)] [(.int cc)])) _
      refine own_i2d X14.here hx rfl (hb hby d5_24) rfl ?_
      show Steps p.tables e below (T14.setTop (mkF m 25 #[.val (.ref a1)] [(.double (FP.i2d cc))])) _
      refine XS.aloadN X14.here hx rfl (hb hby d5_25) rfl rfl ?_
      exact kt
    refine Go.adv sg15 ?_
    obtain ⟨T16, X16, e16, st16⟩ := getF X14 hx hZ hown (host := "") (Or.inl (hw _ (List.mem_of_getElem? (i := 19) rfl))) Via.refl e14 F_gold_a1 (g := (mkF m 26 #[.val (.ref a1)] [(.ref a1), (.double (FP.i2d cc))])) rfl rfl (hb hby d5_26)
    refine Go.adv st16 ?_
    show Go p.tables e below s _ _ _ (T16.setTop (mkF m 29 #[.val (.ref a1)] [(.int gg), (.double (FP.i2d cc))]))
    have sg17 : ∀ t, Steps p.tables e below (T16.setTop (mkF m 31 #[.val (.ref a1)] [(.double (FP.ddiv (FP.i2d cc) (FP.i2d gg)))])) t → Steps p.tables e below (T16.setTop (mkF m 29 #[.val (.ref a1)] [(.int gg), (.double (FP.i2d cc))])) t := by
      intro t kt
      show Steps p.tables e below (T16.setTop (mkF m 29 #[.val (.ref a1)] [(.int gg), (.double (FP.i2d cc))])) _
      refine own_i2d X16.here hx rfl (hb hby d5_29) rfl ?_
      show Steps p.tables e below (T16.setTop (mkF m 30 #[.val (.ref a1)] [(.double (FP.i2d gg)), (.double (FP.i2d cc))])) _
      refine own_ddiv X16.here hx rfl (hb hby d5_30) rfl (own_numdiv (FP.Core.i2d_int cc) (FP.Core.i2d_int gg) (fun q => h1 (own_z32.mpr q))) ?_
      exact kt
    refine Go.adv sg17 ?_
    refine Go.ret (v := (some (.double (FP.ddiv (FP.i2d cc) (FP.i2d gg))))) X16 (fun h => by rw [Bd.returns] at h; cases h) Bd.notSynchronized (fun fs hr => retOut X16 hx Bd.returns rfl (Or.inr (Or.inr (Or.inl ⟨rfl, rfl, _, rfl⟩))) (hb hby d5_31) hr) ?_ (by decide) (by decide)
    show Q_rm_recall Z a1 gg ss cc h0 n0 (some (.double (FP.ddiv (FP.i2d cc) (FP.i2d gg)))) T16.heap _
    rw [e16]
    exact ⟨congrArg (fun z => some (Value.double z)) (own_rec_c h1).symm, N0, rfl⟩
theorem pn6 : plainName "com/example/tally/tally/score/QuestionScore" = true := by first | (simp [plainName, overriddenIn]; done) | decide +kernel
theorem d6_0 : decode prog_51_method_3_code 0 = .ok (.aload_n 0, 1) := by decide +kernel
theorem d6_1 : decode prog_51_method_3_code 1 = .ok (.getfield 22, 3) := by decide +kernel
theorem d6_4 : decode prog_51_method_3_code 4 = .ok (.ifCond .ne 16, 3) := by decide +kernel
theorem d6_7 : decode prog_51_method_3_code 7 = .ok (.aload_n 0, 1) := by decide +kernel
theorem d6_8 : decode prog_51_method_3_code 8 = .ok (.getfield 16, 3) := by decide +kernel
theorem d6_11 : decode prog_51_method_3_code 11 = .ok (.ifCond .ne 7, 3) := by decide +kernel
theorem d6_14 : decode prog_51_method_3_code 14 = .ok (.dconst 1, 1) := by decide +kernel
theorem d6_15 : decode prog_51_method_3_code 15 = .ok (.goto 4, 3) := by decide +kernel
theorem d6_19 : decode prog_51_method_3_code 19 = .ok (.dreturn, 1) := by decide +kernel
theorem d6_18 : decode prog_51_method_3_code 18 = .ok (.dconst 0, 1) := by decide +kernel
theorem d6_20 : decode prog_51_method_3_code 20 = .ok (.aload_n 0, 1) := by decide +kernel
theorem d6_21 : decode prog_51_method_3_code 21 = .ok (.getfield 25, 3) := by decide +kernel
theorem d6_24 : decode prog_51_method_3_code 24 = .ok (.i2d, 1) := by decide +kernel
theorem d6_25 : decode prog_51_method_3_code 25 = .ok (.aload_n 0, 1) := by decide +kernel
theorem d6_26 : decode prog_51_method_3_code 26 = .ok (.getfield 22, 3) := by decide +kernel
theorem d6_29 : decode prog_51_method_3_code 29 = .ok (.i2d, 1) := by decide +kernel
theorem d6_30 : decode prog_51_method_3_code 30 = .ok (.ddiv, 1) := by decide +kernel
theorem d6_31 : decode prog_51_method_3_code 31 = .ok (.dreturn, 1) := by decide +kernel
theorem ef_rm_precision (m : MethodId) (x0 : Addr) : entryFrame m #[(.ref x0)] 1 = mkF m 0 #[.val (.ref x0)] [] := by first | (simp [entryFrame, mkF, argsToLocals, Value.category]; done) | rfl
def Q_rm_precision (Z : State) (a1 : Addr) (gg : Int32) (ss : Int32) (cc : Int32) (h0 : Heap) (n0 : Nat) (v : Option Value) (h : Heap) (L : List Loc) : Prop := v = some (.double (own_prec gg ss cc)) ∧ Fr n0 L ∧ h = h0
set_option maxRecDepth 65536 in
set_option maxHeartbeats 40000000 in
theorem rm_precision (l : Launch) (Z : State) (a0 : Array Value) (hw : ∀ d ∈ tables_1, d.before a0 Z = true) (ws : List Jvm.Cond) (a1 : Addr) (gg : Int32) (ss : Int32) (cc : Int32) (h0 : Heap) (n0 : Nat) (Z0 : n0 ≤ h0.size) (F_gold_a1 : Fld Z h0 a1 "com/example/tally/tally/score/QuestionScore" "gold" "I" (.int gg)) (F_system_a1 : Fld Z h0 a1 "com/example/tally/tally/score/QuestionScore" "system" "I" (.int ss)) (F_correct_a1 : Fld Z h0 a1 "com/example/tally/tally/score/QuestionScore" "correct" "I" (.int cc)) :
    MetFree l (⟨"com/example/tally/tally/score/QuestionScore", "precision", "()D"⟩ : MethodName) (head1 (Jvm.Cond.code (⟨"com/example/tally/tally/score/QuestionScore", "precision", "()D"⟩ : MethodName) prog_51_method_3_code 1 (some .double) :: ws) ({ frames := 0, cells := 0, slots := 0, locals := 0 } : Room)) (fun a U => a = #[(.ref a1)] ∧ Z.Warmed39 U.vm ∧ U.heap = h0) (fun _ _ _ _ _ => True) (fun _ U o U' => ∃ v L, o = .returned v ∧ Q_rm_precision Z a1 gg ss cc h0 n0 v U'.heap L ∧ FrameEnd U o U' L ({ frames := 0, cells := 0, slots := 0, locals := 0 } : Room).cells ({ frames := 0, cells := 0, slots := 0, locals := 0 } : Room).slots) := by
  refine MetFree.of_bodySF (plainFor_of_name pn6) hisR ?_
  intro p e s m args below meth c s₁ Bd hml0 hP hK
  obtain ⟨rfl, hZ, hh⟩ := hP
  have hx := Bd.exec
  have hby := Bd.bytes
  have hml : c.maxLocals = 1 := hml0
  have hown : s.vm.findClass "com/example/tally/tally/score/QuestionScore" = some m.cls := findClass_of_methodNamed Bd.named
  have hnm := (name_of_methodNamed Bd.named Bd.method).1
  have X0 : Stand p l e ({ frames := 0, cells := 0, slots := 0, locals := 0 } : Room) s m #[(.ref a1)] below meth c s₁ [] 0 0 := Stand.of_body Bd
  have e0 : s₁.heap = h0 := by rw [← hh, Bd.state]; rfl
  have N0 := Fr.nil n0
  refine Go.start (Q := Q_rm_precision Z a1 gg ss cc h0 n0) (ef_rm_precision m a1) ?_
  by_cases h1 : ss = 0
  · by_cases h2 : gg = 0
    · have sg1 : ∀ t, Steps p.tables e below (s₁.setTop (mkF m 1 #[.val (.ref a1)] [(.ref a1)])) t → Steps p.tables e below (s₁.setTop (mkF m 0 #[.val (.ref a1)] [])) t := by
        intro t kt
        show Steps p.tables e below (s₁.setTop (mkF m 0 #[.val (.ref a1)] [])) _
        refine XS.aloadN X0.here hx rfl (hb hby d6_0) rfl rfl ?_
        exact kt
      refine Go.adv sg1 ?_
      obtain ⟨T2, X2, e2, st2⟩ := getF X0 hx hZ hown (host := "") (Or.inl (hw _ (List.mem_of_getElem? (i := 21) rfl))) Via.refl e0 F_system_a1 (g := (mkF m 1 #[.val (.ref a1)] [(.ref a1)])) rfl rfl (hb hby d6_1)
      refine Go.adv st2 ?_
      show Go p.tables e below s _ _ _ (T2.setTop (mkF m 4 #[.val (.ref a1)] [(.int ss)]))
      have sg3 : ∀ t, Steps p.tables e below (T2.setTop (mkF m 8 #[.val (.ref a1)] [(.ref a1)])) t → Steps p.tables e below (T2.setTop (mkF m 4 #[.val (.ref a1)] [(.int ss)])) t := by
        intro t kt
        show Steps p.tables e below (T2.setTop (mkF m 4 #[.val (.ref a1)] [(.int ss)])) _
        refine XS.ifNo X2.here hx rfl (hb hby d6_4) rfl ((if0 _ _).trans (teq (h1 : ss = (0 : Int32))).2) ?_
        show Steps p.tables e below (T2.setTop (mkF m 7 #[.val (.ref a1)] [])) _
        refine XS.aloadN X2.here hx rfl (hb hby d6_7) rfl rfl ?_
        exact kt
      refine Go.adv sg3 ?_
      obtain ⟨T4, X4, e4, st4⟩ := getF X2 hx hZ hown (host := "") (Or.inl (hw _ (List.mem_of_getElem? (i := 19) rfl))) Via.refl e2 F_gold_a1 (g := (mkF m 8 #[.val (.ref a1)] [(.ref a1)])) rfl rfl (hb hby d6_8)
      refine Go.adv st4 ?_
      show Go p.tables e below s _ _ _ (T4.setTop (mkF m 11 #[.val (.ref a1)] [(.int gg)]))
      have sg5 : ∀ t, Steps p.tables e below (T4.setTop (mkF m 19 #[.val (.ref a1)] [(.double (4607182418800017408 : UInt64))])) t → Steps p.tables e below (T4.setTop (mkF m 11 #[.val (.ref a1)] [(.int gg)])) t := by
        intro t kt
        show Steps p.tables e below (T4.setTop (mkF m 11 #[.val (.ref a1)] [(.int gg)])) _
        refine XS.ifNo X4.here hx rfl (hb hby d6_11) rfl ((if0 _ _).trans (teq (h2 : gg = (0 : Int32))).2) ?_
        show Steps p.tables e below (T4.setTop (mkF m 14 #[.val (.ref a1)] [])) _
        refine own_dconst1 X4.here hx rfl (hb hby d6_14) ?_
        show Steps p.tables e below (T4.setTop (mkF m 15 #[.val (.ref a1)] [(.double (4607182418800017408 : UInt64))])) _
        refine XS.goto X4.here hx rfl (pc0 := 15) (pc' := 19) rfl (hb hby d6_15) (by decide) (by decide) ?_
        exact kt
      refine Go.adv sg5 ?_
      refine Go.ret (v := (some (.double (4607182418800017408 : UInt64)))) X4 (fun h => by rw [Bd.returns] at h; cases h) Bd.notSynchronized (fun fs hr => retOut X4 hx Bd.returns rfl (Or.inr (Or.inr (Or.inl ⟨rfl, rfl, _, rfl⟩))) (hb hby d6_19) hr) ?_ (by decide) (by decide)
      show Q_rm_precision Z a1 gg ss cc h0 n0 (some (.double (4607182418800017408 : UInt64))) T4.heap _
      rw [e4]
      exact ⟨congrArg (fun z => some (Value.double z)) (own_prec_a h1 h2).symm, N0, rfl⟩
    · have sg6 : ∀ t, Steps p.tables e below (s₁.setTop (mkF m 1 #[.val (.ref a1)] [(.ref a1)])) t → Steps p.tables e below (s₁.setTop (mkF m 0 #[.val (.ref a1)] [])) t := by
        intro t kt
        show Steps p.tables e below (s₁.setTop (mkF m 0 #[.val (.ref a1)] [])) _
        refine XS.aloadN X0.here hx rfl (hb hby d6_0) rfl rfl ?_
        exact kt
      refine Go.adv sg6 ?_
      obtain ⟨T7, X7, e7, st7⟩ := getF X0 hx hZ hown (host := "") (Or.inl (hw _ (List.mem_of_getElem? (i := 21) rfl))) Via.refl e0 F_system_a1 (g := (mkF m 1 #[.val (.ref a1)] [(.ref a1)])) rfl rfl (hb hby d6_1)
      refine Go.adv st7 ?_
      show Go p.tables e below s _ _ _ (T7.setTop (mkF m 4 #[.val (.ref a1)] [(.int ss)]))
      have sg8 : ∀ t, Steps p.tables e below (T7.setTop (mkF m 8 #[.val (.ref a1)] [(.ref a1)])) t → Steps p.tables e below (T7.setTop (mkF m 4 #[.val (.ref a1)] [(.int ss)])) t := by
        intro t kt
        show Steps p.tables e below (T7.setTop (mkF m 4 #[.val (.ref a1)] [(.int ss)])) _
        refine XS.ifNo X7.here hx rfl (hb hby d6_4) rfl ((if0 _ _).trans (teq (h1 : ss = (0 : Int32))).2) ?_
        show Steps p.tables e below (T7.setTop (mkF m 7 #[.val (.ref a1)] [])) _
        refine XS.aloadN X7.here hx rfl (hb hby d6_7) rfl rfl ?_
        exact kt
      refine Go.adv sg8 ?_
      obtain ⟨T9, X9, e9, st9⟩ := getF X7 hx hZ hown (host := "") (Or.inl (hw _ (List.mem_of_getElem? (i := 19) rfl))) Via.refl e7 F_gold_a1 (g := (mkF m 8 #[.val (.ref a1)] [(.ref a1)])) rfl rfl (hb hby d6_8)
      refine Go.adv st9 ?_
      show Go p.tables e below s _ _ _ (T9.setTop (mkF m 11 #[.val (.ref a1)] [(.int gg)]))
      have sg10 : ∀ t, Steps p.tables e below (T9.setTop (mkF m 19 #[.val (.ref a1)] [(.double (0 : UInt64))])) t → Steps p.tables e below (T9.setTop (mkF m 11 #[.val (.ref a1)] [(.int gg)])) t := by
        intro t kt
        show Steps p.tables e below (T9.setTop (mkF m 11 #[.val (.ref a1)] [(.int gg)])) _
        refine XS.ifYes X9.here hx rfl (pc0 := 11) (pc' := 18) rfl (hb hby d6_11) rfl ((if0 _ _).trans (feq (h2 : ¬ (gg = (0 : Int32)))).2) (by decide) (by decide) ?_
        show Steps p.tables e below (T9.setTop (mkF m 18 #[.val (.ref a1)] [])) _
        refine own_dconst0 X9.here hx rfl (hb hby d6_18) ?_
        exact kt
      refine Go.adv sg10 ?_
      refine Go.ret (v := (some (.double (0 : UInt64)))) X9 (fun h => by rw [Bd.returns] at h; cases h) Bd.notSynchronized (fun fs hr => retOut X9 hx Bd.returns rfl (Or.inr (Or.inr (Or.inl ⟨rfl, rfl, _, rfl⟩))) (hb hby d6_19) hr) ?_ (by decide) (by decide)
      show Q_rm_precision Z a1 gg ss cc h0 n0 (some (.double (0 : UInt64))) T9.heap _
      rw [e9]
      exact ⟨congrArg (fun z => some (Value.double z)) (own_prec_b h1 h2).symm, N0, rfl⟩
  · have sg11 : ∀ t, Steps p.tables e below (s₁.setTop (mkF m 1 #[.val (.ref a1)] [(.ref a1)])) t → Steps p.tables e below (s₁.setTop (mkF m 0 #[.val (.ref a1)] [])) t := by
      intro t kt
      show Steps p.tables e below (s₁.setTop (mkF m 0 #[.val (.ref a1)] [])) _
      refine XS.aloadN X0.here hx rfl (hb hby d6_0) rfl rfl ?_
      exact kt
    refine Go.adv sg11 ?_
    obtain ⟨T12, X12, e12, st12⟩ := getF X0 hx hZ hown (host := "") (Or.inl (hw _ (List.mem_of_getElem? (i := 21) rfl))) Via.refl e0 F_system_a1 (g := (mkF m 1 #[.val (.ref a1)] [(.ref a1)])) rfl rfl (hb hby d6_1)
    refine Go.adv st12 ?_
    show Go p.tables e below s _ _ _ (T12.setTop (mkF m 4 #[.val (.ref a1)] [(.int ss)]))
    have sg13 : ∀ t, Steps p.tables e below (T12.setTop (mkF m 21 #[.val (.ref a1)] [(.ref a1)])) t → Steps p.tables e below (T12.setTop (mkF m 4 #[.val (.ref a1)] [(.int ss)])) t := by
      intro t kt
      show Steps p.tables e below (T12.setTop (mkF m 4 #[.val (.ref a1)] [(.int ss)])) _
      refine XS.ifYes X12.here hx rfl (pc0 := 4) (pc' := 20) rfl (hb hby d6_4) rfl ((if0 _ _).trans (feq (h1 : ¬ (ss = (0 : Int32)))).2) (by decide) (by decide) ?_
      show Steps p.tables e below (T12.setTop (mkF m 20 #[.val (.ref a1)] [])) _
      refine XS.aloadN X12.here hx rfl (hb hby d6_20) rfl rfl ?_
      exact kt
    refine Go.adv sg13 ?_
    obtain ⟨T14, X14, e14, st14⟩ := getF X12 hx hZ hown (host := "") (Or.inl (hw _ (List.mem_of_getElem? (i := 23) rfl))) Via.refl e12 F_correct_a1 (g := (mkF m 21 #[.val (.ref a1)] [(.ref a1)])) rfl rfl (hb hby d6_21)
    refine Go.adv st14 ?_
    show Go p.tables e below s _ _ _ (T14.setTop (mkF m 24 #[.val (.ref a1)] [(.int cc)]))
    have sg15 : ∀ t, Steps p.tables e below (T14.setTop (mkF m 26 #[.val (.ref a1)] [(.ref a1), (.double (FP.i2d cc))])) t → Steps p.tables e below (T14.setTop (mkF m 24 #[.val (.ref a1)] [(.int cc)])) t := by
      intro t kt
      show Steps p.tables e below (T14.setTop (mkF m 24 #[.val (.ref a1)] [(.int cc)])) _
      refine own_i2d X14.here hx rfl (hb hby d6_24) rfl ?_
      show Steps p.tables e below (T14.setTop (mkF m 25 #[.val (.ref a1)] [(.double (FP.i2d cc))])) _
      refine XS.aloadN X14.here hx rfl (hb hby d6_25) rfl rfl ?_
      exact kt
    refine Go.adv sg15 ?_
    obtain ⟨T16, X16, e16, st16⟩ := getF X14 hx hZ hown (host := "") (Or.inl (hw _ (List.mem_of_getElem? (i := 21) rfl))) Via.refl e14 F_system_a1 (g := (mkF m 26 #[.val (.ref a1)] [(.ref a1), (.double (FP.i2d cc))])) rfl rfl (hb hby d6_26)
    refine Go.adv st16 ?_
    show Go p.tables e below s _ _ _ (T16.setTop (mkF m 29 #[.val (.ref a1)] [(.int ss), (.double (FP.i2d cc))]))
    have sg17 : ∀ t, Steps p.tables e below (T16.setTop (mkF m 31 #[.val (.ref a1)] [(.double (FP.ddiv (FP.i2d cc) (FP.i2d ss)))])) t → Steps p.tables e below (T16.setTop (mkF m 29 #[.val (.ref a1)] [(.int ss), (.double (FP.i2d cc))])) t := by
      intro t kt
      show Steps p.tables e below (T16.setTop (mkF m 29 #[.val (.ref a1)] [(.int ss), (.double (FP.i2d cc))])) _
      refine own_i2d X16.here hx rfl (hb hby d6_29) rfl ?_
      show Steps p.tables e below (T16.setTop (mkF m 30 #[.val (.ref a1)] [(.double (FP.i2d ss)), (.double (FP.i2d cc))])) _
      refine own_ddiv X16.here hx rfl (hb hby d6_30) rfl (own_numdiv (FP.Core.i2d_int cc) (FP.Core.i2d_int ss) (fun q => h1 (own_z32.mpr q))) ?_
      exact kt
    refine Go.adv sg17 ?_
    refine Go.ret (v := (some (.double (FP.ddiv (FP.i2d cc) (FP.i2d ss))))) X16 (fun h => by rw [Bd.returns] at h; cases h) Bd.notSynchronized (fun fs hr => retOut X16 hx Bd.returns rfl (Or.inr (Or.inr (Or.inl ⟨rfl, rfl, _, rfl⟩))) (hb hby d6_31) hr) ?_ (by decide) (by decide)
    show Q_rm_precision Z a1 gg ss cc h0 n0 (some (.double (FP.ddiv (FP.i2d cc) (FP.i2d ss)))) T16.heap _
    rw [e16]
    exact ⟨congrArg (fun z => some (Value.double z)) (own_prec_c h1).symm, N0, rfl⟩

theorem own_rp (gg ss cc : Int32) : own_prec ss gg cc = own_rec gg ss cc := rfl
theorem own_rec_A {gg ss cc : Int32} (h1 : gg = 0) (h2 : ss = 0) : FP.Core.dcmp (own_rec gg ss cc) 4607182418800017408 = some .eq ∧ FP.Core.dcmp (own_prec ss gg cc) (own_rec gg ss cc) = some .eq ∧ FP.Core.dcmp 0 (own_rec gg ss cc) = some .lt ∧ FP.Core.dcmp (own_rec gg ss cc) 0 = some .gt := by
  rw [own_rp, own_rec_a h1 h2]
  exact ⟨own_c11, own_c11, own_c01, own_c10⟩
theorem own_rec_B {gg ss cc : Int32} (h1 : gg = 0) (h2 : ¬ ss = 0) : FP.Core.dcmp (own_rec gg ss cc) 4607182418800017408 = some .lt ∧ FP.Core.dcmp (own_prec ss gg cc) (own_rec gg ss cc) = some .eq ∧ FP.Core.dcmp 0 (own_rec gg ss cc) = some .eq ∧ FP.Core.dcmp (own_rec gg ss cc) 0 = some .eq := by
  rw [own_rp, own_rec_b h1 h2]
  exact ⟨own_c01, own_c00, own_c00, own_c00⟩
theorem own_rec_D {gg ss cc : Int32} (hC : OwnCnt gg ss cc) (h1 : ¬ gg = 0) :
    FP.Core.dcmp (own_rec gg ss cc) 4607182418800017408 = some (if cc = gg then .eq else .lt) ∧ FP.Core.dcmp (own_prec ss gg cc) (own_rec gg ss cc) = some .eq ∧
    FP.Core.dcmp 0 (own_rec gg ss cc) = some (if cc = 0 then .eq else .lt) ∧ FP.Core.dcmp (own_rec gg ss cc) 0 = some (if cc = 0 then .eq else .gt) ∧
    FP.Core.dcmp (own_rec gg ss cc) (FP.ddiv (FP.i2d cc) (FP.i2d gg)) = some .eq ∧ OwnNum (FP.ddiv (FP.i2d cc) (FP.i2d gg)) := by
  rw [own_rp, own_rec_c h1]
  obtain ⟨k1, k2, k3⟩ := own_part hC.1 hC.2.1 h1
  have k4 := own_same hC.1 hC.2.1 h1
  exact ⟨k1, k4, k3, k2, k4, own_numdiv (FP.Core.i2d_int cc) (FP.Core.i2d_int gg) (fun q => h1 (own_z32.mpr q))⟩
theorem own_pos {x : Int32} (h0 : 0 ≤ x.toInt) (h : ¬ x = 0) : (0 : Int32) < x := by
  rw [Int32.lt_iff_toInt_lt]; show 0 < x.toInt
  have : x.toInt ≠ 0 := fun q => h (own_z32.mpr q)
  omega
theorem own_npos {x : Int32} (h : x = 0) : ¬ ((0 : Int32) < x) := by rw [h]; decide
theorem pn0 : plainName "com/example/tally/tally/score/QuestionScoreRecallPinLaw" = true := by first | (simp [plainName, overriddenIn]; done) | decide +kernel
theorem pd_oIIcI : parseMethodDescriptor "(II)I" = some ⟨[.int, .int], some .int⟩ := by decide +kernel
theorem pd_oIIIcV : parseMethodDescriptor "(III)V" = some ⟨[.int, .int, .int], none⟩ := by decide +kernel
theorem pd_ocD : parseMethodDescriptor "()D" = some ⟨[], some .double⟩ := by decide +kernel
theorem ef_rm0 (m : MethodId) (x0 : Int32) (x1 : Int32) (x2 : Int32) (x3 : Int32) : entryFrame m #[(.int x0), (.int x1), (.int x2), (.int x3)] maxLocals = mkF m 0 #[.val (.int x0), .val (.int x1), .val (.int x2), .val (.int x3), .unset, .unset, .unset, .unset, .unset, .unset, .unset, .unset, .unset, .unset, .unset, .unset, .unset, .unset] [] := by first | (simp [entryFrame, mkF, argsToLocals, Value.category, maxLocals]; done) | rfl
def Q_rm0 (Z : State) (p1 : Int32) (p2 : Int32) (p3 : Int32) (p4 : Int32) (h0 : Heap) (n0 : Nat) (v : Option Value) (h : Heap) (L : List Loc) : Prop := v = some (.int (1 : Int32)) ∧ Fr n0 L
set_option maxRecDepth 65536 in
set_option maxHeartbeats 40000000 in
theorem rm0 (l : Launch) (Z : State) (a0 : Array Value) (hw : ∀ d ∈ tables_1, d.before a0 Z = true) (ws : List Jvm.Cond) (p1 : Int32) (p2 : Int32) (p3 : Int32) (p4 : Int32) (h0 : Heap) (n0 : Nat) (Z0 : n0 ≤ h0.size)  :
    MetFree l x (head1 (Jvm.Cond.code x code maxLocals ret :: ws) room_1) (fun a U => a = #[(.int p1), (.int p2), (.int p3), (.int p4)] ∧ Z.Warmed39 U.vm ∧ U.heap = h0) (fun _ _ _ _ _ => True) (fun _ U o U' => ∃ v L, o = .returned v ∧ Q_rm0 Z p1 p2 p3 p4 h0 n0 v U'.heap L ∧ FrameEnd U o U' L room_1.cells room_1.slots) := by
  refine MetFree.of_bodySF (plainFor_of_name pn0) hisR ?_
  intro p e s m args below meth c s₁ Bd hml0 hP hK
  obtain ⟨rfl, hZ, hh⟩ := hP
  have hx := Bd.exec
  have hby := Bd.bytes
  have hml : c.maxLocals = 18 := hml0
  have hown : s.vm.findClass "com/example/tally/tally/score/QuestionScoreRecallPinLaw" = some m.cls := findClass_of_methodNamed Bd.named
  have hnm := (name_of_methodNamed Bd.named Bd.method).1
  have X0 : Stand p l e room_1 s m #[(.int p1), (.int p2), (.int p3), (.int p4)] below meth c s₁ [] 0 0 := Stand.of_body Bd
  have e0 : s₁.heap = h0 := by rw [← hh, Bd.state]; rfl
  have N0 := Fr.nil n0
  refine Go.start (Q := Q_rm0 Z p1 p2 p3 p4 h0 n0) (ef_rm0 m p1 p2 p3 p4) ?_
  obtain ⟨gg, hg0, sgA⟩ : ∃ (gg : Int32), (0 ≤ gg.toInt) ∧ ∀ t, Steps p.tables e below (s₁.setTop (mkF m 18 #[.val (.int p1), .val (.int p2), .val (.int p3), .val (.int p4), .val (.int gg), .unset, .unset, .unset, .unset, .unset, .unset, .unset, .unset, .unset, .unset, .unset, .unset, .unset] [])) t → Steps p.tables e below (s₁.setTop (mkF m 0 #[.val (.int p1), .val (.int p2), .val (.int p3), .val (.int p4), .unset, .unset, .unset, .unset, .unset, .unset, .unset, .unset, .unset, .unset, .unset, .unset, .unset, .unset] [])) t := by
    by_cases hm1 : (p4 &&& (1 : Int32)) = (0 : Int32)
    · refine ⟨(p1 &&& (2147483647 : Int32)), own_mask p1, ?_⟩
      intro t kt
      show Steps p.tables e below (s₁.setTop (mkF m 0 #[.val (.int p1), .val (.int p2), .val (.int p3), .val (.int p4), .unset, .unset, .unset, .unset, .unset, .unset, .unset, .unset, .unset, .unset, .unset, .unset, .unset, .unset] [])) _
      refine XS.iloadN X0.here hx rfl (hb hby at_0) rfl ?_
      show Steps p.tables e below (s₁.setTop (mkF m 1 #[.val (.int p1), .val (.int p2), .val (.int p3), .val (.int p4), .unset, .unset, .unset, .unset, .unset, .unset, .unset, .unset, .unset, .unset, .unset, .unset, .unset, .unset] [(.int p4)])) _
      refine XS.iconst X0.here hx rfl (hb hby at_1) ?_
      show Steps p.tables e below (s₁.setTop (mkF m 2 #[.val (.int p1), .val (.int p2), .val (.int p3), .val (.int p4), .unset, .unset, .unset, .unset, .unset, .unset, .unset, .unset, .unset, .unset, .unset, .unset, .unset, .unset] [(.int (1 : Int32)), (.int p4)])) _
      refine XS.iand X0.here hx rfl (hb hby at_2) rfl ?_
      show Steps p.tables e below (s₁.setTop (mkF m 3 #[.val (.int p1), .val (.int p2), .val (.int p3), .val (.int p4), .unset, .unset, .unset, .unset, .unset, .unset, .unset, .unset, .unset, .unset, .unset, .unset, .unset, .unset] [(.int (p4 &&& (1 : Int32)))])) _
      refine XS.ifYes X0.here hx rfl (pc0 := 3) (pc' := 12) rfl (hb hby at_3) rfl ((if0 _ _).trans (teq (hm1 : (p4 &&& (1 : Int32)) = (0 : Int32))).1) (by decide) (by decide) ?_
      show Steps p.tables e below (s₁.setTop (mkF m 12 #[.val (.int p1), .val (.int p2), .val (.int p3), .val (.int p4), .unset, .unset, .unset, .unset, .unset, .unset, .unset, .unset, .unset, .unset, .unset, .unset, .unset, .unset] [])) _
      refine XS.iloadN X0.here hx rfl (hb hby at_12) rfl ?_
      show Steps p.tables e below (s₁.setTop (mkF m 13 #[.val (.int p1), .val (.int p2), .val (.int p3), .val (.int p4), .unset, .unset, .unset, .unset, .unset, .unset, .unset, .unset, .unset, .unset, .unset, .unset, .unset, .unset] [(.int p1)])) _
      refine X0.ldcInt hx hown (mvT hZ (hw _ (List.mem_of_getElem? (i := 0) rfl))) (g := (mkF m 13 #[.val (.int p1), .val (.int p2), .val (.int p3), .val (.int p4), .unset, .unset, .unset, .unset, .unset, .unset, .unset, .unset, .unset, .unset, .unset, .unset, .unset, .unset] [(.int p1)])) rfl (hb hby at_13) _ ?_
      show Steps p.tables e below (s₁.setTop (mkF m 15 #[.val (.int p1), .val (.int p2), .val (.int p3), .val (.int p4), .unset, .unset, .unset, .unset, .unset, .unset, .unset, .unset, .unset, .unset, .unset, .unset, .unset, .unset] [(.int (2147483647 : Int32)), (.int p1)])) _
      refine XS.iand X0.here hx rfl (hb hby at_15) rfl ?_
      show Steps p.tables e below (s₁.setTop (mkF m 16 #[.val (.int p1), .val (.int p2), .val (.int p3), .val (.int p4), .unset, .unset, .unset, .unset, .unset, .unset, .unset, .unset, .unset, .unset, .unset, .unset, .unset, .unset] [(.int (p1 &&& (2147483647 : Int32)))])) _
      refine XS.istore X0.here hx rfl (hb hby at_16) rfl (l' := #[.val (.int p1), .val (.int p2), .val (.int p3), .val (.int p4), .val (.int (p1 &&& (2147483647 : Int32))), .unset, .unset, .unset, .unset, .unset, .unset, .unset, .unset, .unset, .unset, .unset, .unset, .unset]) rfl ?_
      exact kt
    · refine ⟨(p1 &&& (3 : Int32)), own_mask3 p1, ?_⟩
      intro t kt
      show Steps p.tables e below (s₁.setTop (mkF m 0 #[.val (.int p1), .val (.int p2), .val (.int p3), .val (.int p4), .unset, .unset, .unset, .unset, .unset, .unset, .unset, .unset, .unset, .unset, .unset, .unset, .unset, .unset] [])) _
      refine XS.iloadN X0.here hx rfl (hb hby at_0) rfl ?_
      show Steps p.tables e below (s₁.setTop (mkF m 1 #[.val (.int p1), .val (.int p2), .val (.int p3), .val (.int p4), .unset, .unset, .unset, .unset, .unset, .unset, .unset, .unset, .unset, .unset, .unset, .unset, .unset, .unset] [(.int p4)])) _
      refine XS.iconst X0.here hx rfl (hb hby at_1) ?_
      show Steps p.tables e below (s₁.setTop (mkF m 2 #[.val (.int p1), .val (.int p2), .val (.int p3), .val (.int p4), .unset, .unset, .unset, .unset, .unset, .unset, .unset, .unset, .unset, .unset, .unset, .unset, .unset, .unset] [(.int (1 : Int32)), (.int p4)])) _
      refine XS.iand X0.here hx rfl (hb hby at_2) rfl ?_
      show Steps p.tables e below (s₁.setTop (mkF m 3 #[.val (.int p1), .val (.int p2), .val (.int p3), .val (.int p4), .unset, .unset, .unset, .unset, .unset, .unset, .unset, .unset, .unset, .unset, .unset, .unset, .unset, .unset] [(.int (p4 &&& (1 : Int32)))])) _
      refine XS.ifNo X0.here hx rfl (hb hby at_3) rfl ((if0 _ _).trans (feq (hm1 : ¬ ((p4 &&& (1 : Int32)) = (0 : Int32)))).1) ?_
      show Steps p.tables e below (s₁.setTop (mkF m 6 #[.val (.int p1), .val (.int p2), .val (.int p3), .val (.int p4), .unset, .unset, .unset, .unset, .unset, .unset, .unset, .unset, .unset, .unset, .unset, .unset, .unset, .unset] [])) _
      refine XS.iloadN X0.here hx rfl (hb hby at_6) rfl ?_
      show Steps p.tables e below (s₁.setTop (mkF m 7 #[.val (.int p1), .val (.int p2), .val (.int p3), .val (.int p4), .unset, .unset, .unset, .unset, .unset, .unset, .unset, .unset, .unset, .unset, .unset, .unset, .unset, .unset] [(.int p1)])) _
      refine XS.iconst X0.here hx rfl (hb hby at_7) ?_
      show Steps p.tables e below (s₁.setTop (mkF m 8 #[.val (.int p1), .val (.int p2), .val (.int p3), .val (.int p4), .unset, .unset, .unset, .unset, .unset, .unset, .unset, .unset, .unset, .unset, .unset, .unset, .unset, .unset] [(.int (3 : Int32)), (.int p1)])) _
      refine XS.iand X0.here hx rfl (hb hby at_8) rfl ?_
      show Steps p.tables e below (s₁.setTop (mkF m 9 #[.val (.int p1), .val (.int p2), .val (.int p3), .val (.int p4), .unset, .unset, .unset, .unset, .unset, .unset, .unset, .unset, .unset, .unset, .unset, .unset, .unset, .unset] [(.int (p1 &&& (3 : Int32)))])) _
      refine XS.goto X0.here hx rfl (pc0 := 9) (pc' := 16) rfl (hb hby at_9) (by decide) (by decide) ?_
      show Steps p.tables e below (s₁.setTop (mkF m 16 #[.val (.int p1), .val (.int p2), .val (.int p3), .val (.int p4), .unset, .unset, .unset, .unset, .unset, .unset, .unset, .unset, .unset, .unset, .unset, .unset, .unset, .unset] [(.int (p1 &&& (3 : Int32)))])) _
      refine XS.istore X0.here hx rfl (hb hby at_16) rfl (l' := #[.val (.int p1), .val (.int p2), .val (.int p3), .val (.int p4), .val (.int (p1 &&& (3 : Int32))), .unset, .unset, .unset, .unset, .unset, .unset, .unset, .unset, .unset, .unset, .unset, .unset, .unset]) rfl ?_
      exact kt
  refine Go.adv sgA ?_
  show Go p.tables e below s _ _ _ (s₁.setTop (mkF m 18 #[.val (.int p1), .val (.int p2), .val (.int p3), .val (.int p4), .val (.int gg), .unset, .unset, .unset, .unset, .unset, .unset, .unset, .unset, .unset, .unset, .unset, .unset, .unset] []))
  obtain ⟨ss, hs0, sgB⟩ : ∃ (ss : Int32), (0 ≤ ss.toInt) ∧ ∀ t, Steps p.tables e below (s₁.setTop (mkF m 36 #[.val (.int p1), .val (.int p2), .val (.int p3), .val (.int p4), .val (.int gg), .val (.int ss), .unset, .unset, .unset, .unset, .unset, .unset, .unset, .unset, .unset, .unset, .unset, .unset] [])) t → Steps p.tables e below (s₁.setTop (mkF m 18 #[.val (.int p1), .val (.int p2), .val (.int p3), .val (.int p4), .val (.int gg), .unset, .unset, .unset, .unset, .unset, .unset, .unset, .unset, .unset, .unset, .unset, .unset, .unset] [])) t := by
    by_cases hm2 : (p4 &&& (2 : Int32)) = (0 : Int32)
    · refine ⟨(p2 &&& (2147483647 : Int32)), own_mask p2, ?_⟩
      intro t kt
      show Steps p.tables e below (s₁.setTop (mkF m 18 #[.val (.int p1), .val (.int p2), .val (.int p3), .val (.int p4), .val (.int gg), .unset, .unset, .unset, .unset, .unset, .unset, .unset, .unset, .unset, .unset, .unset, .unset, .unset] [])) _
      refine XS.iloadN X0.here hx rfl (hb hby at_18) rfl ?_
      show Steps p.tables e below (s₁.setTop (mkF m 19 #[.val (.int p1), .val (.int p2), .val (.int p3), .val (.int p4), .val (.int gg), .unset, .unset, .unset, .unset, .unset, .unset, .unset, .unset, .unset, .unset, .unset, .unset, .unset] [(.int p4)])) _
      refine XS.iconst X0.here hx rfl (hb hby at_19) ?_
      show Steps p.tables e below (s₁.setTop (mkF m 20 #[.val (.int p1), .val (.int p2), .val (.int p3), .val (.int p4), .val (.int gg), .unset, .unset, .unset, .unset, .unset, .unset, .unset, .unset, .unset, .unset, .unset, .unset, .unset] [(.int (2 : Int32)), (.int p4)])) _
      refine XS.iand X0.here hx rfl (hb hby at_20) rfl ?_
      show Steps p.tables e below (s₁.setTop (mkF m 21 #[.val (.int p1), .val (.int p2), .val (.int p3), .val (.int p4), .val (.int gg), .unset, .unset, .unset, .unset, .unset, .unset, .unset, .unset, .unset, .unset, .unset, .unset, .unset] [(.int (p4 &&& (2 : Int32)))])) _
      refine XS.ifYes X0.here hx rfl (pc0 := 21) (pc' := 30) rfl (hb hby at_21) rfl ((if0 _ _).trans (teq (hm2 : (p4 &&& (2 : Int32)) = (0 : Int32))).1) (by decide) (by decide) ?_
      show Steps p.tables e below (s₁.setTop (mkF m 30 #[.val (.int p1), .val (.int p2), .val (.int p3), .val (.int p4), .val (.int gg), .unset, .unset, .unset, .unset, .unset, .unset, .unset, .unset, .unset, .unset, .unset, .unset, .unset] [])) _
      refine XS.iloadN X0.here hx rfl (hb hby at_30) rfl ?_
      show Steps p.tables e below (s₁.setTop (mkF m 31 #[.val (.int p1), .val (.int p2), .val (.int p3), .val (.int p4), .val (.int gg), .unset, .unset, .unset, .unset, .unset, .unset, .unset, .unset, .unset, .unset, .unset, .unset, .unset] [(.int p2)])) _
      refine X0.ldcInt hx hown (mvT hZ (hw _ (List.mem_of_getElem? (i := 0) rfl))) (g := (mkF m 31 #[.val (.int p1), .val (.int p2), .val (.int p3), .val (.int p4), .val (.int gg), .unset, .unset, .unset, .unset, .unset, .unset, .unset, .unset, .unset, .unset, .unset, .unset, .unset] [(.int p2)])) rfl (hb hby at_31) _ ?_
      show Steps p.tables e below (s₁.setTop (mkF m 33 #[.val (.int p1), .val (.int p2), .val (.int p3), .val (.int p4), .val (.int gg), .unset, .unset, .unset, .unset, .unset, .unset, .unset, .unset, .unset, .unset, .unset, .unset, .unset] [(.int (2147483647 : Int32)), (.int p2)])) _
      refine XS.iand X0.here hx rfl (hb hby at_33) rfl ?_
      show Steps p.tables e below (s₁.setTop (mkF m 34 #[.val (.int p1), .val (.int p2), .val (.int p3), .val (.int p4), .val (.int gg), .unset, .unset, .unset, .unset, .unset, .unset, .unset, .unset, .unset, .unset, .unset, .unset, .unset] [(.int (p2 &&& (2147483647 : Int32)))])) _
      refine XS.istore X0.here hx rfl (hb hby at_34) rfl (l' := #[.val (.int p1), .val (.int p2), .val (.int p3), .val (.int p4), .val (.int gg), .val (.int (p2 &&& (2147483647 : Int32))), .unset, .unset, .unset, .unset, .unset, .unset, .unset, .unset, .unset, .unset, .unset, .unset]) rfl ?_
      exact kt
    · refine ⟨(p2 &&& (3 : Int32)), own_mask3 p2, ?_⟩
      intro t kt
      show Steps p.tables e below (s₁.setTop (mkF m 18 #[.val (.int p1), .val (.int p2), .val (.int p3), .val (.int p4), .val (.int gg), .unset, .unset, .unset, .unset, .unset, .unset, .unset, .unset, .unset, .unset, .unset, .unset, .unset] [])) _
      refine XS.iloadN X0.here hx rfl (hb hby at_18) rfl ?_
      show Steps p.tables e below (s₁.setTop (mkF m 19 #[.val (.int p1), .val (.int p2), .val (.int p3), .val (.int p4), .val (.int gg), .unset, .unset, .unset, .unset, .unset, .unset, .unset, .unset, .unset, .unset, .unset, .unset, .unset] [(.int p4)])) _
      refine XS.iconst X0.here hx rfl (hb hby at_19) ?_
      show Steps p.tables e below (s₁.setTop (mkF m 20 #[.val (.int p1), .val (.int p2), .val (.int p3), .val (.int p4), .val (.int gg), .unset, .unset, .unset, .unset, .unset, .unset, .unset, .unset, .unset, .unset, .unset, .unset, .unset] [(.int (2 : Int32)), (.int p4)])) _
      refine XS.iand X0.here hx rfl (hb hby at_20) rfl ?_
      show Steps p.tables e below (s₁.setTop (mkF m 21 #[.val (.int p1), .val (.int p2), .val (.int p3), .val (.int p4), .val (.int gg), .unset, .unset, .unset, .unset, .unset, .unset, .unset, .unset, .unset, .unset, .unset, .unset, .unset] [(.int (p4 &&& (2 : Int32)))])) _
      refine XS.ifNo X0.here hx rfl (hb hby at_21) rfl ((if0 _ _).trans (feq (hm2 : ¬ ((p4 &&& (2 : Int32)) = (0 : Int32)))).1) ?_
      show Steps p.tables e below (s₁.setTop (mkF m 24 #[.val (.int p1), .val (.int p2), .val (.int p3), .val (.int p4), .val (.int gg), .unset, .unset, .unset, .unset, .unset, .unset, .unset, .unset, .unset, .unset, .unset, .unset, .unset] [])) _
      refine XS.iloadN X0.here hx rfl (hb hby at_24) rfl ?_
      show Steps p.tables e below (s₁.setTop (mkF m 25 #[.val (.int p1), .val (.int p2), .val (.int p3), .val (.int p4), .val (.int gg), .unset, .unset, .unset, .unset, .unset, .unset, .unset, .unset, .unset, .unset, .unset, .unset, .unset] [(.int p2)])) _
      refine XS.iconst X0.here hx rfl (hb hby at_25) ?_
      show Steps p.tables e below (s₁.setTop (mkF m 26 #[.val (.int p1), .val (.int p2), .val (.int p3), .val (.int p4), .val (.int gg), .unset, .unset, .unset, .unset, .unset, .unset, .unset, .unset, .unset, .unset, .unset, .unset, .unset] [(.int (3 : Int32)), (.int p2)])) _
      refine XS.iand X0.here hx rfl (hb hby at_26) rfl ?_
      show Steps p.tables e below (s₁.setTop (mkF m 27 #[.val (.int p1), .val (.int p2), .val (.int p3), .val (.int p4), .val (.int gg), .unset, .unset, .unset, .unset, .unset, .unset, .unset, .unset, .unset, .unset, .unset, .unset, .unset] [(.int (p2 &&& (3 : Int32)))])) _
      refine XS.goto X0.here hx rfl (pc0 := 27) (pc' := 34) rfl (hb hby at_27) (by decide) (by decide) ?_
      show Steps p.tables e below (s₁.setTop (mkF m 34 #[.val (.int p1), .val (.int p2), .val (.int p3), .val (.int p4), .val (.int gg), .unset, .unset, .unset, .unset, .unset, .unset, .unset, .unset, .unset, .unset, .unset, .unset, .unset] [(.int (p2 &&& (3 : Int32)))])) _
      refine XS.istore X0.here hx rfl (hb hby at_34) rfl (l' := #[.val (.int p1), .val (.int p2), .val (.int p3), .val (.int p4), .val (.int gg), .val (.int (p2 &&& (3 : Int32))), .unset, .unset, .unset, .unset, .unset, .unset, .unset, .unset, .unset, .unset, .unset, .unset]) rfl ?_
      exact kt
  refine Go.adv sgB ?_
  show Go p.tables e below s _ _ _ (s₁.setTop (mkF m 36 #[.val (.int p1), .val (.int p2), .val (.int p3), .val (.int p4), .val (.int gg), .val (.int ss), .unset, .unset, .unset, .unset, .unset, .unset, .unset, .unset, .unset, .unset, .unset, .unset] []))
  have sg5 : ∀ t, Steps p.tables e below (s₁.setTop (mkF m 40 #[.val (.int p1), .val (.int p2), .val (.int p3), .val (.int p4), .val (.int gg), .val (.int ss), .unset, .unset, .unset, .unset, .unset, .unset, .unset, .unset, .unset, .unset, .unset, .unset] [(.int ss), (.int gg)])) t → Steps p.tables e below (s₁.setTop (mkF m 36 #[.val (.int p1), .val (.int p2), .val (.int p3), .val (.int p4), .val (.int gg), .val (.int ss), .unset, .unset, .unset, .unset, .unset, .unset, .unset, .unset, .unset, .unset, .unset, .unset] [])) t := by
    intro t kt
    show Steps p.tables e below (s₁.setTop (mkF m 36 #[.val (.int p1), .val (.int p2), .val (.int p3), .val (.int p4), .val (.int gg), .val (.int ss), .unset, .unset, .unset, .unset, .unset, .unset, .unset, .unset, .unset, .unset, .unset, .unset] [])) _
    refine XS.iload X0.here hx rfl (hb hby at_36) rfl ?_
    show Steps p.tables e below (s₁.setTop (mkF m 38 #[.val (.int p1), .val (.int p2), .val (.int p3), .val (.int p4), .val (.int gg), .val (.int ss), .unset, .unset, .unset, .unset, .unset, .unset, .unset, .unset, .unset, .unset, .unset, .unset] [(.int gg)])) _
    refine XS.iload X0.here hx rfl (hb hby at_38) rfl ?_
    exact kt
  refine Go.adv sg5 ?_
  obtain ⟨_, _, ⟨T6, L6, k6, n6⟩, -, X6, ⟨Lc6, hQ6, l6, y6, z6⟩, st6⟩ := Jvm.LawKit.callS X0 hx (y := (⟨"java/lang/Math", "min", "(II)I"⟩ : MethodName)) hown (mvT hZ (hw _ (List.mem_of_getElem? (i := 1) rfl))) (mvT hZ (hw _ (List.mem_of_getElem? (i := 2) rfl))) (mvT hZ (hw _ (List.mem_of_getElem? (i := 3) rfl))) (mvT hZ (hw _ (List.mem_of_getElem? (i := 4) rfl))) (by decide) (backOf (W := 0) (rm_min l Z a0 hw [] gg ss  h0 n0 Z0 ) hZ (hw _ (List.mem_of_getElem? (i := 4) rfl)) (hw _ (List.mem_of_getElem? (i := 3) rfl)) (by decide) (by decide)) (g := (mkF m 40 #[.val (.int p1), .val (.int p2), .val (.int p3), .val (.int p4), .val (.int gg), .val (.int ss), .unset, .unset, .unset, .unset, .unset, .unset, .unset, .unset, .unset, .unset, .unset, .unset] [(.int ss), (.int gg)])) rfl (by rw [hml]; rfl) (argsL := [(.int gg), (.int ss)]) (rest := []) (lenOf pd_oIIcI rfl) rfl (by show 2 * 0 + _ ≤ _; exact Nat.le_of_eq rfl) (hb hby at_40) (fun _ _ => ⟨rfl, e0, (by decide : 0 + 0 ≤ _), (by decide : 0 + 0 ≤ _)⟩)
  dsimp only [Pt.U, Pt.locs, Pt.cells, Pt.slots] at X6 l6 y6 z6 st6 hQ6
  subst l6 y6 z6
  obtain ⟨rfl, N6q, e6⟩ := hQ6
  have N6 := Fr.app N0 N6q
  refine Go.adv st6 ?_
  show Go p.tables e below s _ _ _ (T6.setTop (mkF m 43 #[.val (.int p1), .val (.int p2), .val (.int p3), .val (.int p4), .val (.int gg), .val (.int ss), .unset, .unset, .unset, .unset, .unset, .unset, .unset, .unset, .unset, .unset, .unset, .unset] [(.int (own_min gg ss))]))
  have sg7 : ∀ t, Steps p.tables e below (T6.setTop (mkF m 45 #[.val (.int p1), .val (.int p2), .val (.int p3), .val (.int p4), .val (.int gg), .val (.int ss), .val (.int (own_min gg ss)), .unset, .unset, .unset, .unset, .unset, .unset, .unset, .unset, .unset, .unset, .unset] [])) t → Steps p.tables e below (T6.setTop (mkF m 43 #[.val (.int p1), .val (.int p2), .val (.int p3), .val (.int p4), .val (.int gg), .val (.int ss), .unset, .unset, .unset, .unset, .unset, .unset, .unset, .unset, .unset, .unset, .unset, .unset] [(.int (own_min gg ss))])) t := by
    intro t kt
    show Steps p.tables e below (T6.setTop (mkF m 43 #[.val (.int p1), .val (.int p2), .val (.int p3), .val (.int p4), .val (.int gg), .val (.int ss), .unset, .unset, .unset, .unset, .unset, .unset, .unset, .unset, .unset, .unset, .unset, .unset] [(.int (own_min gg ss))])) _
    refine XS.istore X6.here hx rfl (hb hby at_43) rfl (l' := #[.val (.int p1), .val (.int p2), .val (.int p3), .val (.int p4), .val (.int gg), .val (.int ss), .val (.int (own_min gg ss)), .unset, .unset, .unset, .unset, .unset, .unset, .unset, .unset, .unset, .unset, .unset]) rfl ?_
    exact kt
  refine Go.adv sg7 ?_
  have hmn := own_min_le gg ss hg0 hs0
  generalize h_mn : (own_min gg ss) = mn
  show Go p.tables e below s _ _ _ (T6.setTop (mkF m 45 #[.val (.int p1), .val (.int p2), .val (.int p3), .val (.int p4), .val (.int gg), .val (.int ss), .val (.int mn), .unset, .unset, .unset, .unset, .unset, .unset, .unset, .unset, .unset, .unset, .unset] []))
  rw [h_mn] at hmn
  have hk0 : 0 ≤ ((p3 &&& (2147483647 : Int32)).toInt64).toInt := by rw [Kit.i64_of_i32]; exact own_mask p3
  have hcr := own_rest (x := ((p3 &&& (2147483647 : Int32)).toInt64)) (mm := mn) hk0 hmn.1
  obtain ⟨cc, ⟨hc1, hc2⟩, sgC⟩ : ∃ (cc : Int32), (0 ≤ cc.toInt ∧ cc.toInt ≤ mn.toInt) ∧ ∀ t, Steps p.tables e below (T6.setTop (mkF m 72 #[.val (.int p1), .val (.int p2), .val (.int p3), .val (.int p4), .val (.int gg), .val (.int ss), .val (.int mn), .val (.int cc), .unset, .unset, .unset, .unset, .unset, .unset, .unset, .unset, .unset, .unset] [])) t → Steps p.tables e below (T6.setTop (mkF m 45 #[.val (.int p1), .val (.int p2), .val (.int p3), .val (.int p4), .val (.int gg), .val (.int ss), .val (.int mn), .unset, .unset, .unset, .unset, .unset, .unset, .unset, .unset, .unset, .unset, .unset] [])) t := by
    by_cases hm4 : (p4 &&& (4 : Int32)) = (0 : Int32)
    · refine ⟨((((p3 &&& (2147483647 : Int32)).toInt64) - (((p3 &&& (2147483647 : Int32)).toInt64) / ((mn.toInt64) + (1 : Int64))) * ((mn.toInt64) + (1 : Int64))).toInt32), ⟨hcr.1, hcr.2.1⟩, ?_⟩
      intro t kt
      show Steps p.tables e below (T6.setTop (mkF m 45 #[.val (.int p1), .val (.int p2), .val (.int p3), .val (.int p4), .val (.int gg), .val (.int ss), .val (.int mn), .unset, .unset, .unset, .unset, .unset, .unset, .unset, .unset, .unset, .unset, .unset] [])) _
      refine XS.iloadN X6.here hx rfl (hb hby at_45) rfl ?_
      show Steps p.tables e below (T6.setTop (mkF m 46 #[.val (.int p1), .val (.int p2), .val (.int p3), .val (.int p4), .val (.int gg), .val (.int ss), .val (.int mn), .unset, .unset, .unset, .unset, .unset, .unset, .unset, .unset, .unset, .unset, .unset] [(.int p4)])) _
      refine XS.iconst X6.here hx rfl (hb hby at_46) ?_
      show Steps p.tables e below (T6.setTop (mkF m 47 #[.val (.int p1), .val (.int p2), .val (.int p3), .val (.int p4), .val (.int gg), .val (.int ss), .val (.int mn), .unset, .unset, .unset, .unset, .unset, .unset, .unset, .unset, .unset, .unset, .unset] [(.int (4 : Int32)), (.int p4)])) _
      refine XS.iand X6.here hx rfl (hb hby at_47) rfl ?_
      show Steps p.tables e below (T6.setTop (mkF m 48 #[.val (.int p1), .val (.int p2), .val (.int p3), .val (.int p4), .val (.int gg), .val (.int ss), .val (.int mn), .unset, .unset, .unset, .unset, .unset, .unset, .unset, .unset, .unset, .unset, .unset] [(.int (p4 &&& (4 : Int32)))])) _
      refine XS.ifYes X6.here hx rfl (pc0 := 48) (pc' := 58) rfl (hb hby at_48) rfl ((if0 _ _).trans (teq (hm4 : (p4 &&& (4 : Int32)) = (0 : Int32))).1) (by decide) (by decide) ?_
      show Steps p.tables e below (T6.setTop (mkF m 58 #[.val (.int p1), .val (.int p2), .val (.int p3), .val (.int p4), .val (.int gg), .val (.int ss), .val (.int mn), .unset, .unset, .unset, .unset, .unset, .unset, .unset, .unset, .unset, .unset, .unset] [])) _
      refine XS.iloadN X6.here hx rfl (hb hby at_58) rfl ?_
      show Steps p.tables e below (T6.setTop (mkF m 59 #[.val (.int p1), .val (.int p2), .val (.int p3), .val (.int p4), .val (.int gg), .val (.int ss), .val (.int mn), .unset, .unset, .unset, .unset, .unset, .unset, .unset, .unset, .unset, .unset, .unset] [(.int p3)])) _
      refine X6.ldcInt hx hown (mvT hZ (hw _ (List.mem_of_getElem? (i := 0) rfl))) (g := (mkF m 59 #[.val (.int p1), .val (.int p2), .val (.int p3), .val (.int p4), .val (.int gg), .val (.int ss), .val (.int mn), .unset, .unset, .unset, .unset, .unset, .unset, .unset, .unset, .unset, .unset, .unset] [(.int p3)])) rfl (hb hby at_59) _ ?_
      show Steps p.tables e below (T6.setTop (mkF m 61 #[.val (.int p1), .val (.int p2), .val (.int p3), .val (.int p4), .val (.int gg), .val (.int ss), .val (.int mn), .unset, .unset, .unset, .unset, .unset, .unset, .unset, .unset, .unset, .unset, .unset] [(.int (2147483647 : Int32)), (.int p3)])) _
      refine XS.iand X6.here hx rfl (hb hby at_61) rfl ?_
      show Steps p.tables e below (T6.setTop (mkF m 62 #[.val (.int p1), .val (.int p2), .val (.int p3), .val (.int p4), .val (.int gg), .val (.int ss), .val (.int mn), .unset, .unset, .unset, .unset, .unset, .unset, .unset, .unset, .unset, .unset, .unset] [(.int (p3 &&& (2147483647 : Int32)))])) _
      refine XS.i2l X6.here hx rfl (hb hby at_62) rfl ?_
      show Steps p.tables e below (T6.setTop (mkF m 63 #[.val (.int p1), .val (.int p2), .val (.int p3), .val (.int p4), .val (.int gg), .val (.int ss), .val (.int mn), .unset, .unset, .unset, .unset, .unset, .unset, .unset, .unset, .unset, .unset, .unset] [(.long ((p3 &&& (2147483647 : Int32)).toInt64))])) _
      refine XS.iload X6.here hx rfl (hb hby at_63) rfl ?_
      show Steps p.tables e below (T6.setTop (mkF m 65 #[.val (.int p1), .val (.int p2), .val (.int p3), .val (.int p4), .val (.int gg), .val (.int ss), .val (.int mn), .unset, .unset, .unset, .unset, .unset, .unset, .unset, .unset, .unset, .unset, .unset] [(.int mn), (.long ((p3 &&& (2147483647 : Int32)).toInt64))])) _
      refine XS.i2l X6.here hx rfl (hb hby at_65) rfl ?_
      show Steps p.tables e below (T6.setTop (mkF m 66 #[.val (.int p1), .val (.int p2), .val (.int p3), .val (.int p4), .val (.int gg), .val (.int ss), .val (.int mn), .unset, .unset, .unset, .unset, .unset, .unset, .unset, .unset, .unset, .unset, .unset] [(.long (mn.toInt64)), (.long ((p3 &&& (2147483647 : Int32)).toInt64))])) _
      refine XS.lconst X6.here hx rfl (hb hby at_66) ?_
      show Steps p.tables e below (T6.setTop (mkF m 67 #[.val (.int p1), .val (.int p2), .val (.int p3), .val (.int p4), .val (.int gg), .val (.int ss), .val (.int mn), .unset, .unset, .unset, .unset, .unset, .unset, .unset, .unset, .unset, .unset, .unset] [(.long (1 : Int64)), (.long (mn.toInt64)), (.long ((p3 &&& (2147483647 : Int32)).toInt64))])) _
      refine XS.ladd X6.here hx rfl (hb hby at_67) rfl ?_
      show Steps p.tables e below (T6.setTop (mkF m 68 #[.val (.int p1), .val (.int p2), .val (.int p3), .val (.int p4), .val (.int gg), .val (.int ss), .val (.int mn), .unset, .unset, .unset, .unset, .unset, .unset, .unset, .unset, .unset, .unset, .unset] [(.long ((mn.toInt64) + (1 : Int64))), (.long ((p3 &&& (2147483647 : Int32)).toInt64))])) _
      refine XS.lrem X6.here hx rfl (hb hby at_68) rfl hcr.2.2 ?_
      show Steps p.tables e below (T6.setTop (mkF m 69 #[.val (.int p1), .val (.int p2), .val (.int p3), .val (.int p4), .val (.int gg), .val (.int ss), .val (.int mn), .unset, .unset, .unset, .unset, .unset, .unset, .unset, .unset, .unset, .unset, .unset] [(.long (((p3 &&& (2147483647 : Int32)).toInt64) - (((p3 &&& (2147483647 : Int32)).toInt64) / ((mn.toInt64) + (1 : Int64))) * ((mn.toInt64) + (1 : Int64))))])) _
      refine XS.l2i X6.here hx rfl (hb hby at_69) rfl ?_
      show Steps p.tables e below (T6.setTop (mkF m 70 #[.val (.int p1), .val (.int p2), .val (.int p3), .val (.int p4), .val (.int gg), .val (.int ss), .val (.int mn), .unset, .unset, .unset, .unset, .unset, .unset, .unset, .unset, .unset, .unset, .unset] [(.int ((((p3 &&& (2147483647 : Int32)).toInt64) - (((p3 &&& (2147483647 : Int32)).toInt64) / ((mn.toInt64) + (1 : Int64))) * ((mn.toInt64) + (1 : Int64))).toInt32))])) _
      refine XS.istore X6.here hx rfl (hb hby at_70) rfl (l' := #[.val (.int p1), .val (.int p2), .val (.int p3), .val (.int p4), .val (.int gg), .val (.int ss), .val (.int mn), .val (.int ((((p3 &&& (2147483647 : Int32)).toInt64) - (((p3 &&& (2147483647 : Int32)).toInt64) / ((mn.toInt64) + (1 : Int64))) * ((mn.toInt64) + (1 : Int64))).toInt32)), .unset, .unset, .unset, .unset, .unset, .unset, .unset, .unset, .unset, .unset]) rfl ?_
      exact kt
    · refine ⟨mn, ⟨hmn.1, Int.le_refl _⟩, ?_⟩
      intro t kt
      show Steps p.tables e below (T6.setTop (mkF m 45 #[.val (.int p1), .val (.int p2), .val (.int p3), .val (.int p4), .val (.int gg), .val (.int ss), .val (.int mn), .unset, .unset, .unset, .unset, .unset, .unset, .unset, .unset, .unset, .unset, .unset] [])) _
      refine XS.iloadN X6.here hx rfl (hb hby at_45) rfl ?_
      show Steps p.tables e below (T6.setTop (mkF m 46 #[.val (.int p1), .val (.int p2), .val (.int p3), .val (.int p4), .val (.int gg), .val (.int ss), .val (.int mn), .unset, .unset, .unset, .unset, .unset, .unset, .unset, .unset, .unset, .unset, .unset] [(.int p4)])) _
      refine XS.iconst X6.here hx rfl (hb hby at_46) ?_
      show Steps p.tables e below (T6.setTop (mkF m 47 #[.val (.int p1), .val (.int p2), .val (.int p3), .val (.int p4), .val (.int gg), .val (.int ss), .val (.int mn), .unset, .unset, .unset, .unset, .unset, .unset, .unset, .unset, .unset, .unset, .unset] [(.int (4 : Int32)), (.int p4)])) _
      refine XS.iand X6.here hx rfl (hb hby at_47) rfl ?_
      show Steps p.tables e below (T6.setTop (mkF m 48 #[.val (.int p1), .val (.int p2), .val (.int p3), .val (.int p4), .val (.int gg), .val (.int ss), .val (.int mn), .unset, .unset, .unset, .unset, .unset, .unset, .unset, .unset, .unset, .unset, .unset] [(.int (p4 &&& (4 : Int32)))])) _
      refine XS.ifNo X6.here hx rfl (hb hby at_48) rfl ((if0 _ _).trans (feq (hm4 : ¬ ((p4 &&& (4 : Int32)) = (0 : Int32)))).1) ?_
      show Steps p.tables e below (T6.setTop (mkF m 51 #[.val (.int p1), .val (.int p2), .val (.int p3), .val (.int p4), .val (.int gg), .val (.int ss), .val (.int mn), .unset, .unset, .unset, .unset, .unset, .unset, .unset, .unset, .unset, .unset, .unset] [])) _
      refine XS.iload X6.here hx rfl (hb hby at_51) rfl ?_
      show Steps p.tables e below (T6.setTop (mkF m 53 #[.val (.int p1), .val (.int p2), .val (.int p3), .val (.int p4), .val (.int gg), .val (.int ss), .val (.int mn), .unset, .unset, .unset, .unset, .unset, .unset, .unset, .unset, .unset, .unset, .unset] [(.int mn)])) _
      refine XS.istore X6.here hx rfl (hb hby at_53) rfl (l' := #[.val (.int p1), .val (.int p2), .val (.int p3), .val (.int p4), .val (.int gg), .val (.int ss), .val (.int mn), .val (.int mn), .unset, .unset, .unset, .unset, .unset, .unset, .unset, .unset, .unset, .unset]) rfl ?_
      show Steps p.tables e below (T6.setTop (mkF m 55 #[.val (.int p1), .val (.int p2), .val (.int p3), .val (.int p4), .val (.int gg), .val (.int ss), .val (.int mn), .val (.int mn), .unset, .unset, .unset, .unset, .unset, .unset, .unset, .unset, .unset, .unset] [])) _
      refine XS.goto X6.here hx rfl (pc0 := 55) (pc' := 72) rfl (hb hby at_55) (by decide) (by decide) ?_
      exact kt
  refine Go.adv sgC ?_
  show Go p.tables e below s _ _ _ (T6.setTop (mkF m 72 #[.val (.int p1), .val (.int p2), .val (.int p3), .val (.int p4), .val (.int gg), .val (.int ss), .val (.int mn), .val (.int cc), .unset, .unset, .unset, .unset, .unset, .unset, .unset, .unset, .unset, .unset] []))
  have hC : OwnCnt gg ss cc := ⟨hc1, Int.le_trans hc2 hmn.2.1, Int.le_trans hc2 hmn.2.2⟩
  have hC' : OwnCnt ss gg cc := hC.swap
  obtain ⟨T10, h10, X10, e10, E10, A10, D10, -, st10⟩ := newO X6 hx hZ hown (hw _ (List.mem_of_getElem? (i := 5) rfl)) (hw _ (List.mem_of_getElem? (i := 6) rfl)) (hw _ (List.mem_of_getElem? (i := 7) rfl)) e6 (g := (mkF m 72 #[.val (.int p1), .val (.int p2), .val (.int p3), .val (.int p4), .val (.int gg), .val (.int ss), .val (.int mn), .val (.int cc), .unset, .unset, .unset, .unset, .unset, .unset, .unset, .unset, .unset, .unset] [])) rfl (hb hby at_72) (by decide) (by decide)
  obtain ⟨b10, gb10⟩ : ∃ z, z = h0.size := ⟨_, rfl⟩
  rw [← gb10] at A10 D10 st10
  have g_b10 : n0 ≤ b10 := Nat.le_trans Z0 (Nat.le_of_eq gb10.symm)
  have sz_b10 : h0.size ≤ b10 := Nat.le_trans (Keep.refl h0 []).1 (Nat.le_of_eq gb10.symm)
  have K10 : Keep h0 h10 [] := (Keep.refl h0 []).ext E10
  have Z10 : n0 ≤ h10.size := Nat.le_trans Z0 E10.1
  have F_gold_b10 : Fld Z h10 b10 "com/example/tally/tally/score/QuestionScore" "gold" "I" (.int (0 : Int32)) := D10 (Or.inr (hw _ (List.mem_of_getElem? (i := 20) rfl))) (ty := .int) (by decide)
  have F_system_b10 : Fld Z h10 b10 "com/example/tally/tally/score/QuestionScore" "system" "I" (.int (0 : Int32)) := D10 (Or.inr (hw _ (List.mem_of_getElem? (i := 22) rfl))) (ty := .int) (by decide)
  have F_correct_b10 : Fld Z h10 b10 "com/example/tally/tally/score/QuestionScore" "correct" "I" (.int (0 : Int32)) := D10 (Or.inr (hw _ (List.mem_of_getElem? (i := 24) rfl))) (ty := .int) (by decide)
  refine Go.adv st10 ?_
  show Go p.tables e below s _ _ _ (T10.setTop (mkF m 75 #[.val (.int p1), .val (.int p2), .val (.int p3), .val (.int p4), .val (.int gg), .val (.int ss), .val (.int mn), .val (.int cc), .unset, .unset, .unset, .unset, .unset, .unset, .unset, .unset, .unset, .unset] [(.ref b10)]))
  have sg11 : ∀ t, Steps p.tables e below (T10.setTop (mkF m 82 #[.val (.int p1), .val (.int p2), .val (.int p3), .val (.int p4), .val (.int gg), .val (.int ss), .val (.int mn), .val (.int cc), .unset, .unset, .unset, .unset, .unset, .unset, .unset, .unset, .unset, .unset] [(.int cc), (.int ss), (.int gg), (.ref b10), (.ref b10)])) t → Steps p.tables e below (T10.setTop (mkF m 75 #[.val (.int p1), .val (.int p2), .val (.int p3), .val (.int p4), .val (.int gg), .val (.int ss), .val (.int mn), .val (.int cc), .unset, .unset, .unset, .unset, .unset, .unset, .unset, .unset, .unset, .unset] [(.ref b10)])) t := by
    intro t kt
    show Steps p.tables e below (T10.setTop (mkF m 75 #[.val (.int p1), .val (.int p2), .val (.int p3), .val (.int p4), .val (.int gg), .val (.int ss), .val (.int mn), .val (.int cc), .unset, .unset, .unset, .unset, .unset, .unset, .unset, .unset, .unset, .unset] [(.ref b10)])) _
    refine XS.dup X10.here hx rfl (hb hby at_75) rfl rfl ?_
    show Steps p.tables e below (T10.setTop (mkF m 76 #[.val (.int p1), .val (.int p2), .val (.int p3), .val (.int p4), .val (.int gg), .val (.int ss), .val (.int mn), .val (.int cc), .unset, .unset, .unset, .unset, .unset, .unset, .unset, .unset, .unset, .unset] [(.ref b10), (.ref b10)])) _
    refine XS.iload X10.here hx rfl (hb hby at_76) rfl ?_
    show Steps p.tables e below (T10.setTop (mkF m 78 #[.val (.int p1), .val (.int p2), .val (.int p3), .val (.int p4), .val (.int gg), .val (.int ss), .val (.int mn), .val (.int cc), .unset, .unset, .unset, .unset, .unset, .unset, .unset, .unset, .unset, .unset] [(.int gg), (.ref b10), (.ref b10)])) _
    refine XS.iload X10.here hx rfl (hb hby at_78) rfl ?_
    show Steps p.tables e below (T10.setTop (mkF m 80 #[.val (.int p1), .val (.int p2), .val (.int p3), .val (.int p4), .val (.int gg), .val (.int ss), .val (.int mn), .val (.int cc), .unset, .unset, .unset, .unset, .unset, .unset, .unset, .unset, .unset, .unset] [(.int ss), (.int gg), (.ref b10), (.ref b10)])) _
    refine XS.iload X10.here hx rfl (hb hby at_80) rfl ?_
    exact kt
  refine Go.adv sg11 ?_
  obtain ⟨_, _, ⟨T12, L12, k12, n12⟩, -, X12, ⟨Lc12, hQ12, l12, y12, z12⟩, st12⟩ := X10.specialBack hx (y := (⟨"com/example/tally/tally/score/QuestionScore", "<init>", "(III)V"⟩ : MethodName)) rfl hown (mvT hZ (hw _ (List.mem_of_getElem? (i := 8) rfl))) (mvT hZ (hw _ (List.mem_of_getElem? (i := 9) rfl))) (mvT hZ (hw _ (List.mem_of_getElem? (i := 10) rfl))) (by decide) (backOf (W := 1) (rm_init l Z a0 hw [] b10 gg ss cc (.int (0 : Int32)) (.int (0 : Int32)) (.int (0 : Int32)) h10 n0 Z10 A10 g_b10 F_gold_b10 F_system_b10 F_correct_b10 (by assumption)) hZ (hw _ (List.mem_of_getElem? (i := 10) rfl)) (hw _ (List.mem_of_getElem? (i := 7) rfl)) (by decide) (by decide)) (g := (mkF m 82 #[.val (.int p1), .val (.int p2), .val (.int p3), .val (.int p4), .val (.int gg), .val (.int ss), .val (.int mn), .val (.int cc), .unset, .unset, .unset, .unset, .unset, .unset, .unset, .unset, .unset, .unset] [(.int cc), (.int ss), (.int gg), (.ref b10), (.ref b10)])) rfl (by rw [hml]; rfl) (Steps.refl _) (a := b10) (argsL := [(.int gg), (.int ss), (.int cc)]) (rest := [(.ref b10)]) (lenOf pd_oIIIcV rfl) rfl (by show 2 * 0 + _ ≤ _; exact Nat.le_of_eq rfl) (hb hby at_82) (fun _ _ => ⟨rfl, e10, (by decide : 1 + 0 ≤ _), (by decide : 3 + 0 ≤ _)⟩)
  dsimp only [Pt.U, Pt.locs, Pt.cells, Pt.slots] at X12 l12 y12 z12 st12 hQ12
  subst l12 y12 z12
  obtain ⟨rfl, N12q, Kc12, p12_0, p12_1, p12_2, p12_3⟩ := hQ12
  have N12 := Fr.app N6 N12q
  have K12 : Keep h0 T12.heap [] := K10.trans Kc12 (allS (Or.inr sz_b10) all0)
  have Z12 : n0 ≤ T12.heap.size := Nat.le_trans Z10 Kc12.1
  refine Go.tr st12 ?_
  show Go p.tables e below s _ _ _ (T12.setTop (mkF m 85 #[.val (.int p1), .val (.int p2), .val (.int p3), .val (.int p4), .val (.int gg), .val (.int ss), .val (.int mn), .val (.int cc), .unset, .unset, .unset, .unset, .unset, .unset, .unset, .unset, .unset, .unset] [(.ref b10)]))
  have sg13 : ∀ t, Steps p.tables e below (T12.setTop (mkF m 89 #[.val (.int p1), .val (.int p2), .val (.int p3), .val (.int p4), .val (.int gg), .val (.int ss), .val (.int mn), .val (.int cc), .val (.ref b10), .unset, .unset, .unset, .unset, .unset, .unset, .unset, .unset, .unset] [(.ref b10)])) t → Steps p.tables e below (T12.setTop (mkF m 85 #[.val (.int p1), .val (.int p2), .val (.int p3), .val (.int p4), .val (.int gg), .val (.int ss), .val (.int mn), .val (.int cc), .unset, .unset, .unset, .unset, .unset, .unset, .unset, .unset, .unset, .unset] [(.ref b10)])) t := by
    intro t kt
    show Steps p.tables e below (T12.setTop (mkF m 85 #[.val (.int p1), .val (.int p2), .val (.int p3), .val (.int p4), .val (.int gg), .val (.int ss), .val (.int mn), .val (.int cc), .unset, .unset, .unset, .unset, .unset, .unset, .unset, .unset, .unset, .unset] [(.ref b10)])) _
    refine XS.astore X12.here hx rfl (hb hby at_85) rfl rfl (l' := #[.val (.int p1), .val (.int p2), .val (.int p3), .val (.int p4), .val (.int gg), .val (.int ss), .val (.int mn), .val (.int cc), .val (.ref b10), .unset, .unset, .unset, .unset, .unset, .unset, .unset, .unset, .unset]) rfl ?_
    show Steps p.tables e below (T12.setTop (mkF m 87 #[.val (.int p1), .val (.int p2), .val (.int p3), .val (.int p4), .val (.int gg), .val (.int ss), .val (.int mn), .val (.int cc), .val (.ref b10), .unset, .unset, .unset, .unset, .unset, .unset, .unset, .unset, .unset] [])) _
    refine XS.aload X12.here hx rfl (hb hby at_87) rfl rfl ?_
    exact kt
  refine Go.adv sg13 ?_
  obtain ⟨cq14, kq14, q14a, q14b, q14c⟩ := isOf hZ rfl p12_0
  obtain ⟨_, _, ⟨T14, L14, k14, n14⟩, -, X14, ⟨Lc14, hQ14, l14, y14, z14⟩, st14⟩ := X12.virtualBack hx (y := (⟨"com/example/tally/tally/score/QuestionScore", "recall", "()D"⟩ : MethodName)) (z := (⟨"com/example/tally/tally/score/QuestionScore", "recall", "()D"⟩ : MethodName)) hown (mvT hZ (hw _ (List.mem_of_getElem? (i := 25) rfl))) (mvT hZ (hw _ (List.mem_of_getElem? (i := 26) rfl))) (notFace_of_selects (args := #[]) (mvT hZ (hw _ (List.mem_of_getElem? (i := 28) rfl)))) (mvT hZ (hw _ (List.mem_of_getElem? (i := 28) rfl))) (mvT hZ (hw _ (List.mem_of_getElem? (i := 27) rfl))) (by decide) (backOf (W := 0) (rm_recall l Z a0 hw [] b10 gg ss cc T12.heap n0 Z12 p12_1 p12_2 p12_3) hZ (hw _ (List.mem_of_getElem? (i := 29) rfl)) (hw _ (List.mem_of_getElem? (i := 7) rfl)) (by decide) (by decide)) q14a q14c (g := (mkF m 89 #[.val (.int p1), .val (.int p2), .val (.int p3), .val (.int p4), .val (.int gg), .val (.int ss), .val (.int mn), .val (.int cc), .val (.ref b10), .unset, .unset, .unset, .unset, .unset, .unset, .unset, .unset, .unset] [(.ref b10)])) rfl (by rw [hml]; rfl) (Steps.refl _) (argsL := []) (rest := []) (lenOf pd_ocD rfl) rfl (by show 2 * 0 + _ ≤ _; exact Nat.le_of_eq rfl) (hb hby at_89) (fun _ _ => ⟨rfl, rfl, (by decide : 1 + 0 ≤ _), (by decide : 3 + 0 ≤ _)⟩)
  dsimp only [Pt.U, Pt.locs, Pt.cells, Pt.slots] at X14 l14 y14 z14 st14 hQ14
  subst l14 y14 z14
  obtain ⟨rfl, N14q, e14⟩ := hQ14
  have N14 := Fr.app N12 N14q
  refine Go.tr st14 ?_
  show Go p.tables e below s _ _ _ (T14.setTop (mkF m 92 #[.val (.int p1), .val (.int p2), .val (.int p3), .val (.int p4), .val (.int gg), .val (.int ss), .val (.int mn), .val (.int cc), .val (.ref b10), .unset, .unset, .unset, .unset, .unset, .unset, .unset, .unset, .unset] [(.double (own_rec gg ss cc))]))
  have sg15 : ∀ t, Steps p.tables e below (T14.setTop (mkF m 94 #[.val (.int p1), .val (.int p2), .val (.int p3), .val (.int p4), .val (.int gg), .val (.int ss), .val (.int mn), .val (.int cc), .val (.ref b10), .val (.double (own_rec gg ss cc)), .second, .unset, .unset, .unset, .unset, .unset, .unset, .unset] [])) t → Steps p.tables e below (T14.setTop (mkF m 92 #[.val (.int p1), .val (.int p2), .val (.int p3), .val (.int p4), .val (.int gg), .val (.int ss), .val (.int mn), .val (.int cc), .val (.ref b10), .unset, .unset, .unset, .unset, .unset, .unset, .unset, .unset, .unset] [(.double (own_rec gg ss cc))])) t := by
    intro t kt
    show Steps p.tables e below (T14.setTop (mkF m 92 #[.val (.int p1), .val (.int p2), .val (.int p3), .val (.int p4), .val (.int gg), .val (.int ss), .val (.int mn), .val (.int cc), .val (.ref b10), .unset, .unset, .unset, .unset, .unset, .unset, .unset, .unset, .unset] [(.double (own_rec gg ss cc))])) _
    refine own_dstore X14.here hx rfl (hb hby at_92) rfl (l' := #[.val (.int p1), .val (.int p2), .val (.int p3), .val (.int p4), .val (.int gg), .val (.int ss), .val (.int mn), .val (.int cc), .val (.ref b10), .val (.double (own_rec gg ss cc)), .second, .unset, .unset, .unset, .unset, .unset, .unset, .unset]) rfl ?_
    exact kt
  refine Go.adv sg15 ?_
  by_cases hg : gg = 0
  · have hgp := own_npos hg
    by_cases hs : ss = 0
    · have hsp := own_npos hs
      obtain ⟨k1, k2, k3, k4⟩ := own_rec_A (cc := cc) hg hs
      have sg16 : ∀ t, Steps p.tables e below (T14.setTop (mkF m 258 #[.val (.int p1), .val (.int p2), .val (.int p3), .val (.int p4), .val (.int gg), .val (.int ss), .val (.int mn), .val (.int cc), .val (.ref b10), .val (.double (own_rec gg ss cc)), .second, .val (.double (4607182418800017408 : UInt64)), .second, .val (.int (1 : Int32)), .val (.int (1 : Int32)), .val (.int (1 : Int32)), .unset, .unset] [])) t → Steps p.tables e below (T14.setTop (mkF m 94 #[.val (.int p1), .val (.int p2), .val (.int p3), .val (.int p4), .val (.int gg), .val (.int ss), .val (.int mn), .val (.int cc), .val (.ref b10), .val (.double (own_rec gg ss cc)), .second, .unset, .unset, .unset, .unset, .unset, .unset, .unset] [])) t := by
        intro t kt
        show Steps p.tables e below (T14.setTop (mkF m 94 #[.val (.int p1), .val (.int p2), .val (.int p3), .val (.int p4), .val (.int gg), .val (.int ss), .val (.int mn), .val (.int cc), .val (.ref b10), .val (.double (own_rec gg ss cc)), .second, .unset, .unset, .unset, .unset, .unset, .unset, .unset] [])) _
        refine XS.iload X14.here hx rfl (hb hby at_94) rfl ?_
        show Steps p.tables e below (T14.setTop (mkF m 96 #[.val (.int p1), .val (.int p2), .val (.int p3), .val (.int p4), .val (.int gg), .val (.int ss), .val (.int mn), .val (.int cc), .val (.ref b10), .val (.double (own_rec gg ss cc)), .second, .unset, .unset, .unset, .unset, .unset, .unset, .unset] [(.int gg)])) _
        refine XS.ifNo X14.here hx rfl (hb hby at_96) rfl ((if0 _ _).trans (teq (hg : gg = (0 : Int32))).2) ?_
        show Steps p.tables e below (T14.setTop (mkF m 99 #[.val (.int p1), .val (.int p2), .val (.int p3), .val (.int p4), .val (.int gg), .val (.int ss), .val (.int mn), .val (.int cc), .val (.ref b10), .val (.double (own_rec gg ss cc)), .second, .unset, .unset, .unset, .unset, .unset, .unset, .unset] [])) _
        refine XS.iload X14.here hx rfl (hb hby at_99) rfl ?_
        show Steps p.tables e below (T14.setTop (mkF m 101 #[.val (.int p1), .val (.int p2), .val (.int p3), .val (.int p4), .val (.int gg), .val (.int ss), .val (.int mn), .val (.int cc), .val (.ref b10), .val (.double (own_rec gg ss cc)), .second, .unset, .unset, .unset, .unset, .unset, .unset, .unset] [(.int ss)])) _
        refine XS.ifNo X14.here hx rfl (hb hby at_101) rfl ((if0 _ _).trans (teq (hs : ss = (0 : Int32))).2) ?_
        show Steps p.tables e below (T14.setTop (mkF m 104 #[.val (.int p1), .val (.int p2), .val (.int p3), .val (.int p4), .val (.int gg), .val (.int ss), .val (.int mn), .val (.int cc), .val (.ref b10), .val (.double (own_rec gg ss cc)), .second, .unset, .unset, .unset, .unset, .unset, .unset, .unset] [])) _
        refine own_dconst1 X14.here hx rfl (hb hby at_104) ?_
        show Steps p.tables e below (T14.setTop (mkF m 105 #[.val (.int p1), .val (.int p2), .val (.int p3), .val (.int p4), .val (.int gg), .val (.int ss), .val (.int mn), .val (.int cc), .val (.ref b10), .val (.double (own_rec gg ss cc)), .second, .unset, .unset, .unset, .unset, .unset, .unset, .unset] [(.double (4607182418800017408 : UInt64))])) _
        refine own_dstore X14.here hx rfl (hb hby at_105) rfl (l' := #[.val (.int p1), .val (.int p2), .val (.int p3), .val (.int p4), .val (.int gg), .val (.int ss), .val (.int mn), .val (.int cc), .val (.ref b10), .val (.double (own_rec gg ss cc)), .second, .val (.double (4607182418800017408 : UInt64)), .second, .unset, .unset, .unset, .unset, .unset]) rfl ?_
        show Steps p.tables e below (T14.setTop (mkF m 107 #[.val (.int p1), .val (.int p2), .val (.int p3), .val (.int p4), .val (.int gg), .val (.int ss), .val (.int mn), .val (.int cc), .val (.ref b10), .val (.double (own_rec gg ss cc)), .second, .val (.double (4607182418800017408 : UInt64)), .second, .unset, .unset, .unset, .unset, .unset] [])) _
        refine XS.goto X14.here hx rfl (pc0 := 107) (pc' := 141) rfl (hb hby at_107) (by decide) (by decide) ?_
        show Steps p.tables e below (T14.setTop (mkF m 141 #[.val (.int p1), .val (.int p2), .val (.int p3), .val (.int p4), .val (.int gg), .val (.int ss), .val (.int mn), .val (.int cc), .val (.ref b10), .val (.double (own_rec gg ss cc)), .second, .val (.double (4607182418800017408 : UInt64)), .second, .unset, .unset, .unset, .unset, .unset] [])) _
        refine own_dconst0 X14.here hx rfl (hb hby at_141) ?_
        show Steps p.tables e below (T14.setTop (mkF m 142 #[.val (.int p1), .val (.int p2), .val (.int p3), .val (.int p4), .val (.int gg), .val (.int ss), .val (.int mn), .val (.int cc), .val (.ref b10), .val (.double (own_rec gg ss cc)), .second, .val (.double (4607182418800017408 : UInt64)), .second, .unset, .unset, .unset, .unset, .unset] [(.double (0 : UInt64))])) _
        refine own_dload X14.here hx rfl (hb hby at_142) rfl ?_
        show Steps p.tables e below (T14.setTop (mkF m 144 #[.val (.int p1), .val (.int p2), .val (.int p3), .val (.int p4), .val (.int gg), .val (.int ss), .val (.int mn), .val (.int cc), .val (.ref b10), .val (.double (own_rec gg ss cc)), .second, .val (.double (4607182418800017408 : UInt64)), .second, .unset, .unset, .unset, .unset, .unset] [(.double (own_rec gg ss cc)), (.double (0 : UInt64))])) _
        refine own_dcmp X14.here hx rfl (hb hby at_144) rfl ?_
        show Steps p.tables e below (T14.setTop (mkF m 145 #[.val (.int p1), .val (.int p2), .val (.int p3), .val (.int p4), .val (.int gg), .val (.int ss), .val (.int mn), .val (.int cc), .val (.ref b10), .val (.double (own_rec gg ss cc)), .second, .val (.double (4607182418800017408 : UInt64)), .second, .unset, .unset, .unset, .unset, .unset] [(.int (cmpValue (FP.dcmp (0 : UInt64) (own_rec gg ss cc)) .g))])) _
        refine XS.ifNo X14.here hx rfl (hb hby at_145) rfl ((if0 _ _).trans (flt ((by rw [Own.cv_lt k3] <;> decide) : ¬ ((0 : Int32) < (cmpValue (FP.dcmp (0 : UInt64) (own_rec gg ss cc)) .g)))).2.2.1) ?_
        show Steps p.tables e below (T14.setTop (mkF m 148 #[.val (.int p1), .val (.int p2), .val (.int p3), .val (.int p4), .val (.int gg), .val (.int ss), .val (.int mn), .val (.int cc), .val (.ref b10), .val (.double (own_rec gg ss cc)), .second, .val (.double (4607182418800017408 : UInt64)), .second, .unset, .unset, .unset, .unset, .unset] [])) _
        refine own_dload X14.here hx rfl (hb hby at_148) rfl ?_
        show Steps p.tables e below (T14.setTop (mkF m 150 #[.val (.int p1), .val (.int p2), .val (.int p3), .val (.int p4), .val (.int gg), .val (.int ss), .val (.int mn), .val (.int cc), .val (.ref b10), .val (.double (own_rec gg ss cc)), .second, .val (.double (4607182418800017408 : UInt64)), .second, .unset, .unset, .unset, .unset, .unset] [(.double (own_rec gg ss cc))])) _
        refine own_dconst1 X14.here hx rfl (hb hby at_150) ?_
        show Steps p.tables e below (T14.setTop (mkF m 151 #[.val (.int p1), .val (.int p2), .val (.int p3), .val (.int p4), .val (.int gg), .val (.int ss), .val (.int mn), .val (.int cc), .val (.ref b10), .val (.double (own_rec gg ss cc)), .second, .val (.double (4607182418800017408 : UInt64)), .second, .unset, .unset, .unset, .unset, .unset] [(.double (4607182418800017408 : UInt64)), (.double (own_rec gg ss cc))])) _
        refine own_dcmp X14.here hx rfl (hb hby at_151) rfl ?_
        show Steps p.tables e below (T14.setTop (mkF m 152 #[.val (.int p1), .val (.int p2), .val (.int p3), .val (.int p4), .val (.int gg), .val (.int ss), .val (.int mn), .val (.int cc), .val (.ref b10), .val (.double (own_rec gg ss cc)), .second, .val (.double (4607182418800017408 : UInt64)), .second, .unset, .unset, .unset, .unset, .unset] [(.int (cmpValue (FP.dcmp (own_rec gg ss cc) (4607182418800017408 : UInt64)) .g))])) _
        refine XS.ifNo X14.here hx rfl (hb hby at_152) rfl ((if0 _ _).trans (flt ((by rw [Own.cv_eq k1] <;> decide) : ¬ ((0 : Int32) < (cmpValue (FP.dcmp (own_rec gg ss cc) (4607182418800017408 : UInt64)) .g)))).2.2.1) ?_
        show Steps p.tables e below (T14.setTop (mkF m 155 #[.val (.int p1), .val (.int p2), .val (.int p3), .val (.int p4), .val (.int gg), .val (.int ss), .val (.int mn), .val (.int cc), .val (.ref b10), .val (.double (own_rec gg ss cc)), .second, .val (.double (4607182418800017408 : UInt64)), .second, .unset, .unset, .unset, .unset, .unset] [])) _
        refine XS.iconst X14.here hx rfl (hb hby at_155) ?_
        show Steps p.tables e below (T14.setTop (mkF m 156 #[.val (.int p1), .val (.int p2), .val (.int p3), .val (.int p4), .val (.int gg), .val (.int ss), .val (.int mn), .val (.int cc), .val (.ref b10), .val (.double (own_rec gg ss cc)), .second, .val (.double (4607182418800017408 : UInt64)), .second, .unset, .unset, .unset, .unset, .unset] [(.int (1 : Int32))])) _
        refine XS.goto X14.here hx rfl (pc0 := 156) (pc' := 160) rfl (hb hby at_156) (by decide) (by decide) ?_
        show Steps p.tables e below (T14.setTop (mkF m 160 #[.val (.int p1), .val (.int p2), .val (.int p3), .val (.int p4), .val (.int gg), .val (.int ss), .val (.int mn), .val (.int cc), .val (.ref b10), .val (.double (own_rec gg ss cc)), .second, .val (.double (4607182418800017408 : UInt64)), .second, .unset, .unset, .unset, .unset, .unset] [(.int (1 : Int32))])) _
        refine XS.istore X14.here hx rfl (hb hby at_160) rfl (l' := #[.val (.int p1), .val (.int p2), .val (.int p3), .val (.int p4), .val (.int gg), .val (.int ss), .val (.int mn), .val (.int cc), .val (.ref b10), .val (.double (own_rec gg ss cc)), .second, .val (.double (4607182418800017408 : UInt64)), .second, .val (.int (1 : Int32)), .unset, .unset, .unset, .unset]) rfl ?_
        show Steps p.tables e below (T14.setTop (mkF m 162 #[.val (.int p1), .val (.int p2), .val (.int p3), .val (.int p4), .val (.int gg), .val (.int ss), .val (.int mn), .val (.int cc), .val (.ref b10), .val (.double (own_rec gg ss cc)), .second, .val (.double (4607182418800017408 : UInt64)), .second, .val (.int (1 : Int32)), .unset, .unset, .unset, .unset] [])) _
        refine own_dload X14.here hx rfl (hb hby at_162) rfl ?_
        show Steps p.tables e below (T14.setTop (mkF m 164 #[.val (.int p1), .val (.int p2), .val (.int p3), .val (.int p4), .val (.int gg), .val (.int ss), .val (.int mn), .val (.int cc), .val (.ref b10), .val (.double (own_rec gg ss cc)), .second, .val (.double (4607182418800017408 : UInt64)), .second, .val (.int (1 : Int32)), .unset, .unset, .unset, .unset] [(.double (own_rec gg ss cc))])) _
        refine own_dconst1 X14.here hx rfl (hb hby at_164) ?_
        show Steps p.tables e below (T14.setTop (mkF m 165 #[.val (.int p1), .val (.int p2), .val (.int p3), .val (.int p4), .val (.int gg), .val (.int ss), .val (.int mn), .val (.int cc), .val (.ref b10), .val (.double (own_rec gg ss cc)), .second, .val (.double (4607182418800017408 : UInt64)), .second, .val (.int (1 : Int32)), .unset, .unset, .unset, .unset] [(.double (4607182418800017408 : UInt64)), (.double (own_rec gg ss cc))])) _
        refine own_dcmp X14.here hx rfl (hb hby at_165) rfl ?_
        show Steps p.tables e below (T14.setTop (mkF m 166 #[.val (.int p1), .val (.int p2), .val (.int p3), .val (.int p4), .val (.int gg), .val (.int ss), .val (.int mn), .val (.int cc), .val (.ref b10), .val (.double (own_rec gg ss cc)), .second, .val (.double (4607182418800017408 : UInt64)), .second, .val (.int (1 : Int32)), .unset, .unset, .unset, .unset] [(.int (cmpValue (FP.dcmp (own_rec gg ss cc) (4607182418800017408 : UInt64)) .l))])) _
        refine XS.ifNo X14.here hx rfl (hb hby at_166) rfl ((if0 _ _).trans (teq ((by rw [Own.cv_eq k1] <;> decide) : (cmpValue (FP.dcmp (own_rec gg ss cc) (4607182418800017408 : UInt64)) .l) = (0 : Int32))).2) ?_
        show Steps p.tables e below (T14.setTop (mkF m 169 #[.val (.int p1), .val (.int p2), .val (.int p3), .val (.int p4), .val (.int gg), .val (.int ss), .val (.int mn), .val (.int cc), .val (.ref b10), .val (.double (own_rec gg ss cc)), .second, .val (.double (4607182418800017408 : UInt64)), .second, .val (.int (1 : Int32)), .unset, .unset, .unset, .unset] [])) _
        refine XS.iconst X14.here hx rfl (hb hby at_169) ?_
        show Steps p.tables e below (T14.setTop (mkF m 170 #[.val (.int p1), .val (.int p2), .val (.int p3), .val (.int p4), .val (.int gg), .val (.int ss), .val (.int mn), .val (.int cc), .val (.ref b10), .val (.double (own_rec gg ss cc)), .second, .val (.double (4607182418800017408 : UInt64)), .second, .val (.int (1 : Int32)), .unset, .unset, .unset, .unset] [(.int (1 : Int32))])) _
        refine XS.goto X14.here hx rfl (pc0 := 170) (pc' := 174) rfl (hb hby at_170) (by decide) (by decide) ?_
        show Steps p.tables e below (T14.setTop (mkF m 174 #[.val (.int p1), .val (.int p2), .val (.int p3), .val (.int p4), .val (.int gg), .val (.int ss), .val (.int mn), .val (.int cc), .val (.ref b10), .val (.double (own_rec gg ss cc)), .second, .val (.double (4607182418800017408 : UInt64)), .second, .val (.int (1 : Int32)), .unset, .unset, .unset, .unset] [(.int (1 : Int32))])) _
        refine XS.iload X14.here hx rfl (hb hby at_174) rfl ?_
        show Steps p.tables e below (T14.setTop (mkF m 176 #[.val (.int p1), .val (.int p2), .val (.int p3), .val (.int p4), .val (.int gg), .val (.int ss), .val (.int mn), .val (.int cc), .val (.ref b10), .val (.double (own_rec gg ss cc)), .second, .val (.double (4607182418800017408 : UInt64)), .second, .val (.int (1 : Int32)), .unset, .unset, .unset, .unset] [(.int gg), (.int (1 : Int32))])) _
        refine XS.ifNo X14.here hx rfl (hb hby at_176) rfl ((if0 _ _).trans (teq (hg : gg = (0 : Int32))).2) ?_
        show Steps p.tables e below (T14.setTop (mkF m 179 #[.val (.int p1), .val (.int p2), .val (.int p3), .val (.int p4), .val (.int gg), .val (.int ss), .val (.int mn), .val (.int cc), .val (.ref b10), .val (.double (own_rec gg ss cc)), .second, .val (.double (4607182418800017408 : UInt64)), .second, .val (.int (1 : Int32)), .unset, .unset, .unset, .unset] [(.int (1 : Int32))])) _
        refine XS.iload X14.here hx rfl (hb hby at_179) rfl ?_
        show Steps p.tables e below (T14.setTop (mkF m 181 #[.val (.int p1), .val (.int p2), .val (.int p3), .val (.int p4), .val (.int gg), .val (.int ss), .val (.int mn), .val (.int cc), .val (.ref b10), .val (.double (own_rec gg ss cc)), .second, .val (.double (4607182418800017408 : UInt64)), .second, .val (.int (1 : Int32)), .unset, .unset, .unset, .unset] [(.int ss), (.int (1 : Int32))])) _
        refine XS.ifYes X14.here hx rfl (pc0 := 181) (pc' := 196) rfl (hb hby at_181) rfl ((if0 _ _).trans (teq (hs : ss = (0 : Int32))).1) (by decide) (by decide) ?_
        show Steps p.tables e below (T14.setTop (mkF m 196 #[.val (.int p1), .val (.int p2), .val (.int p3), .val (.int p4), .val (.int gg), .val (.int ss), .val (.int mn), .val (.int cc), .val (.ref b10), .val (.double (own_rec gg ss cc)), .second, .val (.double (4607182418800017408 : UInt64)), .second, .val (.int (1 : Int32)), .unset, .unset, .unset, .unset] [(.int (1 : Int32))])) _
        refine XS.iconst X14.here hx rfl (hb hby at_196) ?_
        show Steps p.tables e below (T14.setTop (mkF m 197 #[.val (.int p1), .val (.int p2), .val (.int p3), .val (.int p4), .val (.int gg), .val (.int ss), .val (.int mn), .val (.int cc), .val (.ref b10), .val (.double (own_rec gg ss cc)), .second, .val (.double (4607182418800017408 : UInt64)), .second, .val (.int (1 : Int32)), .unset, .unset, .unset, .unset] [(.int (1 : Int32)), (.int (1 : Int32))])) _
        refine XS.goto X14.here hx rfl (pc0 := 197) (pc' := 201) rfl (hb hby at_197) (by decide) (by decide) ?_
        show Steps p.tables e below (T14.setTop (mkF m 201 #[.val (.int p1), .val (.int p2), .val (.int p3), .val (.int p4), .val (.int gg), .val (.int ss), .val (.int mn), .val (.int cc), .val (.ref b10), .val (.double (own_rec gg ss cc)), .second, .val (.double (4607182418800017408 : UInt64)), .second, .val (.int (1 : Int32)), .unset, .unset, .unset, .unset] [(.int (1 : Int32)), (.int (1 : Int32))])) _
        refine XS.icmpNo X14.here hx rfl (hb hby at_201) rfl (teq (by decide : (1 : Int32) = (1 : Int32))).2 ?_
        show Steps p.tables e below (T14.setTop (mkF m 204 #[.val (.int p1), .val (.int p2), .val (.int p3), .val (.int p4), .val (.int gg), .val (.int ss), .val (.int mn), .val (.int cc), .val (.ref b10), .val (.double (own_rec gg ss cc)), .second, .val (.double (4607182418800017408 : UInt64)), .second, .val (.int (1 : Int32)), .unset, .unset, .unset, .unset] [])) _
        refine XS.iconst X14.here hx rfl (hb hby at_204) ?_
        show Steps p.tables e below (T14.setTop (mkF m 205 #[.val (.int p1), .val (.int p2), .val (.int p3), .val (.int p4), .val (.int gg), .val (.int ss), .val (.int mn), .val (.int cc), .val (.ref b10), .val (.double (own_rec gg ss cc)), .second, .val (.double (4607182418800017408 : UInt64)), .second, .val (.int (1 : Int32)), .unset, .unset, .unset, .unset] [(.int (1 : Int32))])) _
        refine XS.goto X14.here hx rfl (pc0 := 205) (pc' := 209) rfl (hb hby at_205) (by decide) (by decide) ?_
        show Steps p.tables e below (T14.setTop (mkF m 209 #[.val (.int p1), .val (.int p2), .val (.int p3), .val (.int p4), .val (.int gg), .val (.int ss), .val (.int mn), .val (.int cc), .val (.ref b10), .val (.double (own_rec gg ss cc)), .second, .val (.double (4607182418800017408 : UInt64)), .second, .val (.int (1 : Int32)), .unset, .unset, .unset, .unset] [(.int (1 : Int32))])) _
        refine XS.istore X14.here hx rfl (hb hby at_209) rfl (l' := #[.val (.int p1), .val (.int p2), .val (.int p3), .val (.int p4), .val (.int gg), .val (.int ss), .val (.int mn), .val (.int cc), .val (.ref b10), .val (.double (own_rec gg ss cc)), .second, .val (.double (4607182418800017408 : UInt64)), .second, .val (.int (1 : Int32)), .val (.int (1 : Int32)), .unset, .unset, .unset]) rfl ?_
        show Steps p.tables e below (T14.setTop (mkF m 211 #[.val (.int p1), .val (.int p2), .val (.int p3), .val (.int p4), .val (.int gg), .val (.int ss), .val (.int mn), .val (.int cc), .val (.ref b10), .val (.double (own_rec gg ss cc)), .second, .val (.double (4607182418800017408 : UInt64)), .second, .val (.int (1 : Int32)), .val (.int (1 : Int32)), .unset, .unset, .unset] [])) _
        refine own_dload X14.here hx rfl (hb hby at_211) rfl ?_
        show Steps p.tables e below (T14.setTop (mkF m 213 #[.val (.int p1), .val (.int p2), .val (.int p3), .val (.int p4), .val (.int gg), .val (.int ss), .val (.int mn), .val (.int cc), .val (.ref b10), .val (.double (own_rec gg ss cc)), .second, .val (.double (4607182418800017408 : UInt64)), .second, .val (.int (1 : Int32)), .val (.int (1 : Int32)), .unset, .unset, .unset] [(.double (own_rec gg ss cc))])) _
        refine own_dconst0 X14.here hx rfl (hb hby at_213) ?_
        show Steps p.tables e below (T14.setTop (mkF m 214 #[.val (.int p1), .val (.int p2), .val (.int p3), .val (.int p4), .val (.int gg), .val (.int ss), .val (.int mn), .val (.int cc), .val (.ref b10), .val (.double (own_rec gg ss cc)), .second, .val (.double (4607182418800017408 : UInt64)), .second, .val (.int (1 : Int32)), .val (.int (1 : Int32)), .unset, .unset, .unset] [(.double (0 : UInt64)), (.double (own_rec gg ss cc))])) _
        refine own_dcmp X14.here hx rfl (hb hby at_214) rfl ?_
        show Steps p.tables e below (T14.setTop (mkF m 215 #[.val (.int p1), .val (.int p2), .val (.int p3), .val (.int p4), .val (.int gg), .val (.int ss), .val (.int mn), .val (.int cc), .val (.ref b10), .val (.double (own_rec gg ss cc)), .second, .val (.double (4607182418800017408 : UInt64)), .second, .val (.int (1 : Int32)), .val (.int (1 : Int32)), .unset, .unset, .unset] [(.int (cmpValue (FP.dcmp (own_rec gg ss cc) (0 : UInt64)) .l))])) _
        refine XS.ifYes X14.here hx rfl (pc0 := 215) (pc' := 222) rfl (hb hby at_215) rfl ((if0 _ _).trans (feq ((by rw [Own.cv_gt k4] <;> decide) : ¬ ((cmpValue (FP.dcmp (own_rec gg ss cc) (0 : UInt64)) .l) = (0 : Int32)))).2) (by decide) (by decide) ?_
        show Steps p.tables e below (T14.setTop (mkF m 222 #[.val (.int p1), .val (.int p2), .val (.int p3), .val (.int p4), .val (.int gg), .val (.int ss), .val (.int mn), .val (.int cc), .val (.ref b10), .val (.double (own_rec gg ss cc)), .second, .val (.double (4607182418800017408 : UInt64)), .second, .val (.int (1 : Int32)), .val (.int (1 : Int32)), .unset, .unset, .unset] [])) _
        refine XS.iconst X14.here hx rfl (hb hby at_222) ?_
        show Steps p.tables e below (T14.setTop (mkF m 223 #[.val (.int p1), .val (.int p2), .val (.int p3), .val (.int p4), .val (.int gg), .val (.int ss), .val (.int mn), .val (.int cc), .val (.ref b10), .val (.double (own_rec gg ss cc)), .second, .val (.double (4607182418800017408 : UInt64)), .second, .val (.int (1 : Int32)), .val (.int (1 : Int32)), .unset, .unset, .unset] [(.int (0 : Int32))])) _
        refine XS.iload X14.here hx rfl (hb hby at_223) rfl ?_
        show Steps p.tables e below (T14.setTop (mkF m 225 #[.val (.int p1), .val (.int p2), .val (.int p3), .val (.int p4), .val (.int gg), .val (.int ss), .val (.int mn), .val (.int cc), .val (.ref b10), .val (.double (own_rec gg ss cc)), .second, .val (.double (4607182418800017408 : UInt64)), .second, .val (.int (1 : Int32)), .val (.int (1 : Int32)), .unset, .unset, .unset] [(.int gg), (.int (0 : Int32))])) _
        refine XS.ifNo X14.here hx rfl (hb hby at_225) rfl ((if0 _ _).trans (teq (hg : gg = (0 : Int32))).2) ?_
        show Steps p.tables e below (T14.setTop (mkF m 228 #[.val (.int p1), .val (.int p2), .val (.int p3), .val (.int p4), .val (.int gg), .val (.int ss), .val (.int mn), .val (.int cc), .val (.ref b10), .val (.double (own_rec gg ss cc)), .second, .val (.double (4607182418800017408 : UInt64)), .second, .val (.int (1 : Int32)), .val (.int (1 : Int32)), .unset, .unset, .unset] [(.int (0 : Int32))])) _
        refine XS.iload X14.here hx rfl (hb hby at_228) rfl ?_
        show Steps p.tables e below (T14.setTop (mkF m 230 #[.val (.int p1), .val (.int p2), .val (.int p3), .val (.int p4), .val (.int gg), .val (.int ss), .val (.int mn), .val (.int cc), .val (.ref b10), .val (.double (own_rec gg ss cc)), .second, .val (.double (4607182418800017408 : UInt64)), .second, .val (.int (1 : Int32)), .val (.int (1 : Int32)), .unset, .unset, .unset] [(.int ss), (.int (0 : Int32))])) _
        refine XS.ifNo X14.here hx rfl (hb hby at_230) rfl ((if0 _ _).trans (flt (hsp : ¬ ((0 : Int32) < ss))).2.2.1) ?_
        show Steps p.tables e below (T14.setTop (mkF m 233 #[.val (.int p1), .val (.int p2), .val (.int p3), .val (.int p4), .val (.int gg), .val (.int ss), .val (.int mn), .val (.int cc), .val (.ref b10), .val (.double (own_rec gg ss cc)), .second, .val (.double (4607182418800017408 : UInt64)), .second, .val (.int (1 : Int32)), .val (.int (1 : Int32)), .unset, .unset, .unset] [(.int (0 : Int32))])) _
        refine XS.iload X14.here hx rfl (hb hby at_233) rfl ?_
        show Steps p.tables e below (T14.setTop (mkF m 235 #[.val (.int p1), .val (.int p2), .val (.int p3), .val (.int p4), .val (.int gg), .val (.int ss), .val (.int mn), .val (.int cc), .val (.ref b10), .val (.double (own_rec gg ss cc)), .second, .val (.double (4607182418800017408 : UInt64)), .second, .val (.int (1 : Int32)), .val (.int (1 : Int32)), .unset, .unset, .unset] [(.int gg), (.int (0 : Int32))])) _
        refine XS.ifYes X14.here hx rfl (pc0 := 235) (pc' := 247) rfl (hb hby at_235) rfl ((if0 _ _).trans (flt (hgp : ¬ ((0 : Int32) < gg))).2.2.2) (by decide) (by decide) ?_
        show Steps p.tables e below (T14.setTop (mkF m 247 #[.val (.int p1), .val (.int p2), .val (.int p3), .val (.int p4), .val (.int gg), .val (.int ss), .val (.int mn), .val (.int cc), .val (.ref b10), .val (.double (own_rec gg ss cc)), .second, .val (.double (4607182418800017408 : UInt64)), .second, .val (.int (1 : Int32)), .val (.int (1 : Int32)), .unset, .unset, .unset] [(.int (0 : Int32))])) _
        refine XS.iconst X14.here hx rfl (hb hby at_247) ?_
        show Steps p.tables e below (T14.setTop (mkF m 248 #[.val (.int p1), .val (.int p2), .val (.int p3), .val (.int p4), .val (.int gg), .val (.int ss), .val (.int mn), .val (.int cc), .val (.ref b10), .val (.double (own_rec gg ss cc)), .second, .val (.double (4607182418800017408 : UInt64)), .second, .val (.int (1 : Int32)), .val (.int (1 : Int32)), .unset, .unset, .unset] [(.int (0 : Int32)), (.int (0 : Int32))])) _
        refine XS.icmpNo X14.here hx rfl (hb hby at_248) rfl (teq (by decide : (0 : Int32) = (0 : Int32))).2 ?_
        show Steps p.tables e below (T14.setTop (mkF m 251 #[.val (.int p1), .val (.int p2), .val (.int p3), .val (.int p4), .val (.int gg), .val (.int ss), .val (.int mn), .val (.int cc), .val (.ref b10), .val (.double (own_rec gg ss cc)), .second, .val (.double (4607182418800017408 : UInt64)), .second, .val (.int (1 : Int32)), .val (.int (1 : Int32)), .unset, .unset, .unset] [])) _
        refine XS.iconst X14.here hx rfl (hb hby at_251) ?_
        show Steps p.tables e below (T14.setTop (mkF m 252 #[.val (.int p1), .val (.int p2), .val (.int p3), .val (.int p4), .val (.int gg), .val (.int ss), .val (.int mn), .val (.int cc), .val (.ref b10), .val (.double (own_rec gg ss cc)), .second, .val (.double (4607182418800017408 : UInt64)), .second, .val (.int (1 : Int32)), .val (.int (1 : Int32)), .unset, .unset, .unset] [(.int (1 : Int32))])) _
        refine XS.goto X14.here hx rfl (pc0 := 252) (pc' := 256) rfl (hb hby at_252) (by decide) (by decide) ?_
        show Steps p.tables e below (T14.setTop (mkF m 256 #[.val (.int p1), .val (.int p2), .val (.int p3), .val (.int p4), .val (.int gg), .val (.int ss), .val (.int mn), .val (.int cc), .val (.ref b10), .val (.double (own_rec gg ss cc)), .second, .val (.double (4607182418800017408 : UInt64)), .second, .val (.int (1 : Int32)), .val (.int (1 : Int32)), .unset, .unset, .unset] [(.int (1 : Int32))])) _
        refine XS.istore X14.here hx rfl (hb hby at_256) rfl (l' := #[.val (.int p1), .val (.int p2), .val (.int p3), .val (.int p4), .val (.int gg), .val (.int ss), .val (.int mn), .val (.int cc), .val (.ref b10), .val (.double (own_rec gg ss cc)), .second, .val (.double (4607182418800017408 : UInt64)), .second, .val (.int (1 : Int32)), .val (.int (1 : Int32)), .val (.int (1 : Int32)), .unset, .unset]) rfl ?_
        exact kt
      refine Go.adv sg16 ?_
      obtain ⟨T17, h17, X17, e17, E17, A17, D17, -, st17⟩ := newO X14 hx hZ hown (hw _ (List.mem_of_getElem? (i := 5) rfl)) (hw _ (List.mem_of_getElem? (i := 6) rfl)) (hw _ (List.mem_of_getElem? (i := 7) rfl)) e14 (g := (mkF m 258 #[.val (.int p1), .val (.int p2), .val (.int p3), .val (.int p4), .val (.int gg), .val (.int ss), .val (.int mn), .val (.int cc), .val (.ref b10), .val (.double (own_rec gg ss cc)), .second, .val (.double (4607182418800017408 : UInt64)), .second, .val (.int (1 : Int32)), .val (.int (1 : Int32)), .val (.int (1 : Int32)), .unset, .unset] [])) rfl (hb hby at_258) (by decide) (by decide)
      obtain ⟨b17, gb17⟩ : ∃ z, z = T12.heap.size := ⟨_, rfl⟩
      rw [← gb17] at A17 D17 st17
      have g_b17 : n0 ≤ b17 := Nat.le_trans Z12 (Nat.le_of_eq gb17.symm)
      have sz_b17 : h0.size ≤ b17 := Nat.le_trans K12.1 (Nat.le_of_eq gb17.symm)
      have ne_b10_b17 : b10 ≠ b17 := Nat.ne_of_lt (Nat.lt_of_lt_of_le p12_0.lt (Nat.le_of_eq gb17.symm))
      have K17 : Keep h0 h17 [] := K12.ext E17
      have Z17 : n0 ≤ h17.size := Nat.le_trans Z12 E17.1
      have F_gold_b17 : Fld Z h17 b17 "com/example/tally/tally/score/QuestionScore" "gold" "I" (.int (0 : Int32)) := D17 (Or.inr (hw _ (List.mem_of_getElem? (i := 20) rfl))) (ty := .int) (by decide)
      have F_system_b17 : Fld Z h17 b17 "com/example/tally/tally/score/QuestionScore" "system" "I" (.int (0 : Int32)) := D17 (Or.inr (hw _ (List.mem_of_getElem? (i := 22) rfl))) (ty := .int) (by decide)
      have F_correct_b17 : Fld Z h17 b17 "com/example/tally/tally/score/QuestionScore" "correct" "I" (.int (0 : Int32)) := D17 (Or.inr (hw _ (List.mem_of_getElem? (i := 24) rfl))) (ty := .int) (by decide)
      refine Go.adv st17 ?_
      show Go p.tables e below s _ _ _ (T17.setTop (mkF m 261 #[.val (.int p1), .val (.int p2), .val (.int p3), .val (.int p4), .val (.int gg), .val (.int ss), .val (.int mn), .val (.int cc), .val (.ref b10), .val (.double (own_rec gg ss cc)), .second, .val (.double (4607182418800017408 : UInt64)), .second, .val (.int (1 : Int32)), .val (.int (1 : Int32)), .val (.int (1 : Int32)), .unset, .unset] [(.ref b17)]))
      have sg18 : ∀ t, Steps p.tables e below (T17.setTop (mkF m 268 #[.val (.int p1), .val (.int p2), .val (.int p3), .val (.int p4), .val (.int gg), .val (.int ss), .val (.int mn), .val (.int cc), .val (.ref b10), .val (.double (own_rec gg ss cc)), .second, .val (.double (4607182418800017408 : UInt64)), .second, .val (.int (1 : Int32)), .val (.int (1 : Int32)), .val (.int (1 : Int32)), .unset, .unset] [(.int cc), (.int gg), (.int ss), (.ref b17), (.ref b17)])) t → Steps p.tables e below (T17.setTop (mkF m 261 #[.val (.int p1), .val (.int p2), .val (.int p3), .val (.int p4), .val (.int gg), .val (.int ss), .val (.int mn), .val (.int cc), .val (.ref b10), .val (.double (own_rec gg ss cc)), .second, .val (.double (4607182418800017408 : UInt64)), .second, .val (.int (1 : Int32)), .val (.int (1 : Int32)), .val (.int (1 : Int32)), .unset, .unset] [(.ref b17)])) t := by
        intro t kt
        show Steps p.tables e below (T17.setTop (mkF m 261 #[.val (.int p1), .val (.int p2), .val (.int p3), .val (.int p4), .val (.int gg), .val (.int ss), .val (.int mn), .val (.int cc), .val (.ref b10), .val (.double (own_rec gg ss cc)), .second, .val (.double (4607182418800017408 : UInt64)), .second, .val (.int (1 : Int32)), .val (.int (1 : Int32)), .val (.int (1 : Int32)), .unset, .unset] [(.ref b17)])) _
        refine XS.dup X17.here hx rfl (hb hby at_261) rfl rfl ?_
        show Steps p.tables e below (T17.setTop (mkF m 262 #[.val (.int p1), .val (.int p2), .val (.int p3), .val (.int p4), .val (.int gg), .val (.int ss), .val (.int mn), .val (.int cc), .val (.ref b10), .val (.double (own_rec gg ss cc)), .second, .val (.double (4607182418800017408 : UInt64)), .second, .val (.int (1 : Int32)), .val (.int (1 : Int32)), .val (.int (1 : Int32)), .unset, .unset] [(.ref b17), (.ref b17)])) _
        refine XS.iload X17.here hx rfl (hb hby at_262) rfl ?_
        show Steps p.tables e below (T17.setTop (mkF m 264 #[.val (.int p1), .val (.int p2), .val (.int p3), .val (.int p4), .val (.int gg), .val (.int ss), .val (.int mn), .val (.int cc), .val (.ref b10), .val (.double (own_rec gg ss cc)), .second, .val (.double (4607182418800017408 : UInt64)), .second, .val (.int (1 : Int32)), .val (.int (1 : Int32)), .val (.int (1 : Int32)), .unset, .unset] [(.int ss), (.ref b17), (.ref b17)])) _
        refine XS.iload X17.here hx rfl (hb hby at_264) rfl ?_
        show Steps p.tables e below (T17.setTop (mkF m 266 #[.val (.int p1), .val (.int p2), .val (.int p3), .val (.int p4), .val (.int gg), .val (.int ss), .val (.int mn), .val (.int cc), .val (.ref b10), .val (.double (own_rec gg ss cc)), .second, .val (.double (4607182418800017408 : UInt64)), .second, .val (.int (1 : Int32)), .val (.int (1 : Int32)), .val (.int (1 : Int32)), .unset, .unset] [(.int gg), (.int ss), (.ref b17), (.ref b17)])) _
        refine XS.iload X17.here hx rfl (hb hby at_266) rfl ?_
        exact kt
      refine Go.adv sg18 ?_
      obtain ⟨_, _, ⟨T19, L19, k19, n19⟩, -, X19, ⟨Lc19, hQ19, l19, y19, z19⟩, st19⟩ := X17.specialBack hx (y := (⟨"com/example/tally/tally/score/QuestionScore", "<init>", "(III)V"⟩ : MethodName)) rfl hown (mvT hZ (hw _ (List.mem_of_getElem? (i := 8) rfl))) (mvT hZ (hw _ (List.mem_of_getElem? (i := 9) rfl))) (mvT hZ (hw _ (List.mem_of_getElem? (i := 10) rfl))) (by decide) (backOf (W := 1) (rm_init l Z a0 hw [] b17 ss gg cc (.int (0 : Int32)) (.int (0 : Int32)) (.int (0 : Int32)) h17 n0 Z17 A17 g_b17 F_gold_b17 F_system_b17 F_correct_b17 (by assumption)) hZ (hw _ (List.mem_of_getElem? (i := 10) rfl)) (hw _ (List.mem_of_getElem? (i := 7) rfl)) (by decide) (by decide)) (g := (mkF m 268 #[.val (.int p1), .val (.int p2), .val (.int p3), .val (.int p4), .val (.int gg), .val (.int ss), .val (.int mn), .val (.int cc), .val (.ref b10), .val (.double (own_rec gg ss cc)), .second, .val (.double (4607182418800017408 : UInt64)), .second, .val (.int (1 : Int32)), .val (.int (1 : Int32)), .val (.int (1 : Int32)), .unset, .unset] [(.int cc), (.int gg), (.int ss), (.ref b17), (.ref b17)])) rfl (by rw [hml]; rfl) (Steps.refl _) (a := b17) (argsL := [(.int ss), (.int gg), (.int cc)]) (rest := [(.ref b17)]) (lenOf pd_oIIIcV rfl) rfl (by show 2 * 0 + _ ≤ _; exact Nat.le_of_eq rfl) (hb hby at_268) (fun _ _ => ⟨rfl, e17, (by decide : 2 + 0 ≤ _), (by decide : 6 + 0 ≤ _)⟩)
      dsimp only [Pt.U, Pt.locs, Pt.cells, Pt.slots] at X19 l19 y19 z19 st19 hQ19
      subst l19 y19 z19
      obtain ⟨rfl, N19q, Kc19, p19_0, p19_1, p19_2, p19_3⟩ := hQ19
      have N19 := Fr.app N14 N19q
      have K19 : Keep h0 T19.heap [] := K17.trans Kc19 (allS (Or.inr sz_b17) all0)
      have Z19 : n0 ≤ T19.heap.size := Nat.le_trans Z17 Kc19.1
      refine Go.tr st19 ?_
      show Go p.tables e below s _ _ _ (T19.setTop (mkF m 271 #[.val (.int p1), .val (.int p2), .val (.int p3), .val (.int p4), .val (.int gg), .val (.int ss), .val (.int mn), .val (.int cc), .val (.ref b10), .val (.double (own_rec gg ss cc)), .second, .val (.double (4607182418800017408 : UInt64)), .second, .val (.int (1 : Int32)), .val (.int (1 : Int32)), .val (.int (1 : Int32)), .unset, .unset] [(.ref b17)]))
      have sg20 : ∀ t, Steps p.tables e below (T19.setTop (mkF m 275 #[.val (.int p1), .val (.int p2), .val (.int p3), .val (.int p4), .val (.int gg), .val (.int ss), .val (.int mn), .val (.int cc), .val (.ref b10), .val (.double (own_rec gg ss cc)), .second, .val (.double (4607182418800017408 : UInt64)), .second, .val (.int (1 : Int32)), .val (.int (1 : Int32)), .val (.int (1 : Int32)), .val (.ref b17), .unset] [(.ref b17)])) t → Steps p.tables e below (T19.setTop (mkF m 271 #[.val (.int p1), .val (.int p2), .val (.int p3), .val (.int p4), .val (.int gg), .val (.int ss), .val (.int mn), .val (.int cc), .val (.ref b10), .val (.double (own_rec gg ss cc)), .second, .val (.double (4607182418800017408 : UInt64)), .second, .val (.int (1 : Int32)), .val (.int (1 : Int32)), .val (.int (1 : Int32)), .unset, .unset] [(.ref b17)])) t := by
        intro t kt
        show Steps p.tables e below (T19.setTop (mkF m 271 #[.val (.int p1), .val (.int p2), .val (.int p3), .val (.int p4), .val (.int gg), .val (.int ss), .val (.int mn), .val (.int cc), .val (.ref b10), .val (.double (own_rec gg ss cc)), .second, .val (.double (4607182418800017408 : UInt64)), .second, .val (.int (1 : Int32)), .val (.int (1 : Int32)), .val (.int (1 : Int32)), .unset, .unset] [(.ref b17)])) _
        refine XS.astore X19.here hx rfl (hb hby at_271) rfl rfl (l' := #[.val (.int p1), .val (.int p2), .val (.int p3), .val (.int p4), .val (.int gg), .val (.int ss), .val (.int mn), .val (.int cc), .val (.ref b10), .val (.double (own_rec gg ss cc)), .second, .val (.double (4607182418800017408 : UInt64)), .second, .val (.int (1 : Int32)), .val (.int (1 : Int32)), .val (.int (1 : Int32)), .val (.ref b17), .unset]) rfl ?_
        show Steps p.tables e below (T19.setTop (mkF m 273 #[.val (.int p1), .val (.int p2), .val (.int p3), .val (.int p4), .val (.int gg), .val (.int ss), .val (.int mn), .val (.int cc), .val (.ref b10), .val (.double (own_rec gg ss cc)), .second, .val (.double (4607182418800017408 : UInt64)), .second, .val (.int (1 : Int32)), .val (.int (1 : Int32)), .val (.int (1 : Int32)), .val (.ref b17), .unset] [])) _
        refine XS.aload X19.here hx rfl (hb hby at_273) rfl rfl ?_
        exact kt
      refine Go.adv sg20 ?_
      obtain ⟨cq21, kq21, q21a, q21b, q21c⟩ := isOf hZ rfl p19_0
      obtain ⟨_, _, ⟨T21, L21, k21, n21⟩, -, X21, ⟨Lc21, hQ21, l21, y21, z21⟩, st21⟩ := X19.virtualBack hx (y := (⟨"com/example/tally/tally/score/QuestionScore", "precision", "()D"⟩ : MethodName)) (z := (⟨"com/example/tally/tally/score/QuestionScore", "precision", "()D"⟩ : MethodName)) hown (mvT hZ (hw _ (List.mem_of_getElem? (i := 30) rfl))) (mvT hZ (hw _ (List.mem_of_getElem? (i := 31) rfl))) (notFace_of_selects (args := #[]) (mvT hZ (hw _ (List.mem_of_getElem? (i := 33) rfl)))) (mvT hZ (hw _ (List.mem_of_getElem? (i := 33) rfl))) (mvT hZ (hw _ (List.mem_of_getElem? (i := 32) rfl))) (by decide) (backOf (W := 0) (rm_precision l Z a0 hw [] b17 ss gg cc T19.heap n0 Z19 p19_1 p19_2 p19_3) hZ (hw _ (List.mem_of_getElem? (i := 34) rfl)) (hw _ (List.mem_of_getElem? (i := 7) rfl)) (by decide) (by decide)) q21a q21c (g := (mkF m 275 #[.val (.int p1), .val (.int p2), .val (.int p3), .val (.int p4), .val (.int gg), .val (.int ss), .val (.int mn), .val (.int cc), .val (.ref b10), .val (.double (own_rec gg ss cc)), .second, .val (.double (4607182418800017408 : UInt64)), .second, .val (.int (1 : Int32)), .val (.int (1 : Int32)), .val (.int (1 : Int32)), .val (.ref b17), .unset] [(.ref b17)])) rfl (by rw [hml]; rfl) (Steps.refl _) (argsL := []) (rest := []) (lenOf pd_ocD rfl) rfl (by show 2 * 0 + _ ≤ _; exact Nat.le_of_eq rfl) (hb hby at_275) (fun _ _ => ⟨rfl, rfl, (by decide : 2 + 0 ≤ _), (by decide : 6 + 0 ≤ _)⟩)
      dsimp only [Pt.U, Pt.locs, Pt.cells, Pt.slots] at X21 l21 y21 z21 st21 hQ21
      subst l21 y21 z21
      obtain ⟨rfl, N21q, e21⟩ := hQ21
      have N21 := Fr.app N19 N21q
      refine Go.tr st21 ?_
      show Go p.tables e below s _ _ _ (T21.setTop (mkF m 278 #[.val (.int p1), .val (.int p2), .val (.int p3), .val (.int p4), .val (.int gg), .val (.int ss), .val (.int mn), .val (.int cc), .val (.ref b10), .val (.double (own_rec gg ss cc)), .second, .val (.double (4607182418800017408 : UInt64)), .second, .val (.int (1 : Int32)), .val (.int (1 : Int32)), .val (.int (1 : Int32)), .val (.ref b17), .unset] [(.double (own_prec ss gg cc))]))
      have sg22 : ∀ t, Steps p.tables e below (T21.setTop (mkF m 324 #[.val (.int p1), .val (.int p2), .val (.int p3), .val (.int p4), .val (.int gg), .val (.int ss), .val (.int mn), .val (.int cc), .val (.ref b10), .val (.double (own_rec gg ss cc)), .second, .val (.double (4607182418800017408 : UInt64)), .second, .val (.int (1 : Int32)), .val (.int (1 : Int32)), .val (.int (1 : Int32)), .val (.ref b17), .val (.int (1 : Int32))] [(.int (1 : Int32))])) t → Steps p.tables e below (T21.setTop (mkF m 278 #[.val (.int p1), .val (.int p2), .val (.int p3), .val (.int p4), .val (.int gg), .val (.int ss), .val (.int mn), .val (.int cc), .val (.ref b10), .val (.double (own_rec gg ss cc)), .second, .val (.double (4607182418800017408 : UInt64)), .second, .val (.int (1 : Int32)), .val (.int (1 : Int32)), .val (.int (1 : Int32)), .val (.ref b17), .unset] [(.double (own_prec ss gg cc))])) t := by
        intro t kt
        show Steps p.tables e below (T21.setTop (mkF m 278 #[.val (.int p1), .val (.int p2), .val (.int p3), .val (.int p4), .val (.int gg), .val (.int ss), .val (.int mn), .val (.int cc), .val (.ref b10), .val (.double (own_rec gg ss cc)), .second, .val (.double (4607182418800017408 : UInt64)), .second, .val (.int (1 : Int32)), .val (.int (1 : Int32)), .val (.int (1 : Int32)), .val (.ref b17), .unset] [(.double (own_prec ss gg cc))])) _
        refine own_dload X21.here hx rfl (hb hby at_278) rfl ?_
        show Steps p.tables e below (T21.setTop (mkF m 280 #[.val (.int p1), .val (.int p2), .val (.int p3), .val (.int p4), .val (.int gg), .val (.int ss), .val (.int mn), .val (.int cc), .val (.ref b10), .val (.double (own_rec gg ss cc)), .second, .val (.double (4607182418800017408 : UInt64)), .second, .val (.int (1 : Int32)), .val (.int (1 : Int32)), .val (.int (1 : Int32)), .val (.ref b17), .unset] [(.double (own_rec gg ss cc)), (.double (own_prec ss gg cc))])) _
        refine own_dcmp X21.here hx rfl (hb hby at_280) rfl ?_
        show Steps p.tables e below (T21.setTop (mkF m 281 #[.val (.int p1), .val (.int p2), .val (.int p3), .val (.int p4), .val (.int gg), .val (.int ss), .val (.int mn), .val (.int cc), .val (.ref b10), .val (.double (own_rec gg ss cc)), .second, .val (.double (4607182418800017408 : UInt64)), .second, .val (.int (1 : Int32)), .val (.int (1 : Int32)), .val (.int (1 : Int32)), .val (.ref b17), .unset] [(.int (cmpValue (FP.dcmp (own_prec ss gg cc) (own_rec gg ss cc)) .l))])) _
        refine XS.ifNo X21.here hx rfl (hb hby at_281) rfl ((if0 _ _).trans (teq ((by rw [Own.cv_eq k2] <;> decide) : (cmpValue (FP.dcmp (own_prec ss gg cc) (own_rec gg ss cc)) .l) = (0 : Int32))).2) ?_
        show Steps p.tables e below (T21.setTop (mkF m 284 #[.val (.int p1), .val (.int p2), .val (.int p3), .val (.int p4), .val (.int gg), .val (.int ss), .val (.int mn), .val (.int cc), .val (.ref b10), .val (.double (own_rec gg ss cc)), .second, .val (.double (4607182418800017408 : UInt64)), .second, .val (.int (1 : Int32)), .val (.int (1 : Int32)), .val (.int (1 : Int32)), .val (.ref b17), .unset] [])) _
        refine XS.iconst X21.here hx rfl (hb hby at_284) ?_
        show Steps p.tables e below (T21.setTop (mkF m 285 #[.val (.int p1), .val (.int p2), .val (.int p3), .val (.int p4), .val (.int gg), .val (.int ss), .val (.int mn), .val (.int cc), .val (.ref b10), .val (.double (own_rec gg ss cc)), .second, .val (.double (4607182418800017408 : UInt64)), .second, .val (.int (1 : Int32)), .val (.int (1 : Int32)), .val (.int (1 : Int32)), .val (.ref b17), .unset] [(.int (1 : Int32))])) _
        refine XS.goto X21.here hx rfl (pc0 := 285) (pc' := 289) rfl (hb hby at_285) (by decide) (by decide) ?_
        show Steps p.tables e below (T21.setTop (mkF m 289 #[.val (.int p1), .val (.int p2), .val (.int p3), .val (.int p4), .val (.int gg), .val (.int ss), .val (.int mn), .val (.int cc), .val (.ref b10), .val (.double (own_rec gg ss cc)), .second, .val (.double (4607182418800017408 : UInt64)), .second, .val (.int (1 : Int32)), .val (.int (1 : Int32)), .val (.int (1 : Int32)), .val (.ref b17), .unset] [(.int (1 : Int32))])) _
        refine XS.istore X21.here hx rfl (hb hby at_289) rfl (l' := #[.val (.int p1), .val (.int p2), .val (.int p3), .val (.int p4), .val (.int gg), .val (.int ss), .val (.int mn), .val (.int cc), .val (.ref b10), .val (.double (own_rec gg ss cc)), .second, .val (.double (4607182418800017408 : UInt64)), .second, .val (.int (1 : Int32)), .val (.int (1 : Int32)), .val (.int (1 : Int32)), .val (.ref b17), .val (.int (1 : Int32))]) rfl ?_
        show Steps p.tables e below (T21.setTop (mkF m 291 #[.val (.int p1), .val (.int p2), .val (.int p3), .val (.int p4), .val (.int gg), .val (.int ss), .val (.int mn), .val (.int cc), .val (.ref b10), .val (.double (own_rec gg ss cc)), .second, .val (.double (4607182418800017408 : UInt64)), .second, .val (.int (1 : Int32)), .val (.int (1 : Int32)), .val (.int (1 : Int32)), .val (.ref b17), .val (.int (1 : Int32))] [])) _
        refine own_dload X21.here hx rfl (hb hby at_291) rfl ?_
        show Steps p.tables e below (T21.setTop (mkF m 293 #[.val (.int p1), .val (.int p2), .val (.int p3), .val (.int p4), .val (.int gg), .val (.int ss), .val (.int mn), .val (.int cc), .val (.ref b10), .val (.double (own_rec gg ss cc)), .second, .val (.double (4607182418800017408 : UInt64)), .second, .val (.int (1 : Int32)), .val (.int (1 : Int32)), .val (.int (1 : Int32)), .val (.ref b17), .val (.int (1 : Int32))] [(.double (own_rec gg ss cc))])) _
        refine own_dload X21.here hx rfl (hb hby at_293) rfl ?_
        show Steps p.tables e below (T21.setTop (mkF m 295 #[.val (.int p1), .val (.int p2), .val (.int p3), .val (.int p4), .val (.int gg), .val (.int ss), .val (.int mn), .val (.int cc), .val (.ref b10), .val (.double (own_rec gg ss cc)), .second, .val (.double (4607182418800017408 : UInt64)), .second, .val (.int (1 : Int32)), .val (.int (1 : Int32)), .val (.int (1 : Int32)), .val (.ref b17), .val (.int (1 : Int32))] [(.double (4607182418800017408 : UInt64)), (.double (own_rec gg ss cc))])) _
        refine own_dcmp X21.here hx rfl (hb hby at_295) rfl ?_
        show Steps p.tables e below (T21.setTop (mkF m 296 #[.val (.int p1), .val (.int p2), .val (.int p3), .val (.int p4), .val (.int gg), .val (.int ss), .val (.int mn), .val (.int cc), .val (.ref b10), .val (.double (own_rec gg ss cc)), .second, .val (.double (4607182418800017408 : UInt64)), .second, .val (.int (1 : Int32)), .val (.int (1 : Int32)), .val (.int (1 : Int32)), .val (.ref b17), .val (.int (1 : Int32))] [(.int (cmpValue (FP.dcmp (own_rec gg ss cc) (4607182418800017408 : UInt64)) .l))])) _
        refine XS.ifNo X21.here hx rfl (hb hby at_296) rfl ((if0 _ _).trans (teq ((by rw [Own.cv_eq k1] <;> decide) : (cmpValue (FP.dcmp (own_rec gg ss cc) (4607182418800017408 : UInt64)) .l) = (0 : Int32))).2) ?_
        show Steps p.tables e below (T21.setTop (mkF m 299 #[.val (.int p1), .val (.int p2), .val (.int p3), .val (.int p4), .val (.int gg), .val (.int ss), .val (.int mn), .val (.int cc), .val (.ref b10), .val (.double (own_rec gg ss cc)), .second, .val (.double (4607182418800017408 : UInt64)), .second, .val (.int (1 : Int32)), .val (.int (1 : Int32)), .val (.int (1 : Int32)), .val (.ref b17), .val (.int (1 : Int32))] [])) _
        refine XS.iload X21.here hx rfl (hb hby at_299) rfl ?_
        show Steps p.tables e below (T21.setTop (mkF m 301 #[.val (.int p1), .val (.int p2), .val (.int p3), .val (.int p4), .val (.int gg), .val (.int ss), .val (.int mn), .val (.int cc), .val (.ref b10), .val (.double (own_rec gg ss cc)), .second, .val (.double (4607182418800017408 : UInt64)), .second, .val (.int (1 : Int32)), .val (.int (1 : Int32)), .val (.int (1 : Int32)), .val (.ref b17), .val (.int (1 : Int32))] [(.int (1 : Int32))])) _
        refine XS.ifNo X21.here hx rfl (hb hby at_301) rfl ((if0 _ _).trans (feq (by decide : ¬ ((1 : Int32) = (0 : Int32)))).1) ?_
        show Steps p.tables e below (T21.setTop (mkF m 304 #[.val (.int p1), .val (.int p2), .val (.int p3), .val (.int p4), .val (.int gg), .val (.int ss), .val (.int mn), .val (.int cc), .val (.ref b10), .val (.double (own_rec gg ss cc)), .second, .val (.double (4607182418800017408 : UInt64)), .second, .val (.int (1 : Int32)), .val (.int (1 : Int32)), .val (.int (1 : Int32)), .val (.ref b17), .val (.int (1 : Int32))] [])) _
        refine XS.iload X21.here hx rfl (hb hby at_304) rfl ?_
        show Steps p.tables e below (T21.setTop (mkF m 306 #[.val (.int p1), .val (.int p2), .val (.int p3), .val (.int p4), .val (.int gg), .val (.int ss), .val (.int mn), .val (.int cc), .val (.ref b10), .val (.double (own_rec gg ss cc)), .second, .val (.double (4607182418800017408 : UInt64)), .second, .val (.int (1 : Int32)), .val (.int (1 : Int32)), .val (.int (1 : Int32)), .val (.ref b17), .val (.int (1 : Int32))] [(.int (1 : Int32))])) _
        refine XS.ifNo X21.here hx rfl (hb hby at_306) rfl ((if0 _ _).trans (feq (by decide : ¬ ((1 : Int32) = (0 : Int32)))).1) ?_
        show Steps p.tables e below (T21.setTop (mkF m 309 #[.val (.int p1), .val (.int p2), .val (.int p3), .val (.int p4), .val (.int gg), .val (.int ss), .val (.int mn), .val (.int cc), .val (.ref b10), .val (.double (own_rec gg ss cc)), .second, .val (.double (4607182418800017408 : UInt64)), .second, .val (.int (1 : Int32)), .val (.int (1 : Int32)), .val (.int (1 : Int32)), .val (.ref b17), .val (.int (1 : Int32))] [])) _
        refine XS.iload X21.here hx rfl (hb hby at_309) rfl ?_
        show Steps p.tables e below (T21.setTop (mkF m 311 #[.val (.int p1), .val (.int p2), .val (.int p3), .val (.int p4), .val (.int gg), .val (.int ss), .val (.int mn), .val (.int cc), .val (.ref b10), .val (.double (own_rec gg ss cc)), .second, .val (.double (4607182418800017408 : UInt64)), .second, .val (.int (1 : Int32)), .val (.int (1 : Int32)), .val (.int (1 : Int32)), .val (.ref b17), .val (.int (1 : Int32))] [(.int (1 : Int32))])) _
        refine XS.ifNo X21.here hx rfl (hb hby at_311) rfl ((if0 _ _).trans (feq (by decide : ¬ ((1 : Int32) = (0 : Int32)))).1) ?_
        show Steps p.tables e below (T21.setTop (mkF m 314 #[.val (.int p1), .val (.int p2), .val (.int p3), .val (.int p4), .val (.int gg), .val (.int ss), .val (.int mn), .val (.int cc), .val (.ref b10), .val (.double (own_rec gg ss cc)), .second, .val (.double (4607182418800017408 : UInt64)), .second, .val (.int (1 : Int32)), .val (.int (1 : Int32)), .val (.int (1 : Int32)), .val (.ref b17), .val (.int (1 : Int32))] [])) _
        refine XS.iload X21.here hx rfl (hb hby at_314) rfl ?_
        show Steps p.tables e below (T21.setTop (mkF m 316 #[.val (.int p1), .val (.int p2), .val (.int p3), .val (.int p4), .val (.int gg), .val (.int ss), .val (.int mn), .val (.int cc), .val (.ref b10), .val (.double (own_rec gg ss cc)), .second, .val (.double (4607182418800017408 : UInt64)), .second, .val (.int (1 : Int32)), .val (.int (1 : Int32)), .val (.int (1 : Int32)), .val (.ref b17), .val (.int (1 : Int32))] [(.int (1 : Int32))])) _
        refine XS.ifNo X21.here hx rfl (hb hby at_316) rfl ((if0 _ _).trans (feq (by decide : ¬ ((1 : Int32) = (0 : Int32)))).1) ?_
        show Steps p.tables e below (T21.setTop (mkF m 319 #[.val (.int p1), .val (.int p2), .val (.int p3), .val (.int p4), .val (.int gg), .val (.int ss), .val (.int mn), .val (.int cc), .val (.ref b10), .val (.double (own_rec gg ss cc)), .second, .val (.double (4607182418800017408 : UInt64)), .second, .val (.int (1 : Int32)), .val (.int (1 : Int32)), .val (.int (1 : Int32)), .val (.ref b17), .val (.int (1 : Int32))] [])) _
        refine XS.iconst X21.here hx rfl (hb hby at_319) ?_
        show Steps p.tables e below (T21.setTop (mkF m 320 #[.val (.int p1), .val (.int p2), .val (.int p3), .val (.int p4), .val (.int gg), .val (.int ss), .val (.int mn), .val (.int cc), .val (.ref b10), .val (.double (own_rec gg ss cc)), .second, .val (.double (4607182418800017408 : UInt64)), .second, .val (.int (1 : Int32)), .val (.int (1 : Int32)), .val (.int (1 : Int32)), .val (.ref b17), .val (.int (1 : Int32))] [(.int (1 : Int32))])) _
        refine XS.goto X21.here hx rfl (pc0 := 320) (pc' := 324) rfl (hb hby at_320) (by decide) (by decide) ?_
        exact kt
      refine Go.adv sg22 ?_
      refine Go.ret (v := (some (.int (1 : Int32)))) X21 (fun h => by rw [Bd.returns] at h; cases h) Bd.notSynchronized (fun fs hr => retN X21 hx (t := .boolean) Bd.returns (by simp) (hb hby at_324) hr) ?_ (by decide) (by decide)
      show Q_rm0 Z p1 p2 p3 p4 h0 n0 (some (.int (1 : Int32))) T21.heap _
      rw [e21]
      exact ⟨rfl, N21⟩
    · have hsp := own_pos hs0 hs
      obtain ⟨k1, k2, k3, k4⟩ := own_rec_B (cc := cc) hg hs
      have sg23 : ∀ t, Steps p.tables e below (T14.setTop (mkF m 258 #[.val (.int p1), .val (.int p2), .val (.int p3), .val (.int p4), .val (.int gg), .val (.int ss), .val (.int mn), .val (.int cc), .val (.ref b10), .val (.double (own_rec gg ss cc)), .second, .val (.double (0 : UInt64)), .second, .val (.int (1 : Int32)), .val (.int (1 : Int32)), .val (.int (1 : Int32)), .unset, .unset] [])) t → Steps p.tables e below (T14.setTop (mkF m 94 #[.val (.int p1), .val (.int p2), .val (.int p3), .val (.int p4), .val (.int gg), .val (.int ss), .val (.int mn), .val (.int cc), .val (.ref b10), .val (.double (own_rec gg ss cc)), .second, .unset, .unset, .unset, .unset, .unset, .unset, .unset] [])) t := by
        intro t kt
        show Steps p.tables e below (T14.setTop (mkF m 94 #[.val (.int p1), .val (.int p2), .val (.int p3), .val (.int p4), .val (.int gg), .val (.int ss), .val (.int mn), .val (.int cc), .val (.ref b10), .val (.double (own_rec gg ss cc)), .second, .unset, .unset, .unset, .unset, .unset, .unset, .unset] [])) _
        refine XS.iload X14.here hx rfl (hb hby at_94) rfl ?_
        show Steps p.tables e below (T14.setTop (mkF m 96 #[.val (.int p1), .val (.int p2), .val (.int p3), .val (.int p4), .val (.int gg), .val (.int ss), .val (.int mn), .val (.int cc), .val (.ref b10), .val (.double (own_rec gg ss cc)), .second, .unset, .unset, .unset, .unset, .unset, .unset, .unset] [(.int gg)])) _
        refine XS.ifNo X14.here hx rfl (hb hby at_96) rfl ((if0 _ _).trans (teq (hg : gg = (0 : Int32))).2) ?_
        show Steps p.tables e below (T14.setTop (mkF m 99 #[.val (.int p1), .val (.int p2), .val (.int p3), .val (.int p4), .val (.int gg), .val (.int ss), .val (.int mn), .val (.int cc), .val (.ref b10), .val (.double (own_rec gg ss cc)), .second, .unset, .unset, .unset, .unset, .unset, .unset, .unset] [])) _
        refine XS.iload X14.here hx rfl (hb hby at_99) rfl ?_
        show Steps p.tables e below (T14.setTop (mkF m 101 #[.val (.int p1), .val (.int p2), .val (.int p3), .val (.int p4), .val (.int gg), .val (.int ss), .val (.int mn), .val (.int cc), .val (.ref b10), .val (.double (own_rec gg ss cc)), .second, .unset, .unset, .unset, .unset, .unset, .unset, .unset] [(.int ss)])) _
        refine XS.ifYes X14.here hx rfl (pc0 := 101) (pc' := 110) rfl (hb hby at_101) rfl ((if0 _ _).trans (feq (hs : ¬ (ss = (0 : Int32)))).2) (by decide) (by decide) ?_
        show Steps p.tables e below (T14.setTop (mkF m 110 #[.val (.int p1), .val (.int p2), .val (.int p3), .val (.int p4), .val (.int gg), .val (.int ss), .val (.int mn), .val (.int cc), .val (.ref b10), .val (.double (own_rec gg ss cc)), .second, .unset, .unset, .unset, .unset, .unset, .unset, .unset] [])) _
        refine XS.iload X14.here hx rfl (hb hby at_110) rfl ?_
        show Steps p.tables e below (T14.setTop (mkF m 112 #[.val (.int p1), .val (.int p2), .val (.int p3), .val (.int p4), .val (.int gg), .val (.int ss), .val (.int mn), .val (.int cc), .val (.ref b10), .val (.double (own_rec gg ss cc)), .second, .unset, .unset, .unset, .unset, .unset, .unset, .unset] [(.int gg)])) _
        refine XS.ifNo X14.here hx rfl (hb hby at_112) rfl ((if0 _ _).trans (teq (hg : gg = (0 : Int32))).2) ?_
        show Steps p.tables e below (T14.setTop (mkF m 115 #[.val (.int p1), .val (.int p2), .val (.int p3), .val (.int p4), .val (.int gg), .val (.int ss), .val (.int mn), .val (.int cc), .val (.ref b10), .val (.double (own_rec gg ss cc)), .second, .unset, .unset, .unset, .unset, .unset, .unset, .unset] [])) _
        refine own_dconst0 X14.here hx rfl (hb hby at_115) ?_
        show Steps p.tables e below (T14.setTop (mkF m 116 #[.val (.int p1), .val (.int p2), .val (.int p3), .val (.int p4), .val (.int gg), .val (.int ss), .val (.int mn), .val (.int cc), .val (.ref b10), .val (.double (own_rec gg ss cc)), .second, .unset, .unset, .unset, .unset, .unset, .unset, .unset] [(.double (0 : UInt64))])) _
        refine own_dstore X14.here hx rfl (hb hby at_116) rfl (l' := #[.val (.int p1), .val (.int p2), .val (.int p3), .val (.int p4), .val (.int gg), .val (.int ss), .val (.int mn), .val (.int cc), .val (.ref b10), .val (.double (own_rec gg ss cc)), .second, .val (.double (0 : UInt64)), .second, .unset, .unset, .unset, .unset, .unset]) rfl ?_
        show Steps p.tables e below (T14.setTop (mkF m 118 #[.val (.int p1), .val (.int p2), .val (.int p3), .val (.int p4), .val (.int gg), .val (.int ss), .val (.int mn), .val (.int cc), .val (.ref b10), .val (.double (own_rec gg ss cc)), .second, .val (.double (0 : UInt64)), .second, .unset, .unset, .unset, .unset, .unset] [])) _
        refine XS.goto X14.here hx rfl (pc0 := 118) (pc' := 141) rfl (hb hby at_118) (by decide) (by decide) ?_
        show Steps p.tables e below (T14.setTop (mkF m 141 #[.val (.int p1), .val (.int p2), .val (.int p3), .val (.int p4), .val (.int gg), .val (.int ss), .val (.int mn), .val (.int cc), .val (.ref b10), .val (.double (own_rec gg ss cc)), .second, .val (.double (0 : UInt64)), .second, .unset, .unset, .unset, .unset, .unset] [])) _
        refine own_dconst0 X14.here hx rfl (hb hby at_141) ?_
        show Steps p.tables e below (T14.setTop (mkF m 142 #[.val (.int p1), .val (.int p2), .val (.int p3), .val (.int p4), .val (.int gg), .val (.int ss), .val (.int mn), .val (.int cc), .val (.ref b10), .val (.double (own_rec gg ss cc)), .second, .val (.double (0 : UInt64)), .second, .unset, .unset, .unset, .unset, .unset] [(.double (0 : UInt64))])) _
        refine own_dload X14.here hx rfl (hb hby at_142) rfl ?_
        show Steps p.tables e below (T14.setTop (mkF m 144 #[.val (.int p1), .val (.int p2), .val (.int p3), .val (.int p4), .val (.int gg), .val (.int ss), .val (.int mn), .val (.int cc), .val (.ref b10), .val (.double (own_rec gg ss cc)), .second, .val (.double (0 : UInt64)), .second, .unset, .unset, .unset, .unset, .unset] [(.double (own_rec gg ss cc)), (.double (0 : UInt64))])) _
        refine own_dcmp X14.here hx rfl (hb hby at_144) rfl ?_
        show Steps p.tables e below (T14.setTop (mkF m 145 #[.val (.int p1), .val (.int p2), .val (.int p3), .val (.int p4), .val (.int gg), .val (.int ss), .val (.int mn), .val (.int cc), .val (.ref b10), .val (.double (own_rec gg ss cc)), .second, .val (.double (0 : UInt64)), .second, .unset, .unset, .unset, .unset, .unset] [(.int (cmpValue (FP.dcmp (0 : UInt64) (own_rec gg ss cc)) .g))])) _
        refine XS.ifNo X14.here hx rfl (hb hby at_145) rfl ((if0 _ _).trans (flt ((by rw [Own.cv_eq k3] <;> decide) : ¬ ((0 : Int32) < (cmpValue (FP.dcmp (0 : UInt64) (own_rec gg ss cc)) .g)))).2.2.1) ?_
        show Steps p.tables e below (T14.setTop (mkF m 148 #[.val (.int p1), .val (.int p2), .val (.int p3), .val (.int p4), .val (.int gg), .val (.int ss), .val (.int mn), .val (.int cc), .val (.ref b10), .val (.double (own_rec gg ss cc)), .second, .val (.double (0 : UInt64)), .second, .unset, .unset, .unset, .unset, .unset] [])) _
        refine own_dload X14.here hx rfl (hb hby at_148) rfl ?_
        show Steps p.tables e below (T14.setTop (mkF m 150 #[.val (.int p1), .val (.int p2), .val (.int p3), .val (.int p4), .val (.int gg), .val (.int ss), .val (.int mn), .val (.int cc), .val (.ref b10), .val (.double (own_rec gg ss cc)), .second, .val (.double (0 : UInt64)), .second, .unset, .unset, .unset, .unset, .unset] [(.double (own_rec gg ss cc))])) _
        refine own_dconst1 X14.here hx rfl (hb hby at_150) ?_
        show Steps p.tables e below (T14.setTop (mkF m 151 #[.val (.int p1), .val (.int p2), .val (.int p3), .val (.int p4), .val (.int gg), .val (.int ss), .val (.int mn), .val (.int cc), .val (.ref b10), .val (.double (own_rec gg ss cc)), .second, .val (.double (0 : UInt64)), .second, .unset, .unset, .unset, .unset, .unset] [(.double (4607182418800017408 : UInt64)), (.double (own_rec gg ss cc))])) _
        refine own_dcmp X14.here hx rfl (hb hby at_151) rfl ?_
        show Steps p.tables e below (T14.setTop (mkF m 152 #[.val (.int p1), .val (.int p2), .val (.int p3), .val (.int p4), .val (.int gg), .val (.int ss), .val (.int mn), .val (.int cc), .val (.ref b10), .val (.double (own_rec gg ss cc)), .second, .val (.double (0 : UInt64)), .second, .unset, .unset, .unset, .unset, .unset] [(.int (cmpValue (FP.dcmp (own_rec gg ss cc) (4607182418800017408 : UInt64)) .g))])) _
        refine XS.ifNo X14.here hx rfl (hb hby at_152) rfl ((if0 _ _).trans (flt ((by rw [Own.cv_lt k1] <;> decide) : ¬ ((0 : Int32) < (cmpValue (FP.dcmp (own_rec gg ss cc) (4607182418800017408 : UInt64)) .g)))).2.2.1) ?_
        show Steps p.tables e below (T14.setTop (mkF m 155 #[.val (.int p1), .val (.int p2), .val (.int p3), .val (.int p4), .val (.int gg), .val (.int ss), .val (.int mn), .val (.int cc), .val (.ref b10), .val (.double (own_rec gg ss cc)), .second, .val (.double (0 : UInt64)), .second, .unset, .unset, .unset, .unset, .unset] [])) _
        refine XS.iconst X14.here hx rfl (hb hby at_155) ?_
        show Steps p.tables e below (T14.setTop (mkF m 156 #[.val (.int p1), .val (.int p2), .val (.int p3), .val (.int p4), .val (.int gg), .val (.int ss), .val (.int mn), .val (.int cc), .val (.ref b10), .val (.double (own_rec gg ss cc)), .second, .val (.double (0 : UInt64)), .second, .unset, .unset, .unset, .unset, .unset] [(.int (1 : Int32))])) _
        refine XS.goto X14.here hx rfl (pc0 := 156) (pc' := 160) rfl (hb hby at_156) (by decide) (by decide) ?_
        show Steps p.tables e below (T14.setTop (mkF m 160 #[.val (.int p1), .val (.int p2), .val (.int p3), .val (.int p4), .val (.int gg), .val (.int ss), .val (.int mn), .val (.int cc), .val (.ref b10), .val (.double (own_rec gg ss cc)), .second, .val (.double (0 : UInt64)), .second, .unset, .unset, .unset, .unset, .unset] [(.int (1 : Int32))])) _
        refine XS.istore X14.here hx rfl (hb hby at_160) rfl (l' := #[.val (.int p1), .val (.int p2), .val (.int p3), .val (.int p4), .val (.int gg), .val (.int ss), .val (.int mn), .val (.int cc), .val (.ref b10), .val (.double (own_rec gg ss cc)), .second, .val (.double (0 : UInt64)), .second, .val (.int (1 : Int32)), .unset, .unset, .unset, .unset]) rfl ?_
        show Steps p.tables e below (T14.setTop (mkF m 162 #[.val (.int p1), .val (.int p2), .val (.int p3), .val (.int p4), .val (.int gg), .val (.int ss), .val (.int mn), .val (.int cc), .val (.ref b10), .val (.double (own_rec gg ss cc)), .second, .val (.double (0 : UInt64)), .second, .val (.int (1 : Int32)), .unset, .unset, .unset, .unset] [])) _
        refine own_dload X14.here hx rfl (hb hby at_162) rfl ?_
        show Steps p.tables e below (T14.setTop (mkF m 164 #[.val (.int p1), .val (.int p2), .val (.int p3), .val (.int p4), .val (.int gg), .val (.int ss), .val (.int mn), .val (.int cc), .val (.ref b10), .val (.double (own_rec gg ss cc)), .second, .val (.double (0 : UInt64)), .second, .val (.int (1 : Int32)), .unset, .unset, .unset, .unset] [(.double (own_rec gg ss cc))])) _
        refine own_dconst1 X14.here hx rfl (hb hby at_164) ?_
        show Steps p.tables e below (T14.setTop (mkF m 165 #[.val (.int p1), .val (.int p2), .val (.int p3), .val (.int p4), .val (.int gg), .val (.int ss), .val (.int mn), .val (.int cc), .val (.ref b10), .val (.double (own_rec gg ss cc)), .second, .val (.double (0 : UInt64)), .second, .val (.int (1 : Int32)), .unset, .unset, .unset, .unset] [(.double (4607182418800017408 : UInt64)), (.double (own_rec gg ss cc))])) _
        refine own_dcmp X14.here hx rfl (hb hby at_165) rfl ?_
        show Steps p.tables e below (T14.setTop (mkF m 166 #[.val (.int p1), .val (.int p2), .val (.int p3), .val (.int p4), .val (.int gg), .val (.int ss), .val (.int mn), .val (.int cc), .val (.ref b10), .val (.double (own_rec gg ss cc)), .second, .val (.double (0 : UInt64)), .second, .val (.int (1 : Int32)), .unset, .unset, .unset, .unset] [(.int (cmpValue (FP.dcmp (own_rec gg ss cc) (4607182418800017408 : UInt64)) .l))])) _
        refine XS.ifYes X14.here hx rfl (pc0 := 166) (pc' := 173) rfl (hb hby at_166) rfl ((if0 _ _).trans (feq ((by rw [Own.cv_lt k1] <;> decide) : ¬ ((cmpValue (FP.dcmp (own_rec gg ss cc) (4607182418800017408 : UInt64)) .l) = (0 : Int32)))).2) (by decide) (by decide) ?_
        show Steps p.tables e below (T14.setTop (mkF m 173 #[.val (.int p1), .val (.int p2), .val (.int p3), .val (.int p4), .val (.int gg), .val (.int ss), .val (.int mn), .val (.int cc), .val (.ref b10), .val (.double (own_rec gg ss cc)), .second, .val (.double (0 : UInt64)), .second, .val (.int (1 : Int32)), .unset, .unset, .unset, .unset] [])) _
        refine XS.iconst X14.here hx rfl (hb hby at_173) ?_
        show Steps p.tables e below (T14.setTop (mkF m 174 #[.val (.int p1), .val (.int p2), .val (.int p3), .val (.int p4), .val (.int gg), .val (.int ss), .val (.int mn), .val (.int cc), .val (.ref b10), .val (.double (own_rec gg ss cc)), .second, .val (.double (0 : UInt64)), .second, .val (.int (1 : Int32)), .unset, .unset, .unset, .unset] [(.int (0 : Int32))])) _
        refine XS.iload X14.here hx rfl (hb hby at_174) rfl ?_
        show Steps p.tables e below (T14.setTop (mkF m 176 #[.val (.int p1), .val (.int p2), .val (.int p3), .val (.int p4), .val (.int gg), .val (.int ss), .val (.int mn), .val (.int cc), .val (.ref b10), .val (.double (own_rec gg ss cc)), .second, .val (.double (0 : UInt64)), .second, .val (.int (1 : Int32)), .unset, .unset, .unset, .unset] [(.int gg), (.int (0 : Int32))])) _
        refine XS.ifNo X14.here hx rfl (hb hby at_176) rfl ((if0 _ _).trans (teq (hg : gg = (0 : Int32))).2) ?_
        show Steps p.tables e below (T14.setTop (mkF m 179 #[.val (.int p1), .val (.int p2), .val (.int p3), .val (.int p4), .val (.int gg), .val (.int ss), .val (.int mn), .val (.int cc), .val (.ref b10), .val (.double (own_rec gg ss cc)), .second, .val (.double (0 : UInt64)), .second, .val (.int (1 : Int32)), .unset, .unset, .unset, .unset] [(.int (0 : Int32))])) _
        refine XS.iload X14.here hx rfl (hb hby at_179) rfl ?_
        show Steps p.tables e below (T14.setTop (mkF m 181 #[.val (.int p1), .val (.int p2), .val (.int p3), .val (.int p4), .val (.int gg), .val (.int ss), .val (.int mn), .val (.int cc), .val (.ref b10), .val (.double (own_rec gg ss cc)), .second, .val (.double (0 : UInt64)), .second, .val (.int (1 : Int32)), .unset, .unset, .unset, .unset] [(.int ss), (.int (0 : Int32))])) _
        refine XS.ifNo X14.here hx rfl (hb hby at_181) rfl ((if0 _ _).trans (feq (hs : ¬ (ss = (0 : Int32)))).1) ?_
        show Steps p.tables e below (T14.setTop (mkF m 184 #[.val (.int p1), .val (.int p2), .val (.int p3), .val (.int p4), .val (.int gg), .val (.int ss), .val (.int mn), .val (.int cc), .val (.ref b10), .val (.double (own_rec gg ss cc)), .second, .val (.double (0 : UInt64)), .second, .val (.int (1 : Int32)), .unset, .unset, .unset, .unset] [(.int (0 : Int32))])) _
        refine XS.iload X14.here hx rfl (hb hby at_184) rfl ?_
        show Steps p.tables e below (T14.setTop (mkF m 186 #[.val (.int p1), .val (.int p2), .val (.int p3), .val (.int p4), .val (.int gg), .val (.int ss), .val (.int mn), .val (.int cc), .val (.ref b10), .val (.double (own_rec gg ss cc)), .second, .val (.double (0 : UInt64)), .second, .val (.int (1 : Int32)), .unset, .unset, .unset, .unset] [(.int gg), (.int (0 : Int32))])) _
        refine XS.ifYes X14.here hx rfl (pc0 := 186) (pc' := 200) rfl (hb hby at_186) rfl ((if0 _ _).trans (flt (hgp : ¬ ((0 : Int32) < gg))).2.2.2) (by decide) (by decide) ?_
        show Steps p.tables e below (T14.setTop (mkF m 200 #[.val (.int p1), .val (.int p2), .val (.int p3), .val (.int p4), .val (.int gg), .val (.int ss), .val (.int mn), .val (.int cc), .val (.ref b10), .val (.double (own_rec gg ss cc)), .second, .val (.double (0 : UInt64)), .second, .val (.int (1 : Int32)), .unset, .unset, .unset, .unset] [(.int (0 : Int32))])) _
        refine XS.iconst X14.here hx rfl (hb hby at_200) ?_
        show Steps p.tables e below (T14.setTop (mkF m 201 #[.val (.int p1), .val (.int p2), .val (.int p3), .val (.int p4), .val (.int gg), .val (.int ss), .val (.int mn), .val (.int cc), .val (.ref b10), .val (.double (own_rec gg ss cc)), .second, .val (.double (0 : UInt64)), .second, .val (.int (1 : Int32)), .unset, .unset, .unset, .unset] [(.int (0 : Int32)), (.int (0 : Int32))])) _
        refine XS.icmpNo X14.here hx rfl (hb hby at_201) rfl (teq (by decide : (0 : Int32) = (0 : Int32))).2 ?_
        show Steps p.tables e below (T14.setTop (mkF m 204 #[.val (.int p1), .val (.int p2), .val (.int p3), .val (.int p4), .val (.int gg), .val (.int ss), .val (.int mn), .val (.int cc), .val (.ref b10), .val (.double (own_rec gg ss cc)), .second, .val (.double (0 : UInt64)), .second, .val (.int (1 : Int32)), .unset, .unset, .unset, .unset] [])) _
        refine XS.iconst X14.here hx rfl (hb hby at_204) ?_
        show Steps p.tables e below (T14.setTop (mkF m 205 #[.val (.int p1), .val (.int p2), .val (.int p3), .val (.int p4), .val (.int gg), .val (.int ss), .val (.int mn), .val (.int cc), .val (.ref b10), .val (.double (own_rec gg ss cc)), .second, .val (.double (0 : UInt64)), .second, .val (.int (1 : Int32)), .unset, .unset, .unset, .unset] [(.int (1 : Int32))])) _
        refine XS.goto X14.here hx rfl (pc0 := 205) (pc' := 209) rfl (hb hby at_205) (by decide) (by decide) ?_
        show Steps p.tables e below (T14.setTop (mkF m 209 #[.val (.int p1), .val (.int p2), .val (.int p3), .val (.int p4), .val (.int gg), .val (.int ss), .val (.int mn), .val (.int cc), .val (.ref b10), .val (.double (own_rec gg ss cc)), .second, .val (.double (0 : UInt64)), .second, .val (.int (1 : Int32)), .unset, .unset, .unset, .unset] [(.int (1 : Int32))])) _
        refine XS.istore X14.here hx rfl (hb hby at_209) rfl (l' := #[.val (.int p1), .val (.int p2), .val (.int p3), .val (.int p4), .val (.int gg), .val (.int ss), .val (.int mn), .val (.int cc), .val (.ref b10), .val (.double (own_rec gg ss cc)), .second, .val (.double (0 : UInt64)), .second, .val (.int (1 : Int32)), .val (.int (1 : Int32)), .unset, .unset, .unset]) rfl ?_
        show Steps p.tables e below (T14.setTop (mkF m 211 #[.val (.int p1), .val (.int p2), .val (.int p3), .val (.int p4), .val (.int gg), .val (.int ss), .val (.int mn), .val (.int cc), .val (.ref b10), .val (.double (own_rec gg ss cc)), .second, .val (.double (0 : UInt64)), .second, .val (.int (1 : Int32)), .val (.int (1 : Int32)), .unset, .unset, .unset] [])) _
        refine own_dload X14.here hx rfl (hb hby at_211) rfl ?_
        show Steps p.tables e below (T14.setTop (mkF m 213 #[.val (.int p1), .val (.int p2), .val (.int p3), .val (.int p4), .val (.int gg), .val (.int ss), .val (.int mn), .val (.int cc), .val (.ref b10), .val (.double (own_rec gg ss cc)), .second, .val (.double (0 : UInt64)), .second, .val (.int (1 : Int32)), .val (.int (1 : Int32)), .unset, .unset, .unset] [(.double (own_rec gg ss cc))])) _
        refine own_dconst0 X14.here hx rfl (hb hby at_213) ?_
        show Steps p.tables e below (T14.setTop (mkF m 214 #[.val (.int p1), .val (.int p2), .val (.int p3), .val (.int p4), .val (.int gg), .val (.int ss), .val (.int mn), .val (.int cc), .val (.ref b10), .val (.double (own_rec gg ss cc)), .second, .val (.double (0 : UInt64)), .second, .val (.int (1 : Int32)), .val (.int (1 : Int32)), .unset, .unset, .unset] [(.double (0 : UInt64)), (.double (own_rec gg ss cc))])) _
        refine own_dcmp X14.here hx rfl (hb hby at_214) rfl ?_
        show Steps p.tables e below (T14.setTop (mkF m 215 #[.val (.int p1), .val (.int p2), .val (.int p3), .val (.int p4), .val (.int gg), .val (.int ss), .val (.int mn), .val (.int cc), .val (.ref b10), .val (.double (own_rec gg ss cc)), .second, .val (.double (0 : UInt64)), .second, .val (.int (1 : Int32)), .val (.int (1 : Int32)), .unset, .unset, .unset] [(.int (cmpValue (FP.dcmp (own_rec gg ss cc) (0 : UInt64)) .l))])) _
        refine XS.ifNo X14.here hx rfl (hb hby at_215) rfl ((if0 _ _).trans (teq ((by rw [Own.cv_eq k4] <;> decide) : (cmpValue (FP.dcmp (own_rec gg ss cc) (0 : UInt64)) .l) = (0 : Int32))).2) ?_
        show Steps p.tables e below (T14.setTop (mkF m 218 #[.val (.int p1), .val (.int p2), .val (.int p3), .val (.int p4), .val (.int gg), .val (.int ss), .val (.int mn), .val (.int cc), .val (.ref b10), .val (.double (own_rec gg ss cc)), .second, .val (.double (0 : UInt64)), .second, .val (.int (1 : Int32)), .val (.int (1 : Int32)), .unset, .unset, .unset] [])) _
        refine XS.iconst X14.here hx rfl (hb hby at_218) ?_
        show Steps p.tables e below (T14.setTop (mkF m 219 #[.val (.int p1), .val (.int p2), .val (.int p3), .val (.int p4), .val (.int gg), .val (.int ss), .val (.int mn), .val (.int cc), .val (.ref b10), .val (.double (own_rec gg ss cc)), .second, .val (.double (0 : UInt64)), .second, .val (.int (1 : Int32)), .val (.int (1 : Int32)), .unset, .unset, .unset] [(.int (1 : Int32))])) _
        refine XS.goto X14.here hx rfl (pc0 := 219) (pc' := 223) rfl (hb hby at_219) (by decide) (by decide) ?_
        show Steps p.tables e below (T14.setTop (mkF m 223 #[.val (.int p1), .val (.int p2), .val (.int p3), .val (.int p4), .val (.int gg), .val (.int ss), .val (.int mn), .val (.int cc), .val (.ref b10), .val (.double (own_rec gg ss cc)), .second, .val (.double (0 : UInt64)), .second, .val (.int (1 : Int32)), .val (.int (1 : Int32)), .unset, .unset, .unset] [(.int (1 : Int32))])) _
        refine XS.iload X14.here hx rfl (hb hby at_223) rfl ?_
        show Steps p.tables e below (T14.setTop (mkF m 225 #[.val (.int p1), .val (.int p2), .val (.int p3), .val (.int p4), .val (.int gg), .val (.int ss), .val (.int mn), .val (.int cc), .val (.ref b10), .val (.double (own_rec gg ss cc)), .second, .val (.double (0 : UInt64)), .second, .val (.int (1 : Int32)), .val (.int (1 : Int32)), .unset, .unset, .unset] [(.int gg), (.int (1 : Int32))])) _
        refine XS.ifNo X14.here hx rfl (hb hby at_225) rfl ((if0 _ _).trans (teq (hg : gg = (0 : Int32))).2) ?_
        show Steps p.tables e below (T14.setTop (mkF m 228 #[.val (.int p1), .val (.int p2), .val (.int p3), .val (.int p4), .val (.int gg), .val (.int ss), .val (.int mn), .val (.int cc), .val (.ref b10), .val (.double (own_rec gg ss cc)), .second, .val (.double (0 : UInt64)), .second, .val (.int (1 : Int32)), .val (.int (1 : Int32)), .unset, .unset, .unset] [(.int (1 : Int32))])) _
        refine XS.iload X14.here hx rfl (hb hby at_228) rfl ?_
        show Steps p.tables e below (T14.setTop (mkF m 230 #[.val (.int p1), .val (.int p2), .val (.int p3), .val (.int p4), .val (.int gg), .val (.int ss), .val (.int mn), .val (.int cc), .val (.ref b10), .val (.double (own_rec gg ss cc)), .second, .val (.double (0 : UInt64)), .second, .val (.int (1 : Int32)), .val (.int (1 : Int32)), .unset, .unset, .unset] [(.int ss), (.int (1 : Int32))])) _
        refine XS.ifYes X14.here hx rfl (pc0 := 230) (pc' := 243) rfl (hb hby at_230) rfl ((if0 _ _).trans (tlt (hsp : (0 : Int32) < ss)).2.2.1) (by decide) (by decide) ?_
        show Steps p.tables e below (T14.setTop (mkF m 243 #[.val (.int p1), .val (.int p2), .val (.int p3), .val (.int p4), .val (.int gg), .val (.int ss), .val (.int mn), .val (.int cc), .val (.ref b10), .val (.double (own_rec gg ss cc)), .second, .val (.double (0 : UInt64)), .second, .val (.int (1 : Int32)), .val (.int (1 : Int32)), .unset, .unset, .unset] [(.int (1 : Int32))])) _
        refine XS.iconst X14.here hx rfl (hb hby at_243) ?_
        show Steps p.tables e below (T14.setTop (mkF m 244 #[.val (.int p1), .val (.int p2), .val (.int p3), .val (.int p4), .val (.int gg), .val (.int ss), .val (.int mn), .val (.int cc), .val (.ref b10), .val (.double (own_rec gg ss cc)), .second, .val (.double (0 : UInt64)), .second, .val (.int (1 : Int32)), .val (.int (1 : Int32)), .unset, .unset, .unset] [(.int (1 : Int32)), (.int (1 : Int32))])) _
        refine XS.goto X14.here hx rfl (pc0 := 244) (pc' := 248) rfl (hb hby at_244) (by decide) (by decide) ?_
        show Steps p.tables e below (T14.setTop (mkF m 248 #[.val (.int p1), .val (.int p2), .val (.int p3), .val (.int p4), .val (.int gg), .val (.int ss), .val (.int mn), .val (.int cc), .val (.ref b10), .val (.double (own_rec gg ss cc)), .second, .val (.double (0 : UInt64)), .second, .val (.int (1 : Int32)), .val (.int (1 : Int32)), .unset, .unset, .unset] [(.int (1 : Int32)), (.int (1 : Int32))])) _
        refine XS.icmpNo X14.here hx rfl (hb hby at_248) rfl (teq (by decide : (1 : Int32) = (1 : Int32))).2 ?_
        show Steps p.tables e below (T14.setTop (mkF m 251 #[.val (.int p1), .val (.int p2), .val (.int p3), .val (.int p4), .val (.int gg), .val (.int ss), .val (.int mn), .val (.int cc), .val (.ref b10), .val (.double (own_rec gg ss cc)), .second, .val (.double (0 : UInt64)), .second, .val (.int (1 : Int32)), .val (.int (1 : Int32)), .unset, .unset, .unset] [])) _
        refine XS.iconst X14.here hx rfl (hb hby at_251) ?_
        show Steps p.tables e below (T14.setTop (mkF m 252 #[.val (.int p1), .val (.int p2), .val (.int p3), .val (.int p4), .val (.int gg), .val (.int ss), .val (.int mn), .val (.int cc), .val (.ref b10), .val (.double (own_rec gg ss cc)), .second, .val (.double (0 : UInt64)), .second, .val (.int (1 : Int32)), .val (.int (1 : Int32)), .unset, .unset, .unset] [(.int (1 : Int32))])) _
        refine XS.goto X14.here hx rfl (pc0 := 252) (pc' := 256) rfl (hb hby at_252) (by decide) (by decide) ?_
        show Steps p.tables e below (T14.setTop (mkF m 256 #[.val (.int p1), .val (.int p2), .val (.int p3), .val (.int p4), .val (.int gg), .val (.int ss), .val (.int mn), .val (.int cc), .val (.ref b10), .val (.double (own_rec gg ss cc)), .second, .val (.double (0 : UInt64)), .second, .val (.int (1 : Int32)), .val (.int (1 : Int32)), .unset, .unset, .unset] [(.int (1 : Int32))])) _
        refine XS.istore X14.here hx rfl (hb hby at_256) rfl (l' := #[.val (.int p1), .val (.int p2), .val (.int p3), .val (.int p4), .val (.int gg), .val (.int ss), .val (.int mn), .val (.int cc), .val (.ref b10), .val (.double (own_rec gg ss cc)), .second, .val (.double (0 : UInt64)), .second, .val (.int (1 : Int32)), .val (.int (1 : Int32)), .val (.int (1 : Int32)), .unset, .unset]) rfl ?_
        exact kt
      refine Go.adv sg23 ?_
      obtain ⟨T24, h24, X24, e24, E24, A24, D24, -, st24⟩ := newO X14 hx hZ hown (hw _ (List.mem_of_getElem? (i := 5) rfl)) (hw _ (List.mem_of_getElem? (i := 6) rfl)) (hw _ (List.mem_of_getElem? (i := 7) rfl)) e14 (g := (mkF m 258 #[.val (.int p1), .val (.int p2), .val (.int p3), .val (.int p4), .val (.int gg), .val (.int ss), .val (.int mn), .val (.int cc), .val (.ref b10), .val (.double (own_rec gg ss cc)), .second, .val (.double (0 : UInt64)), .second, .val (.int (1 : Int32)), .val (.int (1 : Int32)), .val (.int (1 : Int32)), .unset, .unset] [])) rfl (hb hby at_258) (by decide) (by decide)
      obtain ⟨b24, gb24⟩ : ∃ z, z = T12.heap.size := ⟨_, rfl⟩
      rw [← gb24] at A24 D24 st24
      have g_b24 : n0 ≤ b24 := Nat.le_trans Z12 (Nat.le_of_eq gb24.symm)
      have sz_b24 : h0.size ≤ b24 := Nat.le_trans K12.1 (Nat.le_of_eq gb24.symm)
      have ne_b10_b24 : b10 ≠ b24 := Nat.ne_of_lt (Nat.lt_of_lt_of_le p12_0.lt (Nat.le_of_eq gb24.symm))
      have K24 : Keep h0 h24 [] := K12.ext E24
      have Z24 : n0 ≤ h24.size := Nat.le_trans Z12 E24.1
      have F_gold_b24 : Fld Z h24 b24 "com/example/tally/tally/score/QuestionScore" "gold" "I" (.int (0 : Int32)) := D24 (Or.inr (hw _ (List.mem_of_getElem? (i := 20) rfl))) (ty := .int) (by decide)
      have F_system_b24 : Fld Z h24 b24 "com/example/tally/tally/score/QuestionScore" "system" "I" (.int (0 : Int32)) := D24 (Or.inr (hw _ (List.mem_of_getElem? (i := 22) rfl))) (ty := .int) (by decide)
      have F_correct_b24 : Fld Z h24 b24 "com/example/tally/tally/score/QuestionScore" "correct" "I" (.int (0 : Int32)) := D24 (Or.inr (hw _ (List.mem_of_getElem? (i := 24) rfl))) (ty := .int) (by decide)
      refine Go.adv st24 ?_
      show Go p.tables e below s _ _ _ (T24.setTop (mkF m 261 #[.val (.int p1), .val (.int p2), .val (.int p3), .val (.int p4), .val (.int gg), .val (.int ss), .val (.int mn), .val (.int cc), .val (.ref b10), .val (.double (own_rec gg ss cc)), .second, .val (.double (0 : UInt64)), .second, .val (.int (1 : Int32)), .val (.int (1 : Int32)), .val (.int (1 : Int32)), .unset, .unset] [(.ref b24)]))
      have sg25 : ∀ t, Steps p.tables e below (T24.setTop (mkF m 268 #[.val (.int p1), .val (.int p2), .val (.int p3), .val (.int p4), .val (.int gg), .val (.int ss), .val (.int mn), .val (.int cc), .val (.ref b10), .val (.double (own_rec gg ss cc)), .second, .val (.double (0 : UInt64)), .second, .val (.int (1 : Int32)), .val (.int (1 : Int32)), .val (.int (1 : Int32)), .unset, .unset] [(.int cc), (.int gg), (.int ss), (.ref b24), (.ref b24)])) t → Steps p.tables e below (T24.setTop (mkF m 261 #[.val (.int p1), .val (.int p2), .val (.int p3), .val (.int p4), .val (.int gg), .val (.int ss), .val (.int mn), .val (.int cc), .val (.ref b10), .val (.double (own_rec gg ss cc)), .second, .val (.double (0 : UInt64)), .second, .val (.int (1 : Int32)), .val (.int (1 : Int32)), .val (.int (1 : Int32)), .unset, .unset] [(.ref b24)])) t := by
        intro t kt
        show Steps p.tables e below (T24.setTop (mkF m 261 #[.val (.int p1), .val (.int p2), .val (.int p3), .val (.int p4), .val (.int gg), .val (.int ss), .val (.int mn), .val (.int cc), .val (.ref b10), .val (.double (own_rec gg ss cc)), .second, .val (.double (0 : UInt64)), .second, .val (.int (1 : Int32)), .val (.int (1 : Int32)), .val (.int (1 : Int32)), .unset, .unset] [(.ref b24)])) _
        refine XS.dup X24.here hx rfl (hb hby at_261) rfl rfl ?_
        show Steps p.tables e below (T24.setTop (mkF m 262 #[.val (.int p1), .val (.int p2), .val (.int p3), .val (.int p4), .val (.int gg), .val (.int ss), .val (.int mn), .val (.int cc), .val (.ref b10), .val (.double (own_rec gg ss cc)), .second, .val (.double (0 : UInt64)), .second, .val (.int (1 : Int32)), .val (.int (1 : Int32)), .val (.int (1 : Int32)), .unset, .unset] [(.ref b24), (.ref b24)])) _
        refine XS.iload X24.here hx rfl (hb hby at_262) rfl ?_
        show Steps p.tables e below (T24.setTop (mkF m 264 #[.val (.int p1), .val (.int p2), .val (.int p3), .val (.int p4), .val (.int gg), .val (.int ss), .val (.int mn), .val (.int cc), .val (.ref b10), .val (.double (own_rec gg ss cc)), .second, .val (.double (0 : UInt64)), .second, .val (.int (1 : Int32)), .val (.int (1 : Int32)), .val (.int (1 : Int32)), .unset, .unset] [(.int ss), (.ref b24), (.ref b24)])) _
        refine XS.iload X24.here hx rfl (hb hby at_264) rfl ?_
        show Steps p.tables e below (T24.setTop (mkF m 266 #[.val (.int p1), .val (.int p2), .val (.int p3), .val (.int p4), .val (.int gg), .val (.int ss), .val (.int mn), .val (.int cc), .val (.ref b10), .val (.double (own_rec gg ss cc)), .second, .val (.double (0 : UInt64)), .second, .val (.int (1 : Int32)), .val (.int (1 : Int32)), .val (.int (1 : Int32)), .unset, .unset] [(.int gg), (.int ss), (.ref b24), (.ref b24)])) _
        refine XS.iload X24.here hx rfl (hb hby at_266) rfl ?_
        exact kt
      refine Go.adv sg25 ?_
      obtain ⟨_, _, ⟨T26, L26, k26, n26⟩, -, X26, ⟨Lc26, hQ26, l26, y26, z26⟩, st26⟩ := X24.specialBack hx (y := (⟨"com/example/tally/tally/score/QuestionScore", "<init>", "(III)V"⟩ : MethodName)) rfl hown (mvT hZ (hw _ (List.mem_of_getElem? (i := 8) rfl))) (mvT hZ (hw _ (List.mem_of_getElem? (i := 9) rfl))) (mvT hZ (hw _ (List.mem_of_getElem? (i := 10) rfl))) (by decide) (backOf (W := 1) (rm_init l Z a0 hw [] b24 ss gg cc (.int (0 : Int32)) (.int (0 : Int32)) (.int (0 : Int32)) h24 n0 Z24 A24 g_b24 F_gold_b24 F_system_b24 F_correct_b24 (by assumption)) hZ (hw _ (List.mem_of_getElem? (i := 10) rfl)) (hw _ (List.mem_of_getElem? (i := 7) rfl)) (by decide) (by decide)) (g := (mkF m 268 #[.val (.int p1), .val (.int p2), .val (.int p3), .val (.int p4), .val (.int gg), .val (.int ss), .val (.int mn), .val (.int cc), .val (.ref b10), .val (.double (own_rec gg ss cc)), .second, .val (.double (0 : UInt64)), .second, .val (.int (1 : Int32)), .val (.int (1 : Int32)), .val (.int (1 : Int32)), .unset, .unset] [(.int cc), (.int gg), (.int ss), (.ref b24), (.ref b24)])) rfl (by rw [hml]; rfl) (Steps.refl _) (a := b24) (argsL := [(.int ss), (.int gg), (.int cc)]) (rest := [(.ref b24)]) (lenOf pd_oIIIcV rfl) rfl (by show 2 * 0 + _ ≤ _; exact Nat.le_of_eq rfl) (hb hby at_268) (fun _ _ => ⟨rfl, e24, (by decide : 2 + 0 ≤ _), (by decide : 6 + 0 ≤ _)⟩)
      dsimp only [Pt.U, Pt.locs, Pt.cells, Pt.slots] at X26 l26 y26 z26 st26 hQ26
      subst l26 y26 z26
      obtain ⟨rfl, N26q, Kc26, p26_0, p26_1, p26_2, p26_3⟩ := hQ26
      have N26 := Fr.app N14 N26q
      have K26 : Keep h0 T26.heap [] := K24.trans Kc26 (allS (Or.inr sz_b24) all0)
      have Z26 : n0 ≤ T26.heap.size := Nat.le_trans Z24 Kc26.1
      refine Go.tr st26 ?_
      show Go p.tables e below s _ _ _ (T26.setTop (mkF m 271 #[.val (.int p1), .val (.int p2), .val (.int p3), .val (.int p4), .val (.int gg), .val (.int ss), .val (.int mn), .val (.int cc), .val (.ref b10), .val (.double (own_rec gg ss cc)), .second, .val (.double (0 : UInt64)), .second, .val (.int (1 : Int32)), .val (.int (1 : Int32)), .val (.int (1 : Int32)), .unset, .unset] [(.ref b24)]))
      have sg27 : ∀ t, Steps p.tables e below (T26.setTop (mkF m 275 #[.val (.int p1), .val (.int p2), .val (.int p3), .val (.int p4), .val (.int gg), .val (.int ss), .val (.int mn), .val (.int cc), .val (.ref b10), .val (.double (own_rec gg ss cc)), .second, .val (.double (0 : UInt64)), .second, .val (.int (1 : Int32)), .val (.int (1 : Int32)), .val (.int (1 : Int32)), .val (.ref b24), .unset] [(.ref b24)])) t → Steps p.tables e below (T26.setTop (mkF m 271 #[.val (.int p1), .val (.int p2), .val (.int p3), .val (.int p4), .val (.int gg), .val (.int ss), .val (.int mn), .val (.int cc), .val (.ref b10), .val (.double (own_rec gg ss cc)), .second, .val (.double (0 : UInt64)), .second, .val (.int (1 : Int32)), .val (.int (1 : Int32)), .val (.int (1 : Int32)), .unset, .unset] [(.ref b24)])) t := by
        intro t kt
        show Steps p.tables e below (T26.setTop (mkF m 271 #[.val (.int p1), .val (.int p2), .val (.int p3), .val (.int p4), .val (.int gg), .val (.int ss), .val (.int mn), .val (.int cc), .val (.ref b10), .val (.double (own_rec gg ss cc)), .second, .val (.double (0 : UInt64)), .second, .val (.int (1 : Int32)), .val (.int (1 : Int32)), .val (.int (1 : Int32)), .unset, .unset] [(.ref b24)])) _
        refine XS.astore X26.here hx rfl (hb hby at_271) rfl rfl (l' := #[.val (.int p1), .val (.int p2), .val (.int p3), .val (.int p4), .val (.int gg), .val (.int ss), .val (.int mn), .val (.int cc), .val (.ref b10), .val (.double (own_rec gg ss cc)), .second, .val (.double (0 : UInt64)), .second, .val (.int (1 : Int32)), .val (.int (1 : Int32)), .val (.int (1 : Int32)), .val (.ref b24), .unset]) rfl ?_
        show Steps p.tables e below (T26.setTop (mkF m 273 #[.val (.int p1), .val (.int p2), .val (.int p3), .val (.int p4), .val (.int gg), .val (.int ss), .val (.int mn), .val (.int cc), .val (.ref b10), .val (.double (own_rec gg ss cc)), .second, .val (.double (0 : UInt64)), .second, .val (.int (1 : Int32)), .val (.int (1 : Int32)), .val (.int (1 : Int32)), .val (.ref b24), .unset] [])) _
        refine XS.aload X26.here hx rfl (hb hby at_273) rfl rfl ?_
        exact kt
      refine Go.adv sg27 ?_
      obtain ⟨cq28, kq28, q28a, q28b, q28c⟩ := isOf hZ rfl p26_0
      obtain ⟨_, _, ⟨T28, L28, k28, n28⟩, -, X28, ⟨Lc28, hQ28, l28, y28, z28⟩, st28⟩ := X26.virtualBack hx (y := (⟨"com/example/tally/tally/score/QuestionScore", "precision", "()D"⟩ : MethodName)) (z := (⟨"com/example/tally/tally/score/QuestionScore", "precision", "()D"⟩ : MethodName)) hown (mvT hZ (hw _ (List.mem_of_getElem? (i := 30) rfl))) (mvT hZ (hw _ (List.mem_of_getElem? (i := 31) rfl))) (notFace_of_selects (args := #[]) (mvT hZ (hw _ (List.mem_of_getElem? (i := 33) rfl)))) (mvT hZ (hw _ (List.mem_of_getElem? (i := 33) rfl))) (mvT hZ (hw _ (List.mem_of_getElem? (i := 32) rfl))) (by decide) (backOf (W := 0) (rm_precision l Z a0 hw [] b24 ss gg cc T26.heap n0 Z26 p26_1 p26_2 p26_3) hZ (hw _ (List.mem_of_getElem? (i := 34) rfl)) (hw _ (List.mem_of_getElem? (i := 7) rfl)) (by decide) (by decide)) q28a q28c (g := (mkF m 275 #[.val (.int p1), .val (.int p2), .val (.int p3), .val (.int p4), .val (.int gg), .val (.int ss), .val (.int mn), .val (.int cc), .val (.ref b10), .val (.double (own_rec gg ss cc)), .second, .val (.double (0 : UInt64)), .second, .val (.int (1 : Int32)), .val (.int (1 : Int32)), .val (.int (1 : Int32)), .val (.ref b24), .unset] [(.ref b24)])) rfl (by rw [hml]; rfl) (Steps.refl _) (argsL := []) (rest := []) (lenOf pd_ocD rfl) rfl (by show 2 * 0 + _ ≤ _; exact Nat.le_of_eq rfl) (hb hby at_275) (fun _ _ => ⟨rfl, rfl, (by decide : 2 + 0 ≤ _), (by decide : 6 + 0 ≤ _)⟩)
      dsimp only [Pt.U, Pt.locs, Pt.cells, Pt.slots] at X28 l28 y28 z28 st28 hQ28
      subst l28 y28 z28
      obtain ⟨rfl, N28q, e28⟩ := hQ28
      have N28 := Fr.app N26 N28q
      refine Go.tr st28 ?_
      show Go p.tables e below s _ _ _ (T28.setTop (mkF m 278 #[.val (.int p1), .val (.int p2), .val (.int p3), .val (.int p4), .val (.int gg), .val (.int ss), .val (.int mn), .val (.int cc), .val (.ref b10), .val (.double (own_rec gg ss cc)), .second, .val (.double (0 : UInt64)), .second, .val (.int (1 : Int32)), .val (.int (1 : Int32)), .val (.int (1 : Int32)), .val (.ref b24), .unset] [(.double (own_prec ss gg cc))]))
      have sg29 : ∀ t, Steps p.tables e below (T28.setTop (mkF m 324 #[.val (.int p1), .val (.int p2), .val (.int p3), .val (.int p4), .val (.int gg), .val (.int ss), .val (.int mn), .val (.int cc), .val (.ref b10), .val (.double (own_rec gg ss cc)), .second, .val (.double (0 : UInt64)), .second, .val (.int (1 : Int32)), .val (.int (1 : Int32)), .val (.int (1 : Int32)), .val (.ref b24), .val (.int (1 : Int32))] [(.int (1 : Int32))])) t → Steps p.tables e below (T28.setTop (mkF m 278 #[.val (.int p1), .val (.int p2), .val (.int p3), .val (.int p4), .val (.int gg), .val (.int ss), .val (.int mn), .val (.int cc), .val (.ref b10), .val (.double (own_rec gg ss cc)), .second, .val (.double (0 : UInt64)), .second, .val (.int (1 : Int32)), .val (.int (1 : Int32)), .val (.int (1 : Int32)), .val (.ref b24), .unset] [(.double (own_prec ss gg cc))])) t := by
        intro t kt
        show Steps p.tables e below (T28.setTop (mkF m 278 #[.val (.int p1), .val (.int p2), .val (.int p3), .val (.int p4), .val (.int gg), .val (.int ss), .val (.int mn), .val (.int cc), .val (.ref b10), .val (.double (own_rec gg ss cc)), .second, .val (.double (0 : UInt64)), .second, .val (.int (1 : Int32)), .val (.int (1 : Int32)), .val (.int (1 : Int32)), .val (.ref b24), .unset] [(.double (own_prec ss gg cc))])) _
        refine own_dload X28.here hx rfl (hb hby at_278) rfl ?_
        show Steps p.tables e below (T28.setTop (mkF m 280 #[.val (.int p1), .val (.int p2), .val (.int p3), .val (.int p4), .val (.int gg), .val (.int ss), .val (.int mn), .val (.int cc), .val (.ref b10), .val (.double (own_rec gg ss cc)), .second, .val (.double (0 : UInt64)), .second, .val (.int (1 : Int32)), .val (.int (1 : Int32)), .val (.int (1 : Int32)), .val (.ref b24), .unset] [(.double (own_rec gg ss cc)), (.double (own_prec ss gg cc))])) _
        refine own_dcmp X28.here hx rfl (hb hby at_280) rfl ?_
        show Steps p.tables e below (T28.setTop (mkF m 281 #[.val (.int p1), .val (.int p2), .val (.int p3), .val (.int p4), .val (.int gg), .val (.int ss), .val (.int mn), .val (.int cc), .val (.ref b10), .val (.double (own_rec gg ss cc)), .second, .val (.double (0 : UInt64)), .second, .val (.int (1 : Int32)), .val (.int (1 : Int32)), .val (.int (1 : Int32)), .val (.ref b24), .unset] [(.int (cmpValue (FP.dcmp (own_prec ss gg cc) (own_rec gg ss cc)) .l))])) _
        refine XS.ifNo X28.here hx rfl (hb hby at_281) rfl ((if0 _ _).trans (teq ((by rw [Own.cv_eq k2] <;> decide) : (cmpValue (FP.dcmp (own_prec ss gg cc) (own_rec gg ss cc)) .l) = (0 : Int32))).2) ?_
        show Steps p.tables e below (T28.setTop (mkF m 284 #[.val (.int p1), .val (.int p2), .val (.int p3), .val (.int p4), .val (.int gg), .val (.int ss), .val (.int mn), .val (.int cc), .val (.ref b10), .val (.double (own_rec gg ss cc)), .second, .val (.double (0 : UInt64)), .second, .val (.int (1 : Int32)), .val (.int (1 : Int32)), .val (.int (1 : Int32)), .val (.ref b24), .unset] [])) _
        refine XS.iconst X28.here hx rfl (hb hby at_284) ?_
        show Steps p.tables e below (T28.setTop (mkF m 285 #[.val (.int p1), .val (.int p2), .val (.int p3), .val (.int p4), .val (.int gg), .val (.int ss), .val (.int mn), .val (.int cc), .val (.ref b10), .val (.double (own_rec gg ss cc)), .second, .val (.double (0 : UInt64)), .second, .val (.int (1 : Int32)), .val (.int (1 : Int32)), .val (.int (1 : Int32)), .val (.ref b24), .unset] [(.int (1 : Int32))])) _
        refine XS.goto X28.here hx rfl (pc0 := 285) (pc' := 289) rfl (hb hby at_285) (by decide) (by decide) ?_
        show Steps p.tables e below (T28.setTop (mkF m 289 #[.val (.int p1), .val (.int p2), .val (.int p3), .val (.int p4), .val (.int gg), .val (.int ss), .val (.int mn), .val (.int cc), .val (.ref b10), .val (.double (own_rec gg ss cc)), .second, .val (.double (0 : UInt64)), .second, .val (.int (1 : Int32)), .val (.int (1 : Int32)), .val (.int (1 : Int32)), .val (.ref b24), .unset] [(.int (1 : Int32))])) _
        refine XS.istore X28.here hx rfl (hb hby at_289) rfl (l' := #[.val (.int p1), .val (.int p2), .val (.int p3), .val (.int p4), .val (.int gg), .val (.int ss), .val (.int mn), .val (.int cc), .val (.ref b10), .val (.double (own_rec gg ss cc)), .second, .val (.double (0 : UInt64)), .second, .val (.int (1 : Int32)), .val (.int (1 : Int32)), .val (.int (1 : Int32)), .val (.ref b24), .val (.int (1 : Int32))]) rfl ?_
        show Steps p.tables e below (T28.setTop (mkF m 291 #[.val (.int p1), .val (.int p2), .val (.int p3), .val (.int p4), .val (.int gg), .val (.int ss), .val (.int mn), .val (.int cc), .val (.ref b10), .val (.double (own_rec gg ss cc)), .second, .val (.double (0 : UInt64)), .second, .val (.int (1 : Int32)), .val (.int (1 : Int32)), .val (.int (1 : Int32)), .val (.ref b24), .val (.int (1 : Int32))] [])) _
        refine own_dload X28.here hx rfl (hb hby at_291) rfl ?_
        show Steps p.tables e below (T28.setTop (mkF m 293 #[.val (.int p1), .val (.int p2), .val (.int p3), .val (.int p4), .val (.int gg), .val (.int ss), .val (.int mn), .val (.int cc), .val (.ref b10), .val (.double (own_rec gg ss cc)), .second, .val (.double (0 : UInt64)), .second, .val (.int (1 : Int32)), .val (.int (1 : Int32)), .val (.int (1 : Int32)), .val (.ref b24), .val (.int (1 : Int32))] [(.double (own_rec gg ss cc))])) _
        refine own_dload X28.here hx rfl (hb hby at_293) rfl ?_
        show Steps p.tables e below (T28.setTop (mkF m 295 #[.val (.int p1), .val (.int p2), .val (.int p3), .val (.int p4), .val (.int gg), .val (.int ss), .val (.int mn), .val (.int cc), .val (.ref b10), .val (.double (own_rec gg ss cc)), .second, .val (.double (0 : UInt64)), .second, .val (.int (1 : Int32)), .val (.int (1 : Int32)), .val (.int (1 : Int32)), .val (.ref b24), .val (.int (1 : Int32))] [(.double (0 : UInt64)), (.double (own_rec gg ss cc))])) _
        refine own_dcmp X28.here hx rfl (hb hby at_295) rfl ?_
        show Steps p.tables e below (T28.setTop (mkF m 296 #[.val (.int p1), .val (.int p2), .val (.int p3), .val (.int p4), .val (.int gg), .val (.int ss), .val (.int mn), .val (.int cc), .val (.ref b10), .val (.double (own_rec gg ss cc)), .second, .val (.double (0 : UInt64)), .second, .val (.int (1 : Int32)), .val (.int (1 : Int32)), .val (.int (1 : Int32)), .val (.ref b24), .val (.int (1 : Int32))] [(.int (cmpValue (FP.dcmp (own_rec gg ss cc) (0 : UInt64)) .l))])) _
        refine XS.ifNo X28.here hx rfl (hb hby at_296) rfl ((if0 _ _).trans (teq ((by rw [Own.cv_eq k4] <;> decide) : (cmpValue (FP.dcmp (own_rec gg ss cc) (0 : UInt64)) .l) = (0 : Int32))).2) ?_
        show Steps p.tables e below (T28.setTop (mkF m 299 #[.val (.int p1), .val (.int p2), .val (.int p3), .val (.int p4), .val (.int gg), .val (.int ss), .val (.int mn), .val (.int cc), .val (.ref b10), .val (.double (own_rec gg ss cc)), .second, .val (.double (0 : UInt64)), .second, .val (.int (1 : Int32)), .val (.int (1 : Int32)), .val (.int (1 : Int32)), .val (.ref b24), .val (.int (1 : Int32))] [])) _
        refine XS.iload X28.here hx rfl (hb hby at_299) rfl ?_
        show Steps p.tables e below (T28.setTop (mkF m 301 #[.val (.int p1), .val (.int p2), .val (.int p3), .val (.int p4), .val (.int gg), .val (.int ss), .val (.int mn), .val (.int cc), .val (.ref b10), .val (.double (own_rec gg ss cc)), .second, .val (.double (0 : UInt64)), .second, .val (.int (1 : Int32)), .val (.int (1 : Int32)), .val (.int (1 : Int32)), .val (.ref b24), .val (.int (1 : Int32))] [(.int (1 : Int32))])) _
        refine XS.ifNo X28.here hx rfl (hb hby at_301) rfl ((if0 _ _).trans (feq (by decide : ¬ ((1 : Int32) = (0 : Int32)))).1) ?_
        show Steps p.tables e below (T28.setTop (mkF m 304 #[.val (.int p1), .val (.int p2), .val (.int p3), .val (.int p4), .val (.int gg), .val (.int ss), .val (.int mn), .val (.int cc), .val (.ref b10), .val (.double (own_rec gg ss cc)), .second, .val (.double (0 : UInt64)), .second, .val (.int (1 : Int32)), .val (.int (1 : Int32)), .val (.int (1 : Int32)), .val (.ref b24), .val (.int (1 : Int32))] [])) _
        refine XS.iload X28.here hx rfl (hb hby at_304) rfl ?_
        show Steps p.tables e below (T28.setTop (mkF m 306 #[.val (.int p1), .val (.int p2), .val (.int p3), .val (.int p4), .val (.int gg), .val (.int ss), .val (.int mn), .val (.int cc), .val (.ref b10), .val (.double (own_rec gg ss cc)), .second, .val (.double (0 : UInt64)), .second, .val (.int (1 : Int32)), .val (.int (1 : Int32)), .val (.int (1 : Int32)), .val (.ref b24), .val (.int (1 : Int32))] [(.int (1 : Int32))])) _
        refine XS.ifNo X28.here hx rfl (hb hby at_306) rfl ((if0 _ _).trans (feq (by decide : ¬ ((1 : Int32) = (0 : Int32)))).1) ?_
        show Steps p.tables e below (T28.setTop (mkF m 309 #[.val (.int p1), .val (.int p2), .val (.int p3), .val (.int p4), .val (.int gg), .val (.int ss), .val (.int mn), .val (.int cc), .val (.ref b10), .val (.double (own_rec gg ss cc)), .second, .val (.double (0 : UInt64)), .second, .val (.int (1 : Int32)), .val (.int (1 : Int32)), .val (.int (1 : Int32)), .val (.ref b24), .val (.int (1 : Int32))] [])) _
        refine XS.iload X28.here hx rfl (hb hby at_309) rfl ?_
        show Steps p.tables e below (T28.setTop (mkF m 311 #[.val (.int p1), .val (.int p2), .val (.int p3), .val (.int p4), .val (.int gg), .val (.int ss), .val (.int mn), .val (.int cc), .val (.ref b10), .val (.double (own_rec gg ss cc)), .second, .val (.double (0 : UInt64)), .second, .val (.int (1 : Int32)), .val (.int (1 : Int32)), .val (.int (1 : Int32)), .val (.ref b24), .val (.int (1 : Int32))] [(.int (1 : Int32))])) _
        refine XS.ifNo X28.here hx rfl (hb hby at_311) rfl ((if0 _ _).trans (feq (by decide : ¬ ((1 : Int32) = (0 : Int32)))).1) ?_
        show Steps p.tables e below (T28.setTop (mkF m 314 #[.val (.int p1), .val (.int p2), .val (.int p3), .val (.int p4), .val (.int gg), .val (.int ss), .val (.int mn), .val (.int cc), .val (.ref b10), .val (.double (own_rec gg ss cc)), .second, .val (.double (0 : UInt64)), .second, .val (.int (1 : Int32)), .val (.int (1 : Int32)), .val (.int (1 : Int32)), .val (.ref b24), .val (.int (1 : Int32))] [])) _
        refine XS.iload X28.here hx rfl (hb hby at_314) rfl ?_
        show Steps p.tables e below (T28.setTop (mkF m 316 #[.val (.int p1), .val (.int p2), .val (.int p3), .val (.int p4), .val (.int gg), .val (.int ss), .val (.int mn), .val (.int cc), .val (.ref b10), .val (.double (own_rec gg ss cc)), .second, .val (.double (0 : UInt64)), .second, .val (.int (1 : Int32)), .val (.int (1 : Int32)), .val (.int (1 : Int32)), .val (.ref b24), .val (.int (1 : Int32))] [(.int (1 : Int32))])) _
        refine XS.ifNo X28.here hx rfl (hb hby at_316) rfl ((if0 _ _).trans (feq (by decide : ¬ ((1 : Int32) = (0 : Int32)))).1) ?_
        show Steps p.tables e below (T28.setTop (mkF m 319 #[.val (.int p1), .val (.int p2), .val (.int p3), .val (.int p4), .val (.int gg), .val (.int ss), .val (.int mn), .val (.int cc), .val (.ref b10), .val (.double (own_rec gg ss cc)), .second, .val (.double (0 : UInt64)), .second, .val (.int (1 : Int32)), .val (.int (1 : Int32)), .val (.int (1 : Int32)), .val (.ref b24), .val (.int (1 : Int32))] [])) _
        refine XS.iconst X28.here hx rfl (hb hby at_319) ?_
        show Steps p.tables e below (T28.setTop (mkF m 320 #[.val (.int p1), .val (.int p2), .val (.int p3), .val (.int p4), .val (.int gg), .val (.int ss), .val (.int mn), .val (.int cc), .val (.ref b10), .val (.double (own_rec gg ss cc)), .second, .val (.double (0 : UInt64)), .second, .val (.int (1 : Int32)), .val (.int (1 : Int32)), .val (.int (1 : Int32)), .val (.ref b24), .val (.int (1 : Int32))] [(.int (1 : Int32))])) _
        refine XS.goto X28.here hx rfl (pc0 := 320) (pc' := 324) rfl (hb hby at_320) (by decide) (by decide) ?_
        exact kt
      refine Go.adv sg29 ?_
      refine Go.ret (v := (some (.int (1 : Int32)))) X28 (fun h => by rw [Bd.returns] at h; cases h) Bd.notSynchronized (fun fs hr => retN X28 hx (t := .boolean) Bd.returns (by simp) (hb hby at_324) hr) ?_ (by decide) (by decide)
      show Q_rm0 Z p1 p2 p3 p4 h0 n0 (some (.int (1 : Int32))) T28.heap _
      rw [e28]
      exact ⟨rfl, N28⟩
  · have hgp := own_pos hg0 hg
    obtain ⟨k1, k2, k3, k4, k5, k6⟩ := own_rec_D hC hg
    by_cases hs : ss = 0
    · have hc0 : cc = 0 := own_z32.mpr (by have := own_z32.mp hs; obtain ⟨c1, c2, c3⟩ := hC; omega)
      have hcg : ¬ (cc = gg) := fun q => hg (q.symm.trans hc0)
      rw [if_neg hcg] at k1
      rw [if_pos hc0] at k3 k4
      have sg30 : ∀ t, Steps p.tables e below (T14.setTop (mkF m 258 #[.val (.int p1), .val (.int p2), .val (.int p3), .val (.int p4), .val (.int gg), .val (.int ss), .val (.int mn), .val (.int cc), .val (.ref b10), .val (.double (own_rec gg ss cc)), .second, .val (.double (0 : UInt64)), .second, .val (.int (1 : Int32)), .val (.int (1 : Int32)), .val (.int (1 : Int32)), .unset, .unset] [])) t → Steps p.tables e below (T14.setTop (mkF m 94 #[.val (.int p1), .val (.int p2), .val (.int p3), .val (.int p4), .val (.int gg), .val (.int ss), .val (.int mn), .val (.int cc), .val (.ref b10), .val (.double (own_rec gg ss cc)), .second, .unset, .unset, .unset, .unset, .unset, .unset, .unset] [])) t := by
        intro t kt
        show Steps p.tables e below (T14.setTop (mkF m 94 #[.val (.int p1), .val (.int p2), .val (.int p3), .val (.int p4), .val (.int gg), .val (.int ss), .val (.int mn), .val (.int cc), .val (.ref b10), .val (.double (own_rec gg ss cc)), .second, .unset, .unset, .unset, .unset, .unset, .unset, .unset] [])) _
        refine XS.iload X14.here hx rfl (hb hby at_94) rfl ?_
        show Steps p.tables e below (T14.setTop (mkF m 96 #[.val (.int p1), .val (.int p2), .val (.int p3), .val (.int p4), .val (.int gg), .val (.int ss), .val (.int mn), .val (.int cc), .val (.ref b10), .val (.double (own_rec gg ss cc)), .second, .unset, .unset, .unset, .unset, .unset, .unset, .unset] [(.int gg)])) _
        refine XS.ifYes X14.here hx rfl (pc0 := 96) (pc' := 110) rfl (hb hby at_96) rfl ((if0 _ _).trans (feq (hg : ¬ (gg = (0 : Int32)))).2) (by decide) (by decide) ?_
        show Steps p.tables e below (T14.setTop (mkF m 110 #[.val (.int p1), .val (.int p2), .val (.int p3), .val (.int p4), .val (.int gg), .val (.int ss), .val (.int mn), .val (.int cc), .val (.ref b10), .val (.double (own_rec gg ss cc)), .second, .unset, .unset, .unset, .unset, .unset, .unset, .unset] [])) _
        refine XS.iload X14.here hx rfl (hb hby at_110) rfl ?_
        show Steps p.tables e below (T14.setTop (mkF m 112 #[.val (.int p1), .val (.int p2), .val (.int p3), .val (.int p4), .val (.int gg), .val (.int ss), .val (.int mn), .val (.int cc), .val (.ref b10), .val (.double (own_rec gg ss cc)), .second, .unset, .unset, .unset, .unset, .unset, .unset, .unset] [(.int gg)])) _
        refine XS.ifYes X14.here hx rfl (pc0 := 112) (pc' := 121) rfl (hb hby at_112) rfl ((if0 _ _).trans (feq (hg : ¬ (gg = (0 : Int32)))).2) (by decide) (by decide) ?_
        show Steps p.tables e below (T14.setTop (mkF m 121 #[.val (.int p1), .val (.int p2), .val (.int p3), .val (.int p4), .val (.int gg), .val (.int ss), .val (.int mn), .val (.int cc), .val (.ref b10), .val (.double (own_rec gg ss cc)), .second, .unset, .unset, .unset, .unset, .unset, .unset, .unset] [])) _
        refine XS.iload X14.here hx rfl (hb hby at_121) rfl ?_
        show Steps p.tables e below (T14.setTop (mkF m 123 #[.val (.int p1), .val (.int p2), .val (.int p3), .val (.int p4), .val (.int gg), .val (.int ss), .val (.int mn), .val (.int cc), .val (.ref b10), .val (.double (own_rec gg ss cc)), .second, .unset, .unset, .unset, .unset, .unset, .unset, .unset] [(.int ss)])) _
        refine XS.ifNo X14.here hx rfl (hb hby at_123) rfl ((if0 _ _).trans (teq (hs : ss = (0 : Int32))).2) ?_
        show Steps p.tables e below (T14.setTop (mkF m 126 #[.val (.int p1), .val (.int p2), .val (.int p3), .val (.int p4), .val (.int gg), .val (.int ss), .val (.int mn), .val (.int cc), .val (.ref b10), .val (.double (own_rec gg ss cc)), .second, .unset, .unset, .unset, .unset, .unset, .unset, .unset] [])) _
        refine own_dconst0 X14.here hx rfl (hb hby at_126) ?_
        show Steps p.tables e below (T14.setTop (mkF m 127 #[.val (.int p1), .val (.int p2), .val (.int p3), .val (.int p4), .val (.int gg), .val (.int ss), .val (.int mn), .val (.int cc), .val (.ref b10), .val (.double (own_rec gg ss cc)), .second, .unset, .unset, .unset, .unset, .unset, .unset, .unset] [(.double (0 : UInt64))])) _
        refine own_dstore X14.here hx rfl (hb hby at_127) rfl (l' := #[.val (.int p1), .val (.int p2), .val (.int p3), .val (.int p4), .val (.int gg), .val (.int ss), .val (.int mn), .val (.int cc), .val (.ref b10), .val (.double (own_rec gg ss cc)), .second, .val (.double (0 : UInt64)), .second, .unset, .unset, .unset, .unset, .unset]) rfl ?_
        show Steps p.tables e below (T14.setTop (mkF m 129 #[.val (.int p1), .val (.int p2), .val (.int p3), .val (.int p4), .val (.int gg), .val (.int ss), .val (.int mn), .val (.int cc), .val (.ref b10), .val (.double (own_rec gg ss cc)), .second, .val (.double (0 : UInt64)), .second, .unset, .unset, .unset, .unset, .unset] [])) _
        refine XS.goto X14.here hx rfl (pc0 := 129) (pc' := 141) rfl (hb hby at_129) (by decide) (by decide) ?_
        show Steps p.tables e below (T14.setTop (mkF m 141 #[.val (.int p1), .val (.int p2), .val (.int p3), .val (.int p4), .val (.int gg), .val (.int ss), .val (.int mn), .val (.int cc), .val (.ref b10), .val (.double (own_rec gg ss cc)), .second, .val (.double (0 : UInt64)), .second, .unset, .unset, .unset, .unset, .unset] [])) _
        refine own_dconst0 X14.here hx rfl (hb hby at_141) ?_
        show Steps p.tables e below (T14.setTop (mkF m 142 #[.val (.int p1), .val (.int p2), .val (.int p3), .val (.int p4), .val (.int gg), .val (.int ss), .val (.int mn), .val (.int cc), .val (.ref b10), .val (.double (own_rec gg ss cc)), .second, .val (.double (0 : UInt64)), .second, .unset, .unset, .unset, .unset, .unset] [(.double (0 : UInt64))])) _
        refine own_dload X14.here hx rfl (hb hby at_142) rfl ?_
        show Steps p.tables e below (T14.setTop (mkF m 144 #[.val (.int p1), .val (.int p2), .val (.int p3), .val (.int p4), .val (.int gg), .val (.int ss), .val (.int mn), .val (.int cc), .val (.ref b10), .val (.double (own_rec gg ss cc)), .second, .val (.double (0 : UInt64)), .second, .unset, .unset, .unset, .unset, .unset] [(.double (own_rec gg ss cc)), (.double (0 : UInt64))])) _
        refine own_dcmp X14.here hx rfl (hb hby at_144) rfl ?_
        show Steps p.tables e below (T14.setTop (mkF m 145 #[.val (.int p1), .val (.int p2), .val (.int p3), .val (.int p4), .val (.int gg), .val (.int ss), .val (.int mn), .val (.int cc), .val (.ref b10), .val (.double (own_rec gg ss cc)), .second, .val (.double (0 : UInt64)), .second, .unset, .unset, .unset, .unset, .unset] [(.int (cmpValue (FP.dcmp (0 : UInt64) (own_rec gg ss cc)) .g))])) _
        refine XS.ifNo X14.here hx rfl (hb hby at_145) rfl ((if0 _ _).trans (flt ((by rw [Own.cv_eq k3] <;> decide) : ¬ ((0 : Int32) < (cmpValue (FP.dcmp (0 : UInt64) (own_rec gg ss cc)) .g)))).2.2.1) ?_
        show Steps p.tables e below (T14.setTop (mkF m 148 #[.val (.int p1), .val (.int p2), .val (.int p3), .val (.int p4), .val (.int gg), .val (.int ss), .val (.int mn), .val (.int cc), .val (.ref b10), .val (.double (own_rec gg ss cc)), .second, .val (.double (0 : UInt64)), .second, .unset, .unset, .unset, .unset, .unset] [])) _
        refine own_dload X14.here hx rfl (hb hby at_148) rfl ?_
        show Steps p.tables e below (T14.setTop (mkF m 150 #[.val (.int p1), .val (.int p2), .val (.int p3), .val (.int p4), .val (.int gg), .val (.int ss), .val (.int mn), .val (.int cc), .val (.ref b10), .val (.double (own_rec gg ss cc)), .second, .val (.double (0 : UInt64)), .second, .unset, .unset, .unset, .unset, .unset] [(.double (own_rec gg ss cc))])) _
        refine own_dconst1 X14.here hx rfl (hb hby at_150) ?_
        show Steps p.tables e below (T14.setTop (mkF m 151 #[.val (.int p1), .val (.int p2), .val (.int p3), .val (.int p4), .val (.int gg), .val (.int ss), .val (.int mn), .val (.int cc), .val (.ref b10), .val (.double (own_rec gg ss cc)), .second, .val (.double (0 : UInt64)), .second, .unset, .unset, .unset, .unset, .unset] [(.double (4607182418800017408 : UInt64)), (.double (own_rec gg ss cc))])) _
        refine own_dcmp X14.here hx rfl (hb hby at_151) rfl ?_
        show Steps p.tables e below (T14.setTop (mkF m 152 #[.val (.int p1), .val (.int p2), .val (.int p3), .val (.int p4), .val (.int gg), .val (.int ss), .val (.int mn), .val (.int cc), .val (.ref b10), .val (.double (own_rec gg ss cc)), .second, .val (.double (0 : UInt64)), .second, .unset, .unset, .unset, .unset, .unset] [(.int (cmpValue (FP.dcmp (own_rec gg ss cc) (4607182418800017408 : UInt64)) .g))])) _
        refine XS.ifNo X14.here hx rfl (hb hby at_152) rfl ((if0 _ _).trans (flt ((by rw [Own.cv_lt k1] <;> decide) : ¬ ((0 : Int32) < (cmpValue (FP.dcmp (own_rec gg ss cc) (4607182418800017408 : UInt64)) .g)))).2.2.1) ?_
        show Steps p.tables e below (T14.setTop (mkF m 155 #[.val (.int p1), .val (.int p2), .val (.int p3), .val (.int p4), .val (.int gg), .val (.int ss), .val (.int mn), .val (.int cc), .val (.ref b10), .val (.double (own_rec gg ss cc)), .second, .val (.double (0 : UInt64)), .second, .unset, .unset, .unset, .unset, .unset] [])) _
        refine XS.iconst X14.here hx rfl (hb hby at_155) ?_
        show Steps p.tables e below (T14.setTop (mkF m 156 #[.val (.int p1), .val (.int p2), .val (.int p3), .val (.int p4), .val (.int gg), .val (.int ss), .val (.int mn), .val (.int cc), .val (.ref b10), .val (.double (own_rec gg ss cc)), .second, .val (.double (0 : UInt64)), .second, .unset, .unset, .unset, .unset, .unset] [(.int (1 : Int32))])) _
        refine XS.goto X14.here hx rfl (pc0 := 156) (pc' := 160) rfl (hb hby at_156) (by decide) (by decide) ?_
        show Steps p.tables e below (T14.setTop (mkF m 160 #[.val (.int p1), .val (.int p2), .val (.int p3), .val (.int p4), .val (.int gg), .val (.int ss), .val (.int mn), .val (.int cc), .val (.ref b10), .val (.double (own_rec gg ss cc)), .second, .val (.double (0 : UInt64)), .second, .unset, .unset, .unset, .unset, .unset] [(.int (1 : Int32))])) _
        refine XS.istore X14.here hx rfl (hb hby at_160) rfl (l' := #[.val (.int p1), .val (.int p2), .val (.int p3), .val (.int p4), .val (.int gg), .val (.int ss), .val (.int mn), .val (.int cc), .val (.ref b10), .val (.double (own_rec gg ss cc)), .second, .val (.double (0 : UInt64)), .second, .val (.int (1 : Int32)), .unset, .unset, .unset, .unset]) rfl ?_
        show Steps p.tables e below (T14.setTop (mkF m 162 #[.val (.int p1), .val (.int p2), .val (.int p3), .val (.int p4), .val (.int gg), .val (.int ss), .val (.int mn), .val (.int cc), .val (.ref b10), .val (.double (own_rec gg ss cc)), .second, .val (.double (0 : UInt64)), .second, .val (.int (1 : Int32)), .unset, .unset, .unset, .unset] [])) _
        refine own_dload X14.here hx rfl (hb hby at_162) rfl ?_
        show Steps p.tables e below (T14.setTop (mkF m 164 #[.val (.int p1), .val (.int p2), .val (.int p3), .val (.int p4), .val (.int gg), .val (.int ss), .val (.int mn), .val (.int cc), .val (.ref b10), .val (.double (own_rec gg ss cc)), .second, .val (.double (0 : UInt64)), .second, .val (.int (1 : Int32)), .unset, .unset, .unset, .unset] [(.double (own_rec gg ss cc))])) _
        refine own_dconst1 X14.here hx rfl (hb hby at_164) ?_
        show Steps p.tables e below (T14.setTop (mkF m 165 #[.val (.int p1), .val (.int p2), .val (.int p3), .val (.int p4), .val (.int gg), .val (.int ss), .val (.int mn), .val (.int cc), .val (.ref b10), .val (.double (own_rec gg ss cc)), .second, .val (.double (0 : UInt64)), .second, .val (.int (1 : Int32)), .unset, .unset, .unset, .unset] [(.double (4607182418800017408 : UInt64)), (.double (own_rec gg ss cc))])) _
        refine own_dcmp X14.here hx rfl (hb hby at_165) rfl ?_
        show Steps p.tables e below (T14.setTop (mkF m 166 #[.val (.int p1), .val (.int p2), .val (.int p3), .val (.int p4), .val (.int gg), .val (.int ss), .val (.int mn), .val (.int cc), .val (.ref b10), .val (.double (own_rec gg ss cc)), .second, .val (.double (0 : UInt64)), .second, .val (.int (1 : Int32)), .unset, .unset, .unset, .unset] [(.int (cmpValue (FP.dcmp (own_rec gg ss cc) (4607182418800017408 : UInt64)) .l))])) _
        refine XS.ifYes X14.here hx rfl (pc0 := 166) (pc' := 173) rfl (hb hby at_166) rfl ((if0 _ _).trans (feq ((by rw [Own.cv_lt k1] <;> decide) : ¬ ((cmpValue (FP.dcmp (own_rec gg ss cc) (4607182418800017408 : UInt64)) .l) = (0 : Int32)))).2) (by decide) (by decide) ?_
        show Steps p.tables e below (T14.setTop (mkF m 173 #[.val (.int p1), .val (.int p2), .val (.int p3), .val (.int p4), .val (.int gg), .val (.int ss), .val (.int mn), .val (.int cc), .val (.ref b10), .val (.double (own_rec gg ss cc)), .second, .val (.double (0 : UInt64)), .second, .val (.int (1 : Int32)), .unset, .unset, .unset, .unset] [])) _
        refine XS.iconst X14.here hx rfl (hb hby at_173) ?_
        show Steps p.tables e below (T14.setTop (mkF m 174 #[.val (.int p1), .val (.int p2), .val (.int p3), .val (.int p4), .val (.int gg), .val (.int ss), .val (.int mn), .val (.int cc), .val (.ref b10), .val (.double (own_rec gg ss cc)), .second, .val (.double (0 : UInt64)), .second, .val (.int (1 : Int32)), .unset, .unset, .unset, .unset] [(.int (0 : Int32))])) _
        refine XS.iload X14.here hx rfl (hb hby at_174) rfl ?_
        show Steps p.tables e below (T14.setTop (mkF m 176 #[.val (.int p1), .val (.int p2), .val (.int p3), .val (.int p4), .val (.int gg), .val (.int ss), .val (.int mn), .val (.int cc), .val (.ref b10), .val (.double (own_rec gg ss cc)), .second, .val (.double (0 : UInt64)), .second, .val (.int (1 : Int32)), .unset, .unset, .unset, .unset] [(.int gg), (.int (0 : Int32))])) _
        refine XS.ifYes X14.here hx rfl (pc0 := 176) (pc' := 184) rfl (hb hby at_176) rfl ((if0 _ _).trans (feq (hg : ¬ (gg = (0 : Int32)))).2) (by decide) (by decide) ?_
        show Steps p.tables e below (T14.setTop (mkF m 184 #[.val (.int p1), .val (.int p2), .val (.int p3), .val (.int p4), .val (.int gg), .val (.int ss), .val (.int mn), .val (.int cc), .val (.ref b10), .val (.double (own_rec gg ss cc)), .second, .val (.double (0 : UInt64)), .second, .val (.int (1 : Int32)), .unset, .unset, .unset, .unset] [(.int (0 : Int32))])) _
        refine XS.iload X14.here hx rfl (hb hby at_184) rfl ?_
        show Steps p.tables e below (T14.setTop (mkF m 186 #[.val (.int p1), .val (.int p2), .val (.int p3), .val (.int p4), .val (.int gg), .val (.int ss), .val (.int mn), .val (.int cc), .val (.ref b10), .val (.double (own_rec gg ss cc)), .second, .val (.double (0 : UInt64)), .second, .val (.int (1 : Int32)), .unset, .unset, .unset, .unset] [(.int gg), (.int (0 : Int32))])) _
        refine XS.ifNo X14.here hx rfl (hb hby at_186) rfl ((if0 _ _).trans (tlt (hgp : (0 : Int32) < gg)).2.2.2) ?_
        show Steps p.tables e below (T14.setTop (mkF m 189 #[.val (.int p1), .val (.int p2), .val (.int p3), .val (.int p4), .val (.int gg), .val (.int ss), .val (.int mn), .val (.int cc), .val (.ref b10), .val (.double (own_rec gg ss cc)), .second, .val (.double (0 : UInt64)), .second, .val (.int (1 : Int32)), .unset, .unset, .unset, .unset] [(.int (0 : Int32))])) _
        refine XS.iload X14.here hx rfl (hb hby at_189) rfl ?_
        show Steps p.tables e below (T14.setTop (mkF m 191 #[.val (.int p1), .val (.int p2), .val (.int p3), .val (.int p4), .val (.int gg), .val (.int ss), .val (.int mn), .val (.int cc), .val (.ref b10), .val (.double (own_rec gg ss cc)), .second, .val (.double (0 : UInt64)), .second, .val (.int (1 : Int32)), .unset, .unset, .unset, .unset] [(.int cc), (.int (0 : Int32))])) _
        refine XS.iload X14.here hx rfl (hb hby at_191) rfl ?_
        show Steps p.tables e below (T14.setTop (mkF m 193 #[.val (.int p1), .val (.int p2), .val (.int p3), .val (.int p4), .val (.int gg), .val (.int ss), .val (.int mn), .val (.int cc), .val (.ref b10), .val (.double (own_rec gg ss cc)), .second, .val (.double (0 : UInt64)), .second, .val (.int (1 : Int32)), .unset, .unset, .unset, .unset] [(.int gg), (.int cc), (.int (0 : Int32))])) _
        refine XS.icmpYes X14.here hx rfl (pc0 := 193) (pc' := 200) rfl (hb hby at_193) rfl (feq (hcg : ¬ (cc = gg))).2 (by decide) (by decide) ?_
        show Steps p.tables e below (T14.setTop (mkF m 200 #[.val (.int p1), .val (.int p2), .val (.int p3), .val (.int p4), .val (.int gg), .val (.int ss), .val (.int mn), .val (.int cc), .val (.ref b10), .val (.double (own_rec gg ss cc)), .second, .val (.double (0 : UInt64)), .second, .val (.int (1 : Int32)), .unset, .unset, .unset, .unset] [(.int (0 : Int32))])) _
        refine XS.iconst X14.here hx rfl (hb hby at_200) ?_
        show Steps p.tables e below (T14.setTop (mkF m 201 #[.val (.int p1), .val (.int p2), .val (.int p3), .val (.int p4), .val (.int gg), .val (.int ss), .val (.int mn), .val (.int cc), .val (.ref b10), .val (.double (own_rec gg ss cc)), .second, .val (.double (0 : UInt64)), .second, .val (.int (1 : Int32)), .unset, .unset, .unset, .unset] [(.int (0 : Int32)), (.int (0 : Int32))])) _
        refine XS.icmpNo X14.here hx rfl (hb hby at_201) rfl (teq (by decide : (0 : Int32) = (0 : Int32))).2 ?_
        show Steps p.tables e below (T14.setTop (mkF m 204 #[.val (.int p1), .val (.int p2), .val (.int p3), .val (.int p4), .val (.int gg), .val (.int ss), .val (.int mn), .val (.int cc), .val (.ref b10), .val (.double (own_rec gg ss cc)), .second, .val (.double (0 : UInt64)), .second, .val (.int (1 : Int32)), .unset, .unset, .unset, .unset] [])) _
        refine XS.iconst X14.here hx rfl (hb hby at_204) ?_
        show Steps p.tables e below (T14.setTop (mkF m 205 #[.val (.int p1), .val (.int p2), .val (.int p3), .val (.int p4), .val (.int gg), .val (.int ss), .val (.int mn), .val (.int cc), .val (.ref b10), .val (.double (own_rec gg ss cc)), .second, .val (.double (0 : UInt64)), .second, .val (.int (1 : Int32)), .unset, .unset, .unset, .unset] [(.int (1 : Int32))])) _
        refine XS.goto X14.here hx rfl (pc0 := 205) (pc' := 209) rfl (hb hby at_205) (by decide) (by decide) ?_
        show Steps p.tables e below (T14.setTop (mkF m 209 #[.val (.int p1), .val (.int p2), .val (.int p3), .val (.int p4), .val (.int gg), .val (.int ss), .val (.int mn), .val (.int cc), .val (.ref b10), .val (.double (own_rec gg ss cc)), .second, .val (.double (0 : UInt64)), .second, .val (.int (1 : Int32)), .unset, .unset, .unset, .unset] [(.int (1 : Int32))])) _
        refine XS.istore X14.here hx rfl (hb hby at_209) rfl (l' := #[.val (.int p1), .val (.int p2), .val (.int p3), .val (.int p4), .val (.int gg), .val (.int ss), .val (.int mn), .val (.int cc), .val (.ref b10), .val (.double (own_rec gg ss cc)), .second, .val (.double (0 : UInt64)), .second, .val (.int (1 : Int32)), .val (.int (1 : Int32)), .unset, .unset, .unset]) rfl ?_
        show Steps p.tables e below (T14.setTop (mkF m 211 #[.val (.int p1), .val (.int p2), .val (.int p3), .val (.int p4), .val (.int gg), .val (.int ss), .val (.int mn), .val (.int cc), .val (.ref b10), .val (.double (own_rec gg ss cc)), .second, .val (.double (0 : UInt64)), .second, .val (.int (1 : Int32)), .val (.int (1 : Int32)), .unset, .unset, .unset] [])) _
        refine own_dload X14.here hx rfl (hb hby at_211) rfl ?_
        show Steps p.tables e below (T14.setTop (mkF m 213 #[.val (.int p1), .val (.int p2), .val (.int p3), .val (.int p4), .val (.int gg), .val (.int ss), .val (.int mn), .val (.int cc), .val (.ref b10), .val (.double (own_rec gg ss cc)), .second, .val (.double (0 : UInt64)), .second, .val (.int (1 : Int32)), .val (.int (1 : Int32)), .unset, .unset, .unset] [(.double (own_rec gg ss cc))])) _
        refine own_dconst0 X14.here hx rfl (hb hby at_213) ?_
        show Steps p.tables e below (T14.setTop (mkF m 214 #[.val (.int p1), .val (.int p2), .val (.int p3), .val (.int p4), .val (.int gg), .val (.int ss), .val (.int mn), .val (.int cc), .val (.ref b10), .val (.double (own_rec gg ss cc)), .second, .val (.double (0 : UInt64)), .second, .val (.int (1 : Int32)), .val (.int (1 : Int32)), .unset, .unset, .unset] [(.double (0 : UInt64)), (.double (own_rec gg ss cc))])) _
        refine own_dcmp X14.here hx rfl (hb hby at_214) rfl ?_
        show Steps p.tables e below (T14.setTop (mkF m 215 #[.val (.int p1), .val (.int p2), .val (.int p3), .val (.int p4), .val (.int gg), .val (.int ss), .val (.int mn), .val (.int cc), .val (.ref b10), .val (.double (own_rec gg ss cc)), .second, .val (.double (0 : UInt64)), .second, .val (.int (1 : Int32)), .val (.int (1 : Int32)), .unset, .unset, .unset] [(.int (cmpValue (FP.dcmp (own_rec gg ss cc) (0 : UInt64)) .l))])) _
        refine XS.ifNo X14.here hx rfl (hb hby at_215) rfl ((if0 _ _).trans (teq ((by rw [Own.cv_eq k4] <;> decide) : (cmpValue (FP.dcmp (own_rec gg ss cc) (0 : UInt64)) .l) = (0 : Int32))).2) ?_
        show Steps p.tables e below (T14.setTop (mkF m 218 #[.val (.int p1), .val (.int p2), .val (.int p3), .val (.int p4), .val (.int gg), .val (.int ss), .val (.int mn), .val (.int cc), .val (.ref b10), .val (.double (own_rec gg ss cc)), .second, .val (.double (0 : UInt64)), .second, .val (.int (1 : Int32)), .val (.int (1 : Int32)), .unset, .unset, .unset] [])) _
        refine XS.iconst X14.here hx rfl (hb hby at_218) ?_
        show Steps p.tables e below (T14.setTop (mkF m 219 #[.val (.int p1), .val (.int p2), .val (.int p3), .val (.int p4), .val (.int gg), .val (.int ss), .val (.int mn), .val (.int cc), .val (.ref b10), .val (.double (own_rec gg ss cc)), .second, .val (.double (0 : UInt64)), .second, .val (.int (1 : Int32)), .val (.int (1 : Int32)), .unset, .unset, .unset] [(.int (1 : Int32))])) _
        refine XS.goto X14.here hx rfl (pc0 := 219) (pc' := 223) rfl (hb hby at_219) (by decide) (by decide) ?_
        show Steps p.tables e below (T14.setTop (mkF m 223 #[.val (.int p1), .val (.int p2), .val (.int p3), .val (.int p4), .val (.int gg), .val (.int ss), .val (.int mn), .val (.int cc), .val (.ref b10), .val (.double (own_rec gg ss cc)), .second, .val (.double (0 : UInt64)), .second, .val (.int (1 : Int32)), .val (.int (1 : Int32)), .unset, .unset, .unset] [(.int (1 : Int32))])) _
        refine XS.iload X14.here hx rfl (hb hby at_223) rfl ?_
        show Steps p.tables e below (T14.setTop (mkF m 225 #[.val (.int p1), .val (.int p2), .val (.int p3), .val (.int p4), .val (.int gg), .val (.int ss), .val (.int mn), .val (.int cc), .val (.ref b10), .val (.double (own_rec gg ss cc)), .second, .val (.double (0 : UInt64)), .second, .val (.int (1 : Int32)), .val (.int (1 : Int32)), .unset, .unset, .unset] [(.int gg), (.int (1 : Int32))])) _
        refine XS.ifYes X14.here hx rfl (pc0 := 225) (pc' := 233) rfl (hb hby at_225) rfl ((if0 _ _).trans (feq (hg : ¬ (gg = (0 : Int32)))).2) (by decide) (by decide) ?_
        show Steps p.tables e below (T14.setTop (mkF m 233 #[.val (.int p1), .val (.int p2), .val (.int p3), .val (.int p4), .val (.int gg), .val (.int ss), .val (.int mn), .val (.int cc), .val (.ref b10), .val (.double (own_rec gg ss cc)), .second, .val (.double (0 : UInt64)), .second, .val (.int (1 : Int32)), .val (.int (1 : Int32)), .unset, .unset, .unset] [(.int (1 : Int32))])) _
        refine XS.iload X14.here hx rfl (hb hby at_233) rfl ?_
        show Steps p.tables e below (T14.setTop (mkF m 235 #[.val (.int p1), .val (.int p2), .val (.int p3), .val (.int p4), .val (.int gg), .val (.int ss), .val (.int mn), .val (.int cc), .val (.ref b10), .val (.double (own_rec gg ss cc)), .second, .val (.double (0 : UInt64)), .second, .val (.int (1 : Int32)), .val (.int (1 : Int32)), .unset, .unset, .unset] [(.int gg), (.int (1 : Int32))])) _
        refine XS.ifNo X14.here hx rfl (hb hby at_235) rfl ((if0 _ _).trans (tlt (hgp : (0 : Int32) < gg)).2.2.2) ?_
        show Steps p.tables e below (T14.setTop (mkF m 238 #[.val (.int p1), .val (.int p2), .val (.int p3), .val (.int p4), .val (.int gg), .val (.int ss), .val (.int mn), .val (.int cc), .val (.ref b10), .val (.double (own_rec gg ss cc)), .second, .val (.double (0 : UInt64)), .second, .val (.int (1 : Int32)), .val (.int (1 : Int32)), .unset, .unset, .unset] [(.int (1 : Int32))])) _
        refine XS.iload X14.here hx rfl (hb hby at_238) rfl ?_
        show Steps p.tables e below (T14.setTop (mkF m 240 #[.val (.int p1), .val (.int p2), .val (.int p3), .val (.int p4), .val (.int gg), .val (.int ss), .val (.int mn), .val (.int cc), .val (.ref b10), .val (.double (own_rec gg ss cc)), .second, .val (.double (0 : UInt64)), .second, .val (.int (1 : Int32)), .val (.int (1 : Int32)), .unset, .unset, .unset] [(.int cc), (.int (1 : Int32))])) _
        refine XS.ifNo X14.here hx rfl (hb hby at_240) rfl ((if0 _ _).trans (teq (hc0 : cc = (0 : Int32))).2) ?_
        show Steps p.tables e below (T14.setTop (mkF m 243 #[.val (.int p1), .val (.int p2), .val (.int p3), .val (.int p4), .val (.int gg), .val (.int ss), .val (.int mn), .val (.int cc), .val (.ref b10), .val (.double (own_rec gg ss cc)), .second, .val (.double (0 : UInt64)), .second, .val (.int (1 : Int32)), .val (.int (1 : Int32)), .unset, .unset, .unset] [(.int (1 : Int32))])) _
        refine XS.iconst X14.here hx rfl (hb hby at_243) ?_
        show Steps p.tables e below (T14.setTop (mkF m 244 #[.val (.int p1), .val (.int p2), .val (.int p3), .val (.int p4), .val (.int gg), .val (.int ss), .val (.int mn), .val (.int cc), .val (.ref b10), .val (.double (own_rec gg ss cc)), .second, .val (.double (0 : UInt64)), .second, .val (.int (1 : Int32)), .val (.int (1 : Int32)), .unset, .unset, .unset] [(.int (1 : Int32)), (.int (1 : Int32))])) _
        refine XS.goto X14.here hx rfl (pc0 := 244) (pc' := 248) rfl (hb hby at_244) (by decide) (by decide) ?_
        show Steps p.tables e below (T14.setTop (mkF m 248 #[.val (.int p1), .val (.int p2), .val (.int p3), .val (.int p4), .val (.int gg), .val (.int ss), .val (.int mn), .val (.int cc), .val (.ref b10), .val (.double (own_rec gg ss cc)), .second, .val (.double (0 : UInt64)), .second, .val (.int (1 : Int32)), .val (.int (1 : Int32)), .unset, .unset, .unset] [(.int (1 : Int32)), (.int (1 : Int32))])) _
        refine XS.icmpNo X14.here hx rfl (hb hby at_248) rfl (teq (by decide : (1 : Int32) = (1 : Int32))).2 ?_
        show Steps p.tables e below (T14.setTop (mkF m 251 #[.val (.int p1), .val (.int p2), .val (.int p3), .val (.int p4), .val (.int gg), .val (.int ss), .val (.int mn), .val (.int cc), .val (.ref b10), .val (.double (own_rec gg ss cc)), .second, .val (.double (0 : UInt64)), .second, .val (.int (1 : Int32)), .val (.int (1 : Int32)), .unset, .unset, .unset] [])) _
        refine XS.iconst X14.here hx rfl (hb hby at_251) ?_
        show Steps p.tables e below (T14.setTop (mkF m 252 #[.val (.int p1), .val (.int p2), .val (.int p3), .val (.int p4), .val (.int gg), .val (.int ss), .val (.int mn), .val (.int cc), .val (.ref b10), .val (.double (own_rec gg ss cc)), .second, .val (.double (0 : UInt64)), .second, .val (.int (1 : Int32)), .val (.int (1 : Int32)), .unset, .unset, .unset] [(.int (1 : Int32))])) _
        refine XS.goto X14.here hx rfl (pc0 := 252) (pc' := 256) rfl (hb hby at_252) (by decide) (by decide) ?_
        show Steps p.tables e below (T14.setTop (mkF m 256 #[.val (.int p1), .val (.int p2), .val (.int p3), .val (.int p4), .val (.int gg), .val (.int ss), .val (.int mn), .val (.int cc), .val (.ref b10), .val (.double (own_rec gg ss cc)), .second, .val (.double (0 : UInt64)), .second, .val (.int (1 : Int32)), .val (.int (1 : Int32)), .unset, .unset, .unset] [(.int (1 : Int32))])) _
        refine XS.istore X14.here hx rfl (hb hby at_256) rfl (l' := #[.val (.int p1), .val (.int p2), .val (.int p3), .val (.int p4), .val (.int gg), .val (.int ss), .val (.int mn), .val (.int cc), .val (.ref b10), .val (.double (own_rec gg ss cc)), .second, .val (.double (0 : UInt64)), .second, .val (.int (1 : Int32)), .val (.int (1 : Int32)), .val (.int (1 : Int32)), .unset, .unset]) rfl ?_
        exact kt
      refine Go.adv sg30 ?_
      obtain ⟨T31, h31, X31, e31, E31, A31, D31, -, st31⟩ := newO X14 hx hZ hown (hw _ (List.mem_of_getElem? (i := 5) rfl)) (hw _ (List.mem_of_getElem? (i := 6) rfl)) (hw _ (List.mem_of_getElem? (i := 7) rfl)) e14 (g := (mkF m 258 #[.val (.int p1), .val (.int p2), .val (.int p3), .val (.int p4), .val (.int gg), .val (.int ss), .val (.int mn), .val (.int cc), .val (.ref b10), .val (.double (own_rec gg ss cc)), .second, .val (.double (0 : UInt64)), .second, .val (.int (1 : Int32)), .val (.int (1 : Int32)), .val (.int (1 : Int32)), .unset, .unset] [])) rfl (hb hby at_258) (by decide) (by decide)
      obtain ⟨b31, gb31⟩ : ∃ z, z = T12.heap.size := ⟨_, rfl⟩
      rw [← gb31] at A31 D31 st31
      have g_b31 : n0 ≤ b31 := Nat.le_trans Z12 (Nat.le_of_eq gb31.symm)
      have sz_b31 : h0.size ≤ b31 := Nat.le_trans K12.1 (Nat.le_of_eq gb31.symm)
      have ne_b10_b31 : b10 ≠ b31 := Nat.ne_of_lt (Nat.lt_of_lt_of_le p12_0.lt (Nat.le_of_eq gb31.symm))
      have K31 : Keep h0 h31 [] := K12.ext E31
      have Z31 : n0 ≤ h31.size := Nat.le_trans Z12 E31.1
      have F_gold_b31 : Fld Z h31 b31 "com/example/tally/tally/score/QuestionScore" "gold" "I" (.int (0 : Int32)) := D31 (Or.inr (hw _ (List.mem_of_getElem? (i := 20) rfl))) (ty := .int) (by decide)
      have F_system_b31 : Fld Z h31 b31 "com/example/tally/tally/score/QuestionScore" "system" "I" (.int (0 : Int32)) := D31 (Or.inr (hw _ (List.mem_of_getElem? (i := 22) rfl))) (ty := .int) (by decide)
      have F_correct_b31 : Fld Z h31 b31 "com/example/tally/tally/score/QuestionScore" "correct" "I" (.int (0 : Int32)) := D31 (Or.inr (hw _ (List.mem_of_getElem? (i := 24) rfl))) (ty := .int) (by decide)
      refine Go.adv st31 ?_
      show Go p.tables e below s _ _ _ (T31.setTop (mkF m 261 #[.val (.int p1), .val (.int p2), .val (.int p3), .val (.int p4), .val (.int gg), .val (.int ss), .val (.int mn), .val (.int cc), .val (.ref b10), .val (.double (own_rec gg ss cc)), .second, .val (.double (0 : UInt64)), .second, .val (.int (1 : Int32)), .val (.int (1 : Int32)), .val (.int (1 : Int32)), .unset, .unset] [(.ref b31)]))
      have sg32 : ∀ t, Steps p.tables e below (T31.setTop (mkF m 268 #[.val (.int p1), .val (.int p2), .val (.int p3), .val (.int p4), .val (.int gg), .val (.int ss), .val (.int mn), .val (.int cc), .val (.ref b10), .val (.double (own_rec gg ss cc)), .second, .val (.double (0 : UInt64)), .second, .val (.int (1 : Int32)), .val (.int (1 : Int32)), .val (.int (1 : Int32)), .unset, .unset] [(.int cc), (.int gg), (.int ss), (.ref b31), (.ref b31)])) t → Steps p.tables e below (T31.setTop (mkF m 261 #[.val (.int p1), .val (.int p2), .val (.int p3), .val (.int p4), .val (.int gg), .val (.int ss), .val (.int mn), .val (.int cc), .val (.ref b10), .val (.double (own_rec gg ss cc)), .second, .val (.double (0 : UInt64)), .second, .val (.int (1 : Int32)), .val (.int (1 : Int32)), .val (.int (1 : Int32)), .unset, .unset] [(.ref b31)])) t := by
        intro t kt
        show Steps p.tables e below (T31.setTop (mkF m 261 #[.val (.int p1), .val (.int p2), .val (.int p3), .val (.int p4), .val (.int gg), .val (.int ss), .val (.int mn), .val (.int cc), .val (.ref b10), .val (.double (own_rec gg ss cc)), .second, .val (.double (0 : UInt64)), .second, .val (.int (1 : Int32)), .val (.int (1 : Int32)), .val (.int (1 : Int32)), .unset, .unset] [(.ref b31)])) _
        refine XS.dup X31.here hx rfl (hb hby at_261) rfl rfl ?_
        show Steps p.tables e below (T31.setTop (mkF m 262 #[.val (.int p1), .val (.int p2), .val (.int p3), .val (.int p4), .val (.int gg), .val (.int ss), .val (.int mn), .val (.int cc), .val (.ref b10), .val (.double (own_rec gg ss cc)), .second, .val (.double (0 : UInt64)), .second, .val (.int (1 : Int32)), .val (.int (1 : Int32)), .val (.int (1 : Int32)), .unset, .unset] [(.ref b31), (.ref b31)])) _
        refine XS.iload X31.here hx rfl (hb hby at_262) rfl ?_
        show Steps p.tables e below (T31.setTop (mkF m 264 #[.val (.int p1), .val (.int p2), .val (.int p3), .val (.int p4), .val (.int gg), .val (.int ss), .val (.int mn), .val (.int cc), .val (.ref b10), .val (.double (own_rec gg ss cc)), .second, .val (.double (0 : UInt64)), .second, .val (.int (1 : Int32)), .val (.int (1 : Int32)), .val (.int (1 : Int32)), .unset, .unset] [(.int ss), (.ref b31), (.ref b31)])) _
        refine XS.iload X31.here hx rfl (hb hby at_264) rfl ?_
        show Steps p.tables e below (T31.setTop (mkF m 266 #[.val (.int p1), .val (.int p2), .val (.int p3), .val (.int p4), .val (.int gg), .val (.int ss), .val (.int mn), .val (.int cc), .val (.ref b10), .val (.double (own_rec gg ss cc)), .second, .val (.double (0 : UInt64)), .second, .val (.int (1 : Int32)), .val (.int (1 : Int32)), .val (.int (1 : Int32)), .unset, .unset] [(.int gg), (.int ss), (.ref b31), (.ref b31)])) _
        refine XS.iload X31.here hx rfl (hb hby at_266) rfl ?_
        exact kt
      refine Go.adv sg32 ?_
      obtain ⟨_, _, ⟨T33, L33, k33, n33⟩, -, X33, ⟨Lc33, hQ33, l33, y33, z33⟩, st33⟩ := X31.specialBack hx (y := (⟨"com/example/tally/tally/score/QuestionScore", "<init>", "(III)V"⟩ : MethodName)) rfl hown (mvT hZ (hw _ (List.mem_of_getElem? (i := 8) rfl))) (mvT hZ (hw _ (List.mem_of_getElem? (i := 9) rfl))) (mvT hZ (hw _ (List.mem_of_getElem? (i := 10) rfl))) (by decide) (backOf (W := 1) (rm_init l Z a0 hw [] b31 ss gg cc (.int (0 : Int32)) (.int (0 : Int32)) (.int (0 : Int32)) h31 n0 Z31 A31 g_b31 F_gold_b31 F_system_b31 F_correct_b31 (by assumption)) hZ (hw _ (List.mem_of_getElem? (i := 10) rfl)) (hw _ (List.mem_of_getElem? (i := 7) rfl)) (by decide) (by decide)) (g := (mkF m 268 #[.val (.int p1), .val (.int p2), .val (.int p3), .val (.int p4), .val (.int gg), .val (.int ss), .val (.int mn), .val (.int cc), .val (.ref b10), .val (.double (own_rec gg ss cc)), .second, .val (.double (0 : UInt64)), .second, .val (.int (1 : Int32)), .val (.int (1 : Int32)), .val (.int (1 : Int32)), .unset, .unset] [(.int cc), (.int gg), (.int ss), (.ref b31), (.ref b31)])) rfl (by rw [hml]; rfl) (Steps.refl _) (a := b31) (argsL := [(.int ss), (.int gg), (.int cc)]) (rest := [(.ref b31)]) (lenOf pd_oIIIcV rfl) rfl (by show 2 * 0 + _ ≤ _; exact Nat.le_of_eq rfl) (hb hby at_268) (fun _ _ => ⟨rfl, e31, (by decide : 2 + 0 ≤ _), (by decide : 6 + 0 ≤ _)⟩)
      dsimp only [Pt.U, Pt.locs, Pt.cells, Pt.slots] at X33 l33 y33 z33 st33 hQ33
      subst l33 y33 z33
      obtain ⟨rfl, N33q, Kc33, p33_0, p33_1, p33_2, p33_3⟩ := hQ33
      have N33 := Fr.app N14 N33q
      have K33 : Keep h0 T33.heap [] := K31.trans Kc33 (allS (Or.inr sz_b31) all0)
      have Z33 : n0 ≤ T33.heap.size := Nat.le_trans Z31 Kc33.1
      refine Go.tr st33 ?_
      show Go p.tables e below s _ _ _ (T33.setTop (mkF m 271 #[.val (.int p1), .val (.int p2), .val (.int p3), .val (.int p4), .val (.int gg), .val (.int ss), .val (.int mn), .val (.int cc), .val (.ref b10), .val (.double (own_rec gg ss cc)), .second, .val (.double (0 : UInt64)), .second, .val (.int (1 : Int32)), .val (.int (1 : Int32)), .val (.int (1 : Int32)), .unset, .unset] [(.ref b31)]))
      have sg34 : ∀ t, Steps p.tables e below (T33.setTop (mkF m 275 #[.val (.int p1), .val (.int p2), .val (.int p3), .val (.int p4), .val (.int gg), .val (.int ss), .val (.int mn), .val (.int cc), .val (.ref b10), .val (.double (own_rec gg ss cc)), .second, .val (.double (0 : UInt64)), .second, .val (.int (1 : Int32)), .val (.int (1 : Int32)), .val (.int (1 : Int32)), .val (.ref b31), .unset] [(.ref b31)])) t → Steps p.tables e below (T33.setTop (mkF m 271 #[.val (.int p1), .val (.int p2), .val (.int p3), .val (.int p4), .val (.int gg), .val (.int ss), .val (.int mn), .val (.int cc), .val (.ref b10), .val (.double (own_rec gg ss cc)), .second, .val (.double (0 : UInt64)), .second, .val (.int (1 : Int32)), .val (.int (1 : Int32)), .val (.int (1 : Int32)), .unset, .unset] [(.ref b31)])) t := by
        intro t kt
        show Steps p.tables e below (T33.setTop (mkF m 271 #[.val (.int p1), .val (.int p2), .val (.int p3), .val (.int p4), .val (.int gg), .val (.int ss), .val (.int mn), .val (.int cc), .val (.ref b10), .val (.double (own_rec gg ss cc)), .second, .val (.double (0 : UInt64)), .second, .val (.int (1 : Int32)), .val (.int (1 : Int32)), .val (.int (1 : Int32)), .unset, .unset] [(.ref b31)])) _
        refine XS.astore X33.here hx rfl (hb hby at_271) rfl rfl (l' := #[.val (.int p1), .val (.int p2), .val (.int p3), .val (.int p4), .val (.int gg), .val (.int ss), .val (.int mn), .val (.int cc), .val (.ref b10), .val (.double (own_rec gg ss cc)), .second, .val (.double (0 : UInt64)), .second, .val (.int (1 : Int32)), .val (.int (1 : Int32)), .val (.int (1 : Int32)), .val (.ref b31), .unset]) rfl ?_
        show Steps p.tables e below (T33.setTop (mkF m 273 #[.val (.int p1), .val (.int p2), .val (.int p3), .val (.int p4), .val (.int gg), .val (.int ss), .val (.int mn), .val (.int cc), .val (.ref b10), .val (.double (own_rec gg ss cc)), .second, .val (.double (0 : UInt64)), .second, .val (.int (1 : Int32)), .val (.int (1 : Int32)), .val (.int (1 : Int32)), .val (.ref b31), .unset] [])) _
        refine XS.aload X33.here hx rfl (hb hby at_273) rfl rfl ?_
        exact kt
      refine Go.adv sg34 ?_
      obtain ⟨cq35, kq35, q35a, q35b, q35c⟩ := isOf hZ rfl p33_0
      obtain ⟨_, _, ⟨T35, L35, k35, n35⟩, -, X35, ⟨Lc35, hQ35, l35, y35, z35⟩, st35⟩ := X33.virtualBack hx (y := (⟨"com/example/tally/tally/score/QuestionScore", "precision", "()D"⟩ : MethodName)) (z := (⟨"com/example/tally/tally/score/QuestionScore", "precision", "()D"⟩ : MethodName)) hown (mvT hZ (hw _ (List.mem_of_getElem? (i := 30) rfl))) (mvT hZ (hw _ (List.mem_of_getElem? (i := 31) rfl))) (notFace_of_selects (args := #[]) (mvT hZ (hw _ (List.mem_of_getElem? (i := 33) rfl)))) (mvT hZ (hw _ (List.mem_of_getElem? (i := 33) rfl))) (mvT hZ (hw _ (List.mem_of_getElem? (i := 32) rfl))) (by decide) (backOf (W := 0) (rm_precision l Z a0 hw [] b31 ss gg cc T33.heap n0 Z33 p33_1 p33_2 p33_3) hZ (hw _ (List.mem_of_getElem? (i := 34) rfl)) (hw _ (List.mem_of_getElem? (i := 7) rfl)) (by decide) (by decide)) q35a q35c (g := (mkF m 275 #[.val (.int p1), .val (.int p2), .val (.int p3), .val (.int p4), .val (.int gg), .val (.int ss), .val (.int mn), .val (.int cc), .val (.ref b10), .val (.double (own_rec gg ss cc)), .second, .val (.double (0 : UInt64)), .second, .val (.int (1 : Int32)), .val (.int (1 : Int32)), .val (.int (1 : Int32)), .val (.ref b31), .unset] [(.ref b31)])) rfl (by rw [hml]; rfl) (Steps.refl _) (argsL := []) (rest := []) (lenOf pd_ocD rfl) rfl (by show 2 * 0 + _ ≤ _; exact Nat.le_of_eq rfl) (hb hby at_275) (fun _ _ => ⟨rfl, rfl, (by decide : 2 + 0 ≤ _), (by decide : 6 + 0 ≤ _)⟩)
      dsimp only [Pt.U, Pt.locs, Pt.cells, Pt.slots] at X35 l35 y35 z35 st35 hQ35
      subst l35 y35 z35
      obtain ⟨rfl, N35q, e35⟩ := hQ35
      have N35 := Fr.app N33 N35q
      refine Go.tr st35 ?_
      show Go p.tables e below s _ _ _ (T35.setTop (mkF m 278 #[.val (.int p1), .val (.int p2), .val (.int p3), .val (.int p4), .val (.int gg), .val (.int ss), .val (.int mn), .val (.int cc), .val (.ref b10), .val (.double (own_rec gg ss cc)), .second, .val (.double (0 : UInt64)), .second, .val (.int (1 : Int32)), .val (.int (1 : Int32)), .val (.int (1 : Int32)), .val (.ref b31), .unset] [(.double (own_prec ss gg cc))]))
      have sg36 : ∀ t, Steps p.tables e below (T35.setTop (mkF m 324 #[.val (.int p1), .val (.int p2), .val (.int p3), .val (.int p4), .val (.int gg), .val (.int ss), .val (.int mn), .val (.int cc), .val (.ref b10), .val (.double (own_rec gg ss cc)), .second, .val (.double (0 : UInt64)), .second, .val (.int (1 : Int32)), .val (.int (1 : Int32)), .val (.int (1 : Int32)), .val (.ref b31), .val (.int (1 : Int32))] [(.int (1 : Int32))])) t → Steps p.tables e below (T35.setTop (mkF m 278 #[.val (.int p1), .val (.int p2), .val (.int p3), .val (.int p4), .val (.int gg), .val (.int ss), .val (.int mn), .val (.int cc), .val (.ref b10), .val (.double (own_rec gg ss cc)), .second, .val (.double (0 : UInt64)), .second, .val (.int (1 : Int32)), .val (.int (1 : Int32)), .val (.int (1 : Int32)), .val (.ref b31), .unset] [(.double (own_prec ss gg cc))])) t := by
        intro t kt
        show Steps p.tables e below (T35.setTop (mkF m 278 #[.val (.int p1), .val (.int p2), .val (.int p3), .val (.int p4), .val (.int gg), .val (.int ss), .val (.int mn), .val (.int cc), .val (.ref b10), .val (.double (own_rec gg ss cc)), .second, .val (.double (0 : UInt64)), .second, .val (.int (1 : Int32)), .val (.int (1 : Int32)), .val (.int (1 : Int32)), .val (.ref b31), .unset] [(.double (own_prec ss gg cc))])) _
        refine own_dload X35.here hx rfl (hb hby at_278) rfl ?_
        show Steps p.tables e below (T35.setTop (mkF m 280 #[.val (.int p1), .val (.int p2), .val (.int p3), .val (.int p4), .val (.int gg), .val (.int ss), .val (.int mn), .val (.int cc), .val (.ref b10), .val (.double (own_rec gg ss cc)), .second, .val (.double (0 : UInt64)), .second, .val (.int (1 : Int32)), .val (.int (1 : Int32)), .val (.int (1 : Int32)), .val (.ref b31), .unset] [(.double (own_rec gg ss cc)), (.double (own_prec ss gg cc))])) _
        refine own_dcmp X35.here hx rfl (hb hby at_280) rfl ?_
        show Steps p.tables e below (T35.setTop (mkF m 281 #[.val (.int p1), .val (.int p2), .val (.int p3), .val (.int p4), .val (.int gg), .val (.int ss), .val (.int mn), .val (.int cc), .val (.ref b10), .val (.double (own_rec gg ss cc)), .second, .val (.double (0 : UInt64)), .second, .val (.int (1 : Int32)), .val (.int (1 : Int32)), .val (.int (1 : Int32)), .val (.ref b31), .unset] [(.int (cmpValue (FP.dcmp (own_prec ss gg cc) (own_rec gg ss cc)) .l))])) _
        refine XS.ifNo X35.here hx rfl (hb hby at_281) rfl ((if0 _ _).trans (teq ((by rw [Own.cv_eq k2] <;> decide) : (cmpValue (FP.dcmp (own_prec ss gg cc) (own_rec gg ss cc)) .l) = (0 : Int32))).2) ?_
        show Steps p.tables e below (T35.setTop (mkF m 284 #[.val (.int p1), .val (.int p2), .val (.int p3), .val (.int p4), .val (.int gg), .val (.int ss), .val (.int mn), .val (.int cc), .val (.ref b10), .val (.double (own_rec gg ss cc)), .second, .val (.double (0 : UInt64)), .second, .val (.int (1 : Int32)), .val (.int (1 : Int32)), .val (.int (1 : Int32)), .val (.ref b31), .unset] [])) _
        refine XS.iconst X35.here hx rfl (hb hby at_284) ?_
        show Steps p.tables e below (T35.setTop (mkF m 285 #[.val (.int p1), .val (.int p2), .val (.int p3), .val (.int p4), .val (.int gg), .val (.int ss), .val (.int mn), .val (.int cc), .val (.ref b10), .val (.double (own_rec gg ss cc)), .second, .val (.double (0 : UInt64)), .second, .val (.int (1 : Int32)), .val (.int (1 : Int32)), .val (.int (1 : Int32)), .val (.ref b31), .unset] [(.int (1 : Int32))])) _
        refine XS.goto X35.here hx rfl (pc0 := 285) (pc' := 289) rfl (hb hby at_285) (by decide) (by decide) ?_
        show Steps p.tables e below (T35.setTop (mkF m 289 #[.val (.int p1), .val (.int p2), .val (.int p3), .val (.int p4), .val (.int gg), .val (.int ss), .val (.int mn), .val (.int cc), .val (.ref b10), .val (.double (own_rec gg ss cc)), .second, .val (.double (0 : UInt64)), .second, .val (.int (1 : Int32)), .val (.int (1 : Int32)), .val (.int (1 : Int32)), .val (.ref b31), .unset] [(.int (1 : Int32))])) _
        refine XS.istore X35.here hx rfl (hb hby at_289) rfl (l' := #[.val (.int p1), .val (.int p2), .val (.int p3), .val (.int p4), .val (.int gg), .val (.int ss), .val (.int mn), .val (.int cc), .val (.ref b10), .val (.double (own_rec gg ss cc)), .second, .val (.double (0 : UInt64)), .second, .val (.int (1 : Int32)), .val (.int (1 : Int32)), .val (.int (1 : Int32)), .val (.ref b31), .val (.int (1 : Int32))]) rfl ?_
        show Steps p.tables e below (T35.setTop (mkF m 291 #[.val (.int p1), .val (.int p2), .val (.int p3), .val (.int p4), .val (.int gg), .val (.int ss), .val (.int mn), .val (.int cc), .val (.ref b10), .val (.double (own_rec gg ss cc)), .second, .val (.double (0 : UInt64)), .second, .val (.int (1 : Int32)), .val (.int (1 : Int32)), .val (.int (1 : Int32)), .val (.ref b31), .val (.int (1 : Int32))] [])) _
        refine own_dload X35.here hx rfl (hb hby at_291) rfl ?_
        show Steps p.tables e below (T35.setTop (mkF m 293 #[.val (.int p1), .val (.int p2), .val (.int p3), .val (.int p4), .val (.int gg), .val (.int ss), .val (.int mn), .val (.int cc), .val (.ref b10), .val (.double (own_rec gg ss cc)), .second, .val (.double (0 : UInt64)), .second, .val (.int (1 : Int32)), .val (.int (1 : Int32)), .val (.int (1 : Int32)), .val (.ref b31), .val (.int (1 : Int32))] [(.double (own_rec gg ss cc))])) _
        refine own_dload X35.here hx rfl (hb hby at_293) rfl ?_
        show Steps p.tables e below (T35.setTop (mkF m 295 #[.val (.int p1), .val (.int p2), .val (.int p3), .val (.int p4), .val (.int gg), .val (.int ss), .val (.int mn), .val (.int cc), .val (.ref b10), .val (.double (own_rec gg ss cc)), .second, .val (.double (0 : UInt64)), .second, .val (.int (1 : Int32)), .val (.int (1 : Int32)), .val (.int (1 : Int32)), .val (.ref b31), .val (.int (1 : Int32))] [(.double (0 : UInt64)), (.double (own_rec gg ss cc))])) _
        refine own_dcmp X35.here hx rfl (hb hby at_295) rfl ?_
        show Steps p.tables e below (T35.setTop (mkF m 296 #[.val (.int p1), .val (.int p2), .val (.int p3), .val (.int p4), .val (.int gg), .val (.int ss), .val (.int mn), .val (.int cc), .val (.ref b10), .val (.double (own_rec gg ss cc)), .second, .val (.double (0 : UInt64)), .second, .val (.int (1 : Int32)), .val (.int (1 : Int32)), .val (.int (1 : Int32)), .val (.ref b31), .val (.int (1 : Int32))] [(.int (cmpValue (FP.dcmp (own_rec gg ss cc) (0 : UInt64)) .l))])) _
        refine XS.ifNo X35.here hx rfl (hb hby at_296) rfl ((if0 _ _).trans (teq ((by rw [Own.cv_eq k4] <;> decide) : (cmpValue (FP.dcmp (own_rec gg ss cc) (0 : UInt64)) .l) = (0 : Int32))).2) ?_
        show Steps p.tables e below (T35.setTop (mkF m 299 #[.val (.int p1), .val (.int p2), .val (.int p3), .val (.int p4), .val (.int gg), .val (.int ss), .val (.int mn), .val (.int cc), .val (.ref b10), .val (.double (own_rec gg ss cc)), .second, .val (.double (0 : UInt64)), .second, .val (.int (1 : Int32)), .val (.int (1 : Int32)), .val (.int (1 : Int32)), .val (.ref b31), .val (.int (1 : Int32))] [])) _
        refine XS.iload X35.here hx rfl (hb hby at_299) rfl ?_
        show Steps p.tables e below (T35.setTop (mkF m 301 #[.val (.int p1), .val (.int p2), .val (.int p3), .val (.int p4), .val (.int gg), .val (.int ss), .val (.int mn), .val (.int cc), .val (.ref b10), .val (.double (own_rec gg ss cc)), .second, .val (.double (0 : UInt64)), .second, .val (.int (1 : Int32)), .val (.int (1 : Int32)), .val (.int (1 : Int32)), .val (.ref b31), .val (.int (1 : Int32))] [(.int (1 : Int32))])) _
        refine XS.ifNo X35.here hx rfl (hb hby at_301) rfl ((if0 _ _).trans (feq (by decide : ¬ ((1 : Int32) = (0 : Int32)))).1) ?_
        show Steps p.tables e below (T35.setTop (mkF m 304 #[.val (.int p1), .val (.int p2), .val (.int p3), .val (.int p4), .val (.int gg), .val (.int ss), .val (.int mn), .val (.int cc), .val (.ref b10), .val (.double (own_rec gg ss cc)), .second, .val (.double (0 : UInt64)), .second, .val (.int (1 : Int32)), .val (.int (1 : Int32)), .val (.int (1 : Int32)), .val (.ref b31), .val (.int (1 : Int32))] [])) _
        refine XS.iload X35.here hx rfl (hb hby at_304) rfl ?_
        show Steps p.tables e below (T35.setTop (mkF m 306 #[.val (.int p1), .val (.int p2), .val (.int p3), .val (.int p4), .val (.int gg), .val (.int ss), .val (.int mn), .val (.int cc), .val (.ref b10), .val (.double (own_rec gg ss cc)), .second, .val (.double (0 : UInt64)), .second, .val (.int (1 : Int32)), .val (.int (1 : Int32)), .val (.int (1 : Int32)), .val (.ref b31), .val (.int (1 : Int32))] [(.int (1 : Int32))])) _
        refine XS.ifNo X35.here hx rfl (hb hby at_306) rfl ((if0 _ _).trans (feq (by decide : ¬ ((1 : Int32) = (0 : Int32)))).1) ?_
        show Steps p.tables e below (T35.setTop (mkF m 309 #[.val (.int p1), .val (.int p2), .val (.int p3), .val (.int p4), .val (.int gg), .val (.int ss), .val (.int mn), .val (.int cc), .val (.ref b10), .val (.double (own_rec gg ss cc)), .second, .val (.double (0 : UInt64)), .second, .val (.int (1 : Int32)), .val (.int (1 : Int32)), .val (.int (1 : Int32)), .val (.ref b31), .val (.int (1 : Int32))] [])) _
        refine XS.iload X35.here hx rfl (hb hby at_309) rfl ?_
        show Steps p.tables e below (T35.setTop (mkF m 311 #[.val (.int p1), .val (.int p2), .val (.int p3), .val (.int p4), .val (.int gg), .val (.int ss), .val (.int mn), .val (.int cc), .val (.ref b10), .val (.double (own_rec gg ss cc)), .second, .val (.double (0 : UInt64)), .second, .val (.int (1 : Int32)), .val (.int (1 : Int32)), .val (.int (1 : Int32)), .val (.ref b31), .val (.int (1 : Int32))] [(.int (1 : Int32))])) _
        refine XS.ifNo X35.here hx rfl (hb hby at_311) rfl ((if0 _ _).trans (feq (by decide : ¬ ((1 : Int32) = (0 : Int32)))).1) ?_
        show Steps p.tables e below (T35.setTop (mkF m 314 #[.val (.int p1), .val (.int p2), .val (.int p3), .val (.int p4), .val (.int gg), .val (.int ss), .val (.int mn), .val (.int cc), .val (.ref b10), .val (.double (own_rec gg ss cc)), .second, .val (.double (0 : UInt64)), .second, .val (.int (1 : Int32)), .val (.int (1 : Int32)), .val (.int (1 : Int32)), .val (.ref b31), .val (.int (1 : Int32))] [])) _
        refine XS.iload X35.here hx rfl (hb hby at_314) rfl ?_
        show Steps p.tables e below (T35.setTop (mkF m 316 #[.val (.int p1), .val (.int p2), .val (.int p3), .val (.int p4), .val (.int gg), .val (.int ss), .val (.int mn), .val (.int cc), .val (.ref b10), .val (.double (own_rec gg ss cc)), .second, .val (.double (0 : UInt64)), .second, .val (.int (1 : Int32)), .val (.int (1 : Int32)), .val (.int (1 : Int32)), .val (.ref b31), .val (.int (1 : Int32))] [(.int (1 : Int32))])) _
        refine XS.ifNo X35.here hx rfl (hb hby at_316) rfl ((if0 _ _).trans (feq (by decide : ¬ ((1 : Int32) = (0 : Int32)))).1) ?_
        show Steps p.tables e below (T35.setTop (mkF m 319 #[.val (.int p1), .val (.int p2), .val (.int p3), .val (.int p4), .val (.int gg), .val (.int ss), .val (.int mn), .val (.int cc), .val (.ref b10), .val (.double (own_rec gg ss cc)), .second, .val (.double (0 : UInt64)), .second, .val (.int (1 : Int32)), .val (.int (1 : Int32)), .val (.int (1 : Int32)), .val (.ref b31), .val (.int (1 : Int32))] [])) _
        refine XS.iconst X35.here hx rfl (hb hby at_319) ?_
        show Steps p.tables e below (T35.setTop (mkF m 320 #[.val (.int p1), .val (.int p2), .val (.int p3), .val (.int p4), .val (.int gg), .val (.int ss), .val (.int mn), .val (.int cc), .val (.ref b10), .val (.double (own_rec gg ss cc)), .second, .val (.double (0 : UInt64)), .second, .val (.int (1 : Int32)), .val (.int (1 : Int32)), .val (.int (1 : Int32)), .val (.ref b31), .val (.int (1 : Int32))] [(.int (1 : Int32))])) _
        refine XS.goto X35.here hx rfl (pc0 := 320) (pc' := 324) rfl (hb hby at_320) (by decide) (by decide) ?_
        exact kt
      refine Go.adv sg36 ?_
      refine Go.ret (v := (some (.int (1 : Int32)))) X35 (fun h => by rw [Bd.returns] at h; cases h) Bd.notSynchronized (fun fs hr => retN X35 hx (t := .boolean) Bd.returns (by simp) (hb hby at_324) hr) ?_ (by decide) (by decide)
      show Q_rm0 Z p1 p2 p3 p4 h0 n0 (some (.int (1 : Int32))) T35.heap _
      rw [e35]
      exact ⟨rfl, N35⟩
    · have hsp := own_pos hs0 hs
      by_cases hc0 : cc = 0
      · have hcg : ¬ (cc = gg) := fun q => hg (q.symm.trans hc0)
        rw [if_neg hcg] at k1
        rw [if_pos hc0] at k3 k4
        have sg37 : ∀ t, Steps p.tables e below (T14.setTop (mkF m 258 #[.val (.int p1), .val (.int p2), .val (.int p3), .val (.int p4), .val (.int gg), .val (.int ss), .val (.int mn), .val (.int cc), .val (.ref b10), .val (.double (own_rec gg ss cc)), .second, .val (.double (FP.ddiv (FP.i2d cc) (FP.i2d gg))), .second, .val (.int (1 : Int32)), .val (.int (1 : Int32)), .val (.int (1 : Int32)), .unset, .unset] [])) t → Steps p.tables e below (T14.setTop (mkF m 94 #[.val (.int p1), .val (.int p2), .val (.int p3), .val (.int p4), .val (.int gg), .val (.int ss), .val (.int mn), .val (.int cc), .val (.ref b10), .val (.double (own_rec gg ss cc)), .second, .unset, .unset, .unset, .unset, .unset, .unset, .unset] [])) t := by
          intro t kt
          show Steps p.tables e below (T14.setTop (mkF m 94 #[.val (.int p1), .val (.int p2), .val (.int p3), .val (.int p4), .val (.int gg), .val (.int ss), .val (.int mn), .val (.int cc), .val (.ref b10), .val (.double (own_rec gg ss cc)), .second, .unset, .unset, .unset, .unset, .unset, .unset, .unset] [])) _
          refine XS.iload X14.here hx rfl (hb hby at_94) rfl ?_
          show Steps p.tables e below (T14.setTop (mkF m 96 #[.val (.int p1), .val (.int p2), .val (.int p3), .val (.int p4), .val (.int gg), .val (.int ss), .val (.int mn), .val (.int cc), .val (.ref b10), .val (.double (own_rec gg ss cc)), .second, .unset, .unset, .unset, .unset, .unset, .unset, .unset] [(.int gg)])) _
          refine XS.ifYes X14.here hx rfl (pc0 := 96) (pc' := 110) rfl (hb hby at_96) rfl ((if0 _ _).trans (feq (hg : ¬ (gg = (0 : Int32)))).2) (by decide) (by decide) ?_
          show Steps p.tables e below (T14.setTop (mkF m 110 #[.val (.int p1), .val (.int p2), .val (.int p3), .val (.int p4), .val (.int gg), .val (.int ss), .val (.int mn), .val (.int cc), .val (.ref b10), .val (.double (own_rec gg ss cc)), .second, .unset, .unset, .unset, .unset, .unset, .unset, .unset] [])) _
          refine XS.iload X14.here hx rfl (hb hby at_110) rfl ?_
          show Steps p.tables e below (T14.setTop (mkF m 112 #[.val (.int p1), .val (.int p2), .val (.int p3), .val (.int p4), .val (.int gg), .val (.int ss), .val (.int mn), .val (.int cc), .val (.ref b10), .val (.double (own_rec gg ss cc)), .second, .unset, .unset, .unset, .unset, .unset, .unset, .unset] [(.int gg)])) _
          refine XS.ifYes X14.here hx rfl (pc0 := 112) (pc' := 121) rfl (hb hby at_112) rfl ((if0 _ _).trans (feq (hg : ¬ (gg = (0 : Int32)))).2) (by decide) (by decide) ?_
          show Steps p.tables e below (T14.setTop (mkF m 121 #[.val (.int p1), .val (.int p2), .val (.int p3), .val (.int p4), .val (.int gg), .val (.int ss), .val (.int mn), .val (.int cc), .val (.ref b10), .val (.double (own_rec gg ss cc)), .second, .unset, .unset, .unset, .unset, .unset, .unset, .unset] [])) _
          refine XS.iload X14.here hx rfl (hb hby at_121) rfl ?_
          show Steps p.tables e below (T14.setTop (mkF m 123 #[.val (.int p1), .val (.int p2), .val (.int p3), .val (.int p4), .val (.int gg), .val (.int ss), .val (.int mn), .val (.int cc), .val (.ref b10), .val (.double (own_rec gg ss cc)), .second, .unset, .unset, .unset, .unset, .unset, .unset, .unset] [(.int ss)])) _
          refine XS.ifYes X14.here hx rfl (pc0 := 123) (pc' := 132) rfl (hb hby at_123) rfl ((if0 _ _).trans (feq (hs : ¬ (ss = (0 : Int32)))).2) (by decide) (by decide) ?_
          show Steps p.tables e below (T14.setTop (mkF m 132 #[.val (.int p1), .val (.int p2), .val (.int p3), .val (.int p4), .val (.int gg), .val (.int ss), .val (.int mn), .val (.int cc), .val (.ref b10), .val (.double (own_rec gg ss cc)), .second, .unset, .unset, .unset, .unset, .unset, .unset, .unset] [])) _
          refine XS.iload X14.here hx rfl (hb hby at_132) rfl ?_
          show Steps p.tables e below (T14.setTop (mkF m 134 #[.val (.int p1), .val (.int p2), .val (.int p3), .val (.int p4), .val (.int gg), .val (.int ss), .val (.int mn), .val (.int cc), .val (.ref b10), .val (.double (own_rec gg ss cc)), .second, .unset, .unset, .unset, .unset, .unset, .unset, .unset] [(.int cc)])) _
          refine own_i2d X14.here hx rfl (hb hby at_134) rfl ?_
          show Steps p.tables e below (T14.setTop (mkF m 135 #[.val (.int p1), .val (.int p2), .val (.int p3), .val (.int p4), .val (.int gg), .val (.int ss), .val (.int mn), .val (.int cc), .val (.ref b10), .val (.double (own_rec gg ss cc)), .second, .unset, .unset, .unset, .unset, .unset, .unset, .unset] [(.double (FP.i2d cc))])) _
          refine XS.iload X14.here hx rfl (hb hby at_135) rfl ?_
          show Steps p.tables e below (T14.setTop (mkF m 137 #[.val (.int p1), .val (.int p2), .val (.int p3), .val (.int p4), .val (.int gg), .val (.int ss), .val (.int mn), .val (.int cc), .val (.ref b10), .val (.double (own_rec gg ss cc)), .second, .unset, .unset, .unset, .unset, .unset, .unset, .unset] [(.int gg), (.double (FP.i2d cc))])) _
          refine own_i2d X14.here hx rfl (hb hby at_137) rfl ?_
          show Steps p.tables e below (T14.setTop (mkF m 138 #[.val (.int p1), .val (.int p2), .val (.int p3), .val (.int p4), .val (.int gg), .val (.int ss), .val (.int mn), .val (.int cc), .val (.ref b10), .val (.double (own_rec gg ss cc)), .second, .unset, .unset, .unset, .unset, .unset, .unset, .unset] [(.double (FP.i2d gg)), (.double (FP.i2d cc))])) _
          refine own_ddiv X14.here hx rfl (hb hby at_138) rfl k6 ?_
          show Steps p.tables e below (T14.setTop (mkF m 139 #[.val (.int p1), .val (.int p2), .val (.int p3), .val (.int p4), .val (.int gg), .val (.int ss), .val (.int mn), .val (.int cc), .val (.ref b10), .val (.double (own_rec gg ss cc)), .second, .unset, .unset, .unset, .unset, .unset, .unset, .unset] [(.double (FP.ddiv (FP.i2d cc) (FP.i2d gg)))])) _
          refine own_dstore X14.here hx rfl (hb hby at_139) rfl (l' := #[.val (.int p1), .val (.int p2), .val (.int p3), .val (.int p4), .val (.int gg), .val (.int ss), .val (.int mn), .val (.int cc), .val (.ref b10), .val (.double (own_rec gg ss cc)), .second, .val (.double (FP.ddiv (FP.i2d cc) (FP.i2d gg))), .second, .unset, .unset, .unset, .unset, .unset]) rfl ?_
          show Steps p.tables e below (T14.setTop (mkF m 141 #[.val (.int p1), .val (.int p2), .val (.int p3), .val (.int p4), .val (.int gg), .val (.int ss), .val (.int mn), .val (.int cc), .val (.ref b10), .val (.double (own_rec gg ss cc)), .second, .val (.double (FP.ddiv (FP.i2d cc) (FP.i2d gg))), .second, .unset, .unset, .unset, .unset, .unset] [])) _
          refine own_dconst0 X14.here hx rfl (hb hby at_141) ?_
          show Steps p.tables e below (T14.setTop (mkF m 142 #[.val (.int p1), .val (.int p2), .val (.int p3), .val (.int p4), .val (.int gg), .val (.int ss), .val (.int mn), .val (.int cc), .val (.ref b10), .val (.double (own_rec gg ss cc)), .second, .val (.double (FP.ddiv (FP.i2d cc) (FP.i2d gg))), .second, .unset, .unset, .unset, .unset, .unset] [(.double (0 : UInt64))])) _
          refine own_dload X14.here hx rfl (hb hby at_142) rfl ?_
          show Steps p.tables e below (T14.setTop (mkF m 144 #[.val (.int p1), .val (.int p2), .val (.int p3), .val (.int p4), .val (.int gg), .val (.int ss), .val (.int mn), .val (.int cc), .val (.ref b10), .val (.double (own_rec gg ss cc)), .second, .val (.double (FP.ddiv (FP.i2d cc) (FP.i2d gg))), .second, .unset, .unset, .unset, .unset, .unset] [(.double (own_rec gg ss cc)), (.double (0 : UInt64))])) _
          refine own_dcmp X14.here hx rfl (hb hby at_144) rfl ?_
          show Steps p.tables e below (T14.setTop (mkF m 145 #[.val (.int p1), .val (.int p2), .val (.int p3), .val (.int p4), .val (.int gg), .val (.int ss), .val (.int mn), .val (.int cc), .val (.ref b10), .val (.double (own_rec gg ss cc)), .second, .val (.double (FP.ddiv (FP.i2d cc) (FP.i2d gg))), .second, .unset, .unset, .unset, .unset, .unset] [(.int (cmpValue (FP.dcmp (0 : UInt64) (own_rec gg ss cc)) .g))])) _
          refine XS.ifNo X14.here hx rfl (hb hby at_145) rfl ((if0 _ _).trans (flt ((by rw [Own.cv_eq k3] <;> decide) : ¬ ((0 : Int32) < (cmpValue (FP.dcmp (0 : UInt64) (own_rec gg ss cc)) .g)))).2.2.1) ?_
          show Steps p.tables e below (T14.setTop (mkF m 148 #[.val (.int p1), .val (.int p2), .val (.int p3), .val (.int p4), .val (.int gg), .val (.int ss), .val (.int mn), .val (.int cc), .val (.ref b10), .val (.double (own_rec gg ss cc)), .second, .val (.double (FP.ddiv (FP.i2d cc) (FP.i2d gg))), .second, .unset, .unset, .unset, .unset, .unset] [])) _
          refine own_dload X14.here hx rfl (hb hby at_148) rfl ?_
          show Steps p.tables e below (T14.setTop (mkF m 150 #[.val (.int p1), .val (.int p2), .val (.int p3), .val (.int p4), .val (.int gg), .val (.int ss), .val (.int mn), .val (.int cc), .val (.ref b10), .val (.double (own_rec gg ss cc)), .second, .val (.double (FP.ddiv (FP.i2d cc) (FP.i2d gg))), .second, .unset, .unset, .unset, .unset, .unset] [(.double (own_rec gg ss cc))])) _
          refine own_dconst1 X14.here hx rfl (hb hby at_150) ?_
          show Steps p.tables e below (T14.setTop (mkF m 151 #[.val (.int p1), .val (.int p2), .val (.int p3), .val (.int p4), .val (.int gg), .val (.int ss), .val (.int mn), .val (.int cc), .val (.ref b10), .val (.double (own_rec gg ss cc)), .second, .val (.double (FP.ddiv (FP.i2d cc) (FP.i2d gg))), .second, .unset, .unset, .unset, .unset, .unset] [(.double (4607182418800017408 : UInt64)), (.double (own_rec gg ss cc))])) _
          refine own_dcmp X14.here hx rfl (hb hby at_151) rfl ?_
          show Steps p.tables e below (T14.setTop (mkF m 152 #[.val (.int p1), .val (.int p2), .val (.int p3), .val (.int p4), .val (.int gg), .val (.int ss), .val (.int mn), .val (.int cc), .val (.ref b10), .val (.double (own_rec gg ss cc)), .second, .val (.double (FP.ddiv (FP.i2d cc) (FP.i2d gg))), .second, .unset, .unset, .unset, .unset, .unset] [(.int (cmpValue (FP.dcmp (own_rec gg ss cc) (4607182418800017408 : UInt64)) .g))])) _
          refine XS.ifNo X14.here hx rfl (hb hby at_152) rfl ((if0 _ _).trans (flt ((by rw [Own.cv_lt k1] <;> decide) : ¬ ((0 : Int32) < (cmpValue (FP.dcmp (own_rec gg ss cc) (4607182418800017408 : UInt64)) .g)))).2.2.1) ?_
          show Steps p.tables e below (T14.setTop (mkF m 155 #[.val (.int p1), .val (.int p2), .val (.int p3), .val (.int p4), .val (.int gg), .val (.int ss), .val (.int mn), .val (.int cc), .val (.ref b10), .val (.double (own_rec gg ss cc)), .second, .val (.double (FP.ddiv (FP.i2d cc) (FP.i2d gg))), .second, .unset, .unset, .unset, .unset, .unset] [])) _
          refine XS.iconst X14.here hx rfl (hb hby at_155) ?_
          show Steps p.tables e below (T14.setTop (mkF m 156 #[.val (.int p1), .val (.int p2), .val (.int p3), .val (.int p4), .val (.int gg), .val (.int ss), .val (.int mn), .val (.int cc), .val (.ref b10), .val (.double (own_rec gg ss cc)), .second, .val (.double (FP.ddiv (FP.i2d cc) (FP.i2d gg))), .second, .unset, .unset, .unset, .unset, .unset] [(.int (1 : Int32))])) _
          refine XS.goto X14.here hx rfl (pc0 := 156) (pc' := 160) rfl (hb hby at_156) (by decide) (by decide) ?_
          show Steps p.tables e below (T14.setTop (mkF m 160 #[.val (.int p1), .val (.int p2), .val (.int p3), .val (.int p4), .val (.int gg), .val (.int ss), .val (.int mn), .val (.int cc), .val (.ref b10), .val (.double (own_rec gg ss cc)), .second, .val (.double (FP.ddiv (FP.i2d cc) (FP.i2d gg))), .second, .unset, .unset, .unset, .unset, .unset] [(.int (1 : Int32))])) _
          refine XS.istore X14.here hx rfl (hb hby at_160) rfl (l' := #[.val (.int p1), .val (.int p2), .val (.int p3), .val (.int p4), .val (.int gg), .val (.int ss), .val (.int mn), .val (.int cc), .val (.ref b10), .val (.double (own_rec gg ss cc)), .second, .val (.double (FP.ddiv (FP.i2d cc) (FP.i2d gg))), .second, .val (.int (1 : Int32)), .unset, .unset, .unset, .unset]) rfl ?_
          show Steps p.tables e below (T14.setTop (mkF m 162 #[.val (.int p1), .val (.int p2), .val (.int p3), .val (.int p4), .val (.int gg), .val (.int ss), .val (.int mn), .val (.int cc), .val (.ref b10), .val (.double (own_rec gg ss cc)), .second, .val (.double (FP.ddiv (FP.i2d cc) (FP.i2d gg))), .second, .val (.int (1 : Int32)), .unset, .unset, .unset, .unset] [])) _
          refine own_dload X14.here hx rfl (hb hby at_162) rfl ?_
          show Steps p.tables e below (T14.setTop (mkF m 164 #[.val (.int p1), .val (.int p2), .val (.int p3), .val (.int p4), .val (.int gg), .val (.int ss), .val (.int mn), .val (.int cc), .val (.ref b10), .val (.double (own_rec gg ss cc)), .second, .val (.double (FP.ddiv (FP.i2d cc) (FP.i2d gg))), .second, .val (.int (1 : Int32)), .unset, .unset, .unset, .unset] [(.double (own_rec gg ss cc))])) _
          refine own_dconst1 X14.here hx rfl (hb hby at_164) ?_
          show Steps p.tables e below (T14.setTop (mkF m 165 #[.val (.int p1), .val (.int p2), .val (.int p3), .val (.int p4), .val (.int gg), .val (.int ss), .val (.int mn), .val (.int cc), .val (.ref b10), .val (.double (own_rec gg ss cc)), .second, .val (.double (FP.ddiv (FP.i2d cc) (FP.i2d gg))), .second, .val (.int (1 : Int32)), .unset, .unset, .unset, .unset] [(.double (4607182418800017408 : UInt64)), (.double (own_rec gg ss cc))])) _
          refine own_dcmp X14.here hx rfl (hb hby at_165) rfl ?_
          show Steps p.tables e below (T14.setTop (mkF m 166 #[.val (.int p1), .val (.int p2), .val (.int p3), .val (.int p4), .val (.int gg), .val (.int ss), .val (.int mn), .val (.int cc), .val (.ref b10), .val (.double (own_rec gg ss cc)), .second, .val (.double (FP.ddiv (FP.i2d cc) (FP.i2d gg))), .second, .val (.int (1 : Int32)), .unset, .unset, .unset, .unset] [(.int (cmpValue (FP.dcmp (own_rec gg ss cc) (4607182418800017408 : UInt64)) .l))])) _
          refine XS.ifYes X14.here hx rfl (pc0 := 166) (pc' := 173) rfl (hb hby at_166) rfl ((if0 _ _).trans (feq ((by rw [Own.cv_lt k1] <;> decide) : ¬ ((cmpValue (FP.dcmp (own_rec gg ss cc) (4607182418800017408 : UInt64)) .l) = (0 : Int32)))).2) (by decide) (by decide) ?_
          show Steps p.tables e below (T14.setTop (mkF m 173 #[.val (.int p1), .val (.int p2), .val (.int p3), .val (.int p4), .val (.int gg), .val (.int ss), .val (.int mn), .val (.int cc), .val (.ref b10), .val (.double (own_rec gg ss cc)), .second, .val (.double (FP.ddiv (FP.i2d cc) (FP.i2d gg))), .second, .val (.int (1 : Int32)), .unset, .unset, .unset, .unset] [])) _
          refine XS.iconst X14.here hx rfl (hb hby at_173) ?_
          show Steps p.tables e below (T14.setTop (mkF m 174 #[.val (.int p1), .val (.int p2), .val (.int p3), .val (.int p4), .val (.int gg), .val (.int ss), .val (.int mn), .val (.int cc), .val (.ref b10), .val (.double (own_rec gg ss cc)), .second, .val (.double (FP.ddiv (FP.i2d cc) (FP.i2d gg))), .second, .val (.int (1 : Int32)), .unset, .unset, .unset, .unset] [(.int (0 : Int32))])) _
          refine XS.iload X14.here hx rfl (hb hby at_174) rfl ?_
          show Steps p.tables e below (T14.setTop (mkF m 176 #[.val (.int p1), .val (.int p2), .val (.int p3), .val (.int p4), .val (.int gg), .val (.int ss), .val (.int mn), .val (.int cc), .val (.ref b10), .val (.double (own_rec gg ss cc)), .second, .val (.double (FP.ddiv (FP.i2d cc) (FP.i2d gg))), .second, .val (.int (1 : Int32)), .unset, .unset, .unset, .unset] [(.int gg), (.int (0 : Int32))])) _
          refine XS.ifYes X14.here hx rfl (pc0 := 176) (pc' := 184) rfl (hb hby at_176) rfl ((if0 _ _).trans (feq (hg : ¬ (gg = (0 : Int32)))).2) (by decide) (by decide) ?_
          show Steps p.tables e below (T14.setTop (mkF m 184 #[.val (.int p1), .val (.int p2), .val (.int p3), .val (.int p4), .val (.int gg), .val (.int ss), .val (.int mn), .val (.int cc), .val (.ref b10), .val (.double (own_rec gg ss cc)), .second, .val (.double (FP.ddiv (FP.i2d cc) (FP.i2d gg))), .second, .val (.int (1 : Int32)), .unset, .unset, .unset, .unset] [(.int (0 : Int32))])) _
          refine XS.iload X14.here hx rfl (hb hby at_184) rfl ?_
          show Steps p.tables e below (T14.setTop (mkF m 186 #[.val (.int p1), .val (.int p2), .val (.int p3), .val (.int p4), .val (.int gg), .val (.int ss), .val (.int mn), .val (.int cc), .val (.ref b10), .val (.double (own_rec gg ss cc)), .second, .val (.double (FP.ddiv (FP.i2d cc) (FP.i2d gg))), .second, .val (.int (1 : Int32)), .unset, .unset, .unset, .unset] [(.int gg), (.int (0 : Int32))])) _
          refine XS.ifNo X14.here hx rfl (hb hby at_186) rfl ((if0 _ _).trans (tlt (hgp : (0 : Int32) < gg)).2.2.2) ?_
          show Steps p.tables e below (T14.setTop (mkF m 189 #[.val (.int p1), .val (.int p2), .val (.int p3), .val (.int p4), .val (.int gg), .val (.int ss), .val (.int mn), .val (.int cc), .val (.ref b10), .val (.double (own_rec gg ss cc)), .second, .val (.double (FP.ddiv (FP.i2d cc) (FP.i2d gg))), .second, .val (.int (1 : Int32)), .unset, .unset, .unset, .unset] [(.int (0 : Int32))])) _
          refine XS.iload X14.here hx rfl (hb hby at_189) rfl ?_
          show Steps p.tables e below (T14.setTop (mkF m 191 #[.val (.int p1), .val (.int p2), .val (.int p3), .val (.int p4), .val (.int gg), .val (.int ss), .val (.int mn), .val (.int cc), .val (.ref b10), .val (.double (own_rec gg ss cc)), .second, .val (.double (FP.ddiv (FP.i2d cc) (FP.i2d gg))), .second, .val (.int (1 : Int32)), .unset, .unset, .unset, .unset] [(.int cc), (.int (0 : Int32))])) _
          refine XS.iload X14.here hx rfl (hb hby at_191) rfl ?_
          show Steps p.tables e below (T14.setTop (mkF m 193 #[.val (.int p1), .val (.int p2), .val (.int p3), .val (.int p4), .val (.int gg), .val (.int ss), .val (.int mn), .val (.int cc), .val (.ref b10), .val (.double (own_rec gg ss cc)), .second, .val (.double (FP.ddiv (FP.i2d cc) (FP.i2d gg))), .second, .val (.int (1 : Int32)), .unset, .unset, .unset, .unset] [(.int gg), (.int cc), (.int (0 : Int32))])) _
          refine XS.icmpYes X14.here hx rfl (pc0 := 193) (pc' := 200) rfl (hb hby at_193) rfl (feq (hcg : ¬ (cc = gg))).2 (by decide) (by decide) ?_
          show Steps p.tables e below (T14.setTop (mkF m 200 #[.val (.int p1), .val (.int p2), .val (.int p3), .val (.int p4), .val (.int gg), .val (.int ss), .val (.int mn), .val (.int cc), .val (.ref b10), .val (.double (own_rec gg ss cc)), .second, .val (.double (FP.ddiv (FP.i2d cc) (FP.i2d gg))), .second, .val (.int (1 : Int32)), .unset, .unset, .unset, .unset] [(.int (0 : Int32))])) _
          refine XS.iconst X14.here hx rfl (hb hby at_200) ?_
          show Steps p.tables e below (T14.setTop (mkF m 201 #[.val (.int p1), .val (.int p2), .val (.int p3), .val (.int p4), .val (.int gg), .val (.int ss), .val (.int mn), .val (.int cc), .val (.ref b10), .val (.double (own_rec gg ss cc)), .second, .val (.double (FP.ddiv (FP.i2d cc) (FP.i2d gg))), .second, .val (.int (1 : Int32)), .unset, .unset, .unset, .unset] [(.int (0 : Int32)), (.int (0 : Int32))])) _
          refine XS.icmpNo X14.here hx rfl (hb hby at_201) rfl (teq (by decide : (0 : Int32) = (0 : Int32))).2 ?_
          show Steps p.tables e below (T14.setTop (mkF m 204 #[.val (.int p1), .val (.int p2), .val (.int p3), .val (.int p4), .val (.int gg), .val (.int ss), .val (.int mn), .val (.int cc), .val (.ref b10), .val (.double (own_rec gg ss cc)), .second, .val (.double (FP.ddiv (FP.i2d cc) (FP.i2d gg))), .second, .val (.int (1 : Int32)), .unset, .unset, .unset, .unset] [])) _
          refine XS.iconst X14.here hx rfl (hb hby at_204) ?_
          show Steps p.tables e below (T14.setTop (mkF m 205 #[.val (.int p1), .val (.int p2), .val (.int p3), .val (.int p4), .val (.int gg), .val (.int ss), .val (.int mn), .val (.int cc), .val (.ref b10), .val (.double (own_rec gg ss cc)), .second, .val (.double (FP.ddiv (FP.i2d cc) (FP.i2d gg))), .second, .val (.int (1 : Int32)), .unset, .unset, .unset, .unset] [(.int (1 : Int32))])) _
          refine XS.goto X14.here hx rfl (pc0 := 205) (pc' := 209) rfl (hb hby at_205) (by decide) (by decide) ?_
          show Steps p.tables e below (T14.setTop (mkF m 209 #[.val (.int p1), .val (.int p2), .val (.int p3), .val (.int p4), .val (.int gg), .val (.int ss), .val (.int mn), .val (.int cc), .val (.ref b10), .val (.double (own_rec gg ss cc)), .second, .val (.double (FP.ddiv (FP.i2d cc) (FP.i2d gg))), .second, .val (.int (1 : Int32)), .unset, .unset, .unset, .unset] [(.int (1 : Int32))])) _
          refine XS.istore X14.here hx rfl (hb hby at_209) rfl (l' := #[.val (.int p1), .val (.int p2), .val (.int p3), .val (.int p4), .val (.int gg), .val (.int ss), .val (.int mn), .val (.int cc), .val (.ref b10), .val (.double (own_rec gg ss cc)), .second, .val (.double (FP.ddiv (FP.i2d cc) (FP.i2d gg))), .second, .val (.int (1 : Int32)), .val (.int (1 : Int32)), .unset, .unset, .unset]) rfl ?_
          show Steps p.tables e below (T14.setTop (mkF m 211 #[.val (.int p1), .val (.int p2), .val (.int p3), .val (.int p4), .val (.int gg), .val (.int ss), .val (.int mn), .val (.int cc), .val (.ref b10), .val (.double (own_rec gg ss cc)), .second, .val (.double (FP.ddiv (FP.i2d cc) (FP.i2d gg))), .second, .val (.int (1 : Int32)), .val (.int (1 : Int32)), .unset, .unset, .unset] [])) _
          refine own_dload X14.here hx rfl (hb hby at_211) rfl ?_
          show Steps p.tables e below (T14.setTop (mkF m 213 #[.val (.int p1), .val (.int p2), .val (.int p3), .val (.int p4), .val (.int gg), .val (.int ss), .val (.int mn), .val (.int cc), .val (.ref b10), .val (.double (own_rec gg ss cc)), .second, .val (.double (FP.ddiv (FP.i2d cc) (FP.i2d gg))), .second, .val (.int (1 : Int32)), .val (.int (1 : Int32)), .unset, .unset, .unset] [(.double (own_rec gg ss cc))])) _
          refine own_dconst0 X14.here hx rfl (hb hby at_213) ?_
          show Steps p.tables e below (T14.setTop (mkF m 214 #[.val (.int p1), .val (.int p2), .val (.int p3), .val (.int p4), .val (.int gg), .val (.int ss), .val (.int mn), .val (.int cc), .val (.ref b10), .val (.double (own_rec gg ss cc)), .second, .val (.double (FP.ddiv (FP.i2d cc) (FP.i2d gg))), .second, .val (.int (1 : Int32)), .val (.int (1 : Int32)), .unset, .unset, .unset] [(.double (0 : UInt64)), (.double (own_rec gg ss cc))])) _
          refine own_dcmp X14.here hx rfl (hb hby at_214) rfl ?_
          show Steps p.tables e below (T14.setTop (mkF m 215 #[.val (.int p1), .val (.int p2), .val (.int p3), .val (.int p4), .val (.int gg), .val (.int ss), .val (.int mn), .val (.int cc), .val (.ref b10), .val (.double (own_rec gg ss cc)), .second, .val (.double (FP.ddiv (FP.i2d cc) (FP.i2d gg))), .second, .val (.int (1 : Int32)), .val (.int (1 : Int32)), .unset, .unset, .unset] [(.int (cmpValue (FP.dcmp (own_rec gg ss cc) (0 : UInt64)) .l))])) _
          refine XS.ifNo X14.here hx rfl (hb hby at_215) rfl ((if0 _ _).trans (teq ((by rw [Own.cv_eq k4] <;> decide) : (cmpValue (FP.dcmp (own_rec gg ss cc) (0 : UInt64)) .l) = (0 : Int32))).2) ?_
          show Steps p.tables e below (T14.setTop (mkF m 218 #[.val (.int p1), .val (.int p2), .val (.int p3), .val (.int p4), .val (.int gg), .val (.int ss), .val (.int mn), .val (.int cc), .val (.ref b10), .val (.double (own_rec gg ss cc)), .second, .val (.double (FP.ddiv (FP.i2d cc) (FP.i2d gg))), .second, .val (.int (1 : Int32)), .val (.int (1 : Int32)), .unset, .unset, .unset] [])) _
          refine XS.iconst X14.here hx rfl (hb hby at_218) ?_
          show Steps p.tables e below (T14.setTop (mkF m 219 #[.val (.int p1), .val (.int p2), .val (.int p3), .val (.int p4), .val (.int gg), .val (.int ss), .val (.int mn), .val (.int cc), .val (.ref b10), .val (.double (own_rec gg ss cc)), .second, .val (.double (FP.ddiv (FP.i2d cc) (FP.i2d gg))), .second, .val (.int (1 : Int32)), .val (.int (1 : Int32)), .unset, .unset, .unset] [(.int (1 : Int32))])) _
          refine XS.goto X14.here hx rfl (pc0 := 219) (pc' := 223) rfl (hb hby at_219) (by decide) (by decide) ?_
          show Steps p.tables e below (T14.setTop (mkF m 223 #[.val (.int p1), .val (.int p2), .val (.int p3), .val (.int p4), .val (.int gg), .val (.int ss), .val (.int mn), .val (.int cc), .val (.ref b10), .val (.double (own_rec gg ss cc)), .second, .val (.double (FP.ddiv (FP.i2d cc) (FP.i2d gg))), .second, .val (.int (1 : Int32)), .val (.int (1 : Int32)), .unset, .unset, .unset] [(.int (1 : Int32))])) _
          refine XS.iload X14.here hx rfl (hb hby at_223) rfl ?_
          show Steps p.tables e below (T14.setTop (mkF m 225 #[.val (.int p1), .val (.int p2), .val (.int p3), .val (.int p4), .val (.int gg), .val (.int ss), .val (.int mn), .val (.int cc), .val (.ref b10), .val (.double (own_rec gg ss cc)), .second, .val (.double (FP.ddiv (FP.i2d cc) (FP.i2d gg))), .second, .val (.int (1 : Int32)), .val (.int (1 : Int32)), .unset, .unset, .unset] [(.int gg), (.int (1 : Int32))])) _
          refine XS.ifYes X14.here hx rfl (pc0 := 225) (pc' := 233) rfl (hb hby at_225) rfl ((if0 _ _).trans (feq (hg : ¬ (gg = (0 : Int32)))).2) (by decide) (by decide) ?_
          show Steps p.tables e below (T14.setTop (mkF m 233 #[.val (.int p1), .val (.int p2), .val (.int p3), .val (.int p4), .val (.int gg), .val (.int ss), .val (.int mn), .val (.int cc), .val (.ref b10), .val (.double (own_rec gg ss cc)), .second, .val (.double (FP.ddiv (FP.i2d cc) (FP.i2d gg))), .second, .val (.int (1 : Int32)), .val (.int (1 : Int32)), .unset, .unset, .unset] [(.int (1 : Int32))])) _
          refine XS.iload X14.here hx rfl (hb hby at_233) rfl ?_
          show Steps p.tables e below (T14.setTop (mkF m 235 #[.val (.int p1), .val (.int p2), .val (.int p3), .val (.int p4), .val (.int gg), .val (.int ss), .val (.int mn), .val (.int cc), .val (.ref b10), .val (.double (own_rec gg ss cc)), .second, .val (.double (FP.ddiv (FP.i2d cc) (FP.i2d gg))), .second, .val (.int (1 : Int32)), .val (.int (1 : Int32)), .unset, .unset, .unset] [(.int gg), (.int (1 : Int32))])) _
          refine XS.ifNo X14.here hx rfl (hb hby at_235) rfl ((if0 _ _).trans (tlt (hgp : (0 : Int32) < gg)).2.2.2) ?_
          show Steps p.tables e below (T14.setTop (mkF m 238 #[.val (.int p1), .val (.int p2), .val (.int p3), .val (.int p4), .val (.int gg), .val (.int ss), .val (.int mn), .val (.int cc), .val (.ref b10), .val (.double (own_rec gg ss cc)), .second, .val (.double (FP.ddiv (FP.i2d cc) (FP.i2d gg))), .second, .val (.int (1 : Int32)), .val (.int (1 : Int32)), .unset, .unset, .unset] [(.int (1 : Int32))])) _
          refine XS.iload X14.here hx rfl (hb hby at_238) rfl ?_
          show Steps p.tables e below (T14.setTop (mkF m 240 #[.val (.int p1), .val (.int p2), .val (.int p3), .val (.int p4), .val (.int gg), .val (.int ss), .val (.int mn), .val (.int cc), .val (.ref b10), .val (.double (own_rec gg ss cc)), .second, .val (.double (FP.ddiv (FP.i2d cc) (FP.i2d gg))), .second, .val (.int (1 : Int32)), .val (.int (1 : Int32)), .unset, .unset, .unset] [(.int cc), (.int (1 : Int32))])) _
          refine XS.ifNo X14.here hx rfl (hb hby at_240) rfl ((if0 _ _).trans (teq (hc0 : cc = (0 : Int32))).2) ?_
          show Steps p.tables e below (T14.setTop (mkF m 243 #[.val (.int p1), .val (.int p2), .val (.int p3), .val (.int p4), .val (.int gg), .val (.int ss), .val (.int mn), .val (.int cc), .val (.ref b10), .val (.double (own_rec gg ss cc)), .second, .val (.double (FP.ddiv (FP.i2d cc) (FP.i2d gg))), .second, .val (.int (1 : Int32)), .val (.int (1 : Int32)), .unset, .unset, .unset] [(.int (1 : Int32))])) _
          refine XS.iconst X14.here hx rfl (hb hby at_243) ?_
          show Steps p.tables e below (T14.setTop (mkF m 244 #[.val (.int p1), .val (.int p2), .val (.int p3), .val (.int p4), .val (.int gg), .val (.int ss), .val (.int mn), .val (.int cc), .val (.ref b10), .val (.double (own_rec gg ss cc)), .second, .val (.double (FP.ddiv (FP.i2d cc) (FP.i2d gg))), .second, .val (.int (1 : Int32)), .val (.int (1 : Int32)), .unset, .unset, .unset] [(.int (1 : Int32)), (.int (1 : Int32))])) _
          refine XS.goto X14.here hx rfl (pc0 := 244) (pc' := 248) rfl (hb hby at_244) (by decide) (by decide) ?_
          show Steps p.tables e below (T14.setTop (mkF m 248 #[.val (.int p1), .val (.int p2), .val (.int p3), .val (.int p4), .val (.int gg), .val (.int ss), .val (.int mn), .val (.int cc), .val (.ref b10), .val (.double (own_rec gg ss cc)), .second, .val (.double (FP.ddiv (FP.i2d cc) (FP.i2d gg))), .second, .val (.int (1 : Int32)), .val (.int (1 : Int32)), .unset, .unset, .unset] [(.int (1 : Int32)), (.int (1 : Int32))])) _
          refine XS.icmpNo X14.here hx rfl (hb hby at_248) rfl (teq (by decide : (1 : Int32) = (1 : Int32))).2 ?_
          show Steps p.tables e below (T14.setTop (mkF m 251 #[.val (.int p1), .val (.int p2), .val (.int p3), .val (.int p4), .val (.int gg), .val (.int ss), .val (.int mn), .val (.int cc), .val (.ref b10), .val (.double (own_rec gg ss cc)), .second, .val (.double (FP.ddiv (FP.i2d cc) (FP.i2d gg))), .second, .val (.int (1 : Int32)), .val (.int (1 : Int32)), .unset, .unset, .unset] [])) _
          refine XS.iconst X14.here hx rfl (hb hby at_251) ?_
          show Steps p.tables e below (T14.setTop (mkF m 252 #[.val (.int p1), .val (.int p2), .val (.int p3), .val (.int p4), .val (.int gg), .val (.int ss), .val (.int mn), .val (.int cc), .val (.ref b10), .val (.double (own_rec gg ss cc)), .second, .val (.double (FP.ddiv (FP.i2d cc) (FP.i2d gg))), .second, .val (.int (1 : Int32)), .val (.int (1 : Int32)), .unset, .unset, .unset] [(.int (1 : Int32))])) _
          refine XS.goto X14.here hx rfl (pc0 := 252) (pc' := 256) rfl (hb hby at_252) (by decide) (by decide) ?_
          show Steps p.tables e below (T14.setTop (mkF m 256 #[.val (.int p1), .val (.int p2), .val (.int p3), .val (.int p4), .val (.int gg), .val (.int ss), .val (.int mn), .val (.int cc), .val (.ref b10), .val (.double (own_rec gg ss cc)), .second, .val (.double (FP.ddiv (FP.i2d cc) (FP.i2d gg))), .second, .val (.int (1 : Int32)), .val (.int (1 : Int32)), .unset, .unset, .unset] [(.int (1 : Int32))])) _
          refine XS.istore X14.here hx rfl (hb hby at_256) rfl (l' := #[.val (.int p1), .val (.int p2), .val (.int p3), .val (.int p4), .val (.int gg), .val (.int ss), .val (.int mn), .val (.int cc), .val (.ref b10), .val (.double (own_rec gg ss cc)), .second, .val (.double (FP.ddiv (FP.i2d cc) (FP.i2d gg))), .second, .val (.int (1 : Int32)), .val (.int (1 : Int32)), .val (.int (1 : Int32)), .unset, .unset]) rfl ?_
          exact kt
        refine Go.adv sg37 ?_
        obtain ⟨T38, h38, X38, e38, E38, A38, D38, -, st38⟩ := newO X14 hx hZ hown (hw _ (List.mem_of_getElem? (i := 5) rfl)) (hw _ (List.mem_of_getElem? (i := 6) rfl)) (hw _ (List.mem_of_getElem? (i := 7) rfl)) e14 (g := (mkF m 258 #[.val (.int p1), .val (.int p2), .val (.int p3), .val (.int p4), .val (.int gg), .val (.int ss), .val (.int mn), .val (.int cc), .val (.ref b10), .val (.double (own_rec gg ss cc)), .second, .val (.double (FP.ddiv (FP.i2d cc) (FP.i2d gg))), .second, .val (.int (1 : Int32)), .val (.int (1 : Int32)), .val (.int (1 : Int32)), .unset, .unset] [])) rfl (hb hby at_258) (by decide) (by decide)
        obtain ⟨b38, gb38⟩ : ∃ z, z = T12.heap.size := ⟨_, rfl⟩
        rw [← gb38] at A38 D38 st38
        have g_b38 : n0 ≤ b38 := Nat.le_trans Z12 (Nat.le_of_eq gb38.symm)
        have sz_b38 : h0.size ≤ b38 := Nat.le_trans K12.1 (Nat.le_of_eq gb38.symm)
        have ne_b10_b38 : b10 ≠ b38 := Nat.ne_of_lt (Nat.lt_of_lt_of_le p12_0.lt (Nat.le_of_eq gb38.symm))
        have K38 : Keep h0 h38 [] := K12.ext E38
        have Z38 : n0 ≤ h38.size := Nat.le_trans Z12 E38.1
        have F_gold_b38 : Fld Z h38 b38 "com/example/tally/tally/score/QuestionScore" "gold" "I" (.int (0 : Int32)) := D38 (Or.inr (hw _ (List.mem_of_getElem? (i := 20) rfl))) (ty := .int) (by decide)
        have F_system_b38 : Fld Z h38 b38 "com/example/tally/tally/score/QuestionScore" "system" "I" (.int (0 : Int32)) := D38 (Or.inr (hw _ (List.mem_of_getElem? (i := 22) rfl))) (ty := .int) (by decide)
        have F_correct_b38 : Fld Z h38 b38 "com/example/tally/tally/score/QuestionScore" "correct" "I" (.int (0 : Int32)) := D38 (Or.inr (hw _ (List.mem_of_getElem? (i := 24) rfl))) (ty := .int) (by decide)
        refine Go.adv st38 ?_
        show Go p.tables e below s _ _ _ (T38.setTop (mkF m 261 #[.val (.int p1), .val (.int p2), .val (.int p3), .val (.int p4), .val (.int gg), .val (.int ss), .val (.int mn), .val (.int cc), .val (.ref b10), .val (.double (own_rec gg ss cc)), .second, .val (.double (FP.ddiv (FP.i2d cc) (FP.i2d gg))), .second, .val (.int (1 : Int32)), .val (.int (1 : Int32)), .val (.int (1 : Int32)), .unset, .unset] [(.ref b38)]))
        have sg39 : ∀ t, Steps p.tables e below (T38.setTop (mkF m 268 #[.val (.int p1), .val (.int p2), .val (.int p3), .val (.int p4), .val (.int gg), .val (.int ss), .val (.int mn), .val (.int cc), .val (.ref b10), .val (.double (own_rec gg ss cc)), .second, .val (.double (FP.ddiv (FP.i2d cc) (FP.i2d gg))), .second, .val (.int (1 : Int32)), .val (.int (1 : Int32)), .val (.int (1 : Int32)), .unset, .unset] [(.int cc), (.int gg), (.int ss), (.ref b38), (.ref b38)])) t → Steps p.tables e below (T38.setTop (mkF m 261 #[.val (.int p1), .val (.int p2), .val (.int p3), .val (.int p4), .val (.int gg), .val (.int ss), .val (.int mn), .val (.int cc), .val (.ref b10), .val (.double (own_rec gg ss cc)), .second, .val (.double (FP.ddiv (FP.i2d cc) (FP.i2d gg))), .second, .val (.int (1 : Int32)), .val (.int (1 : Int32)), .val (.int (1 : Int32)), .unset, .unset] [(.ref b38)])) t := by
          intro t kt
          show Steps p.tables e below (T38.setTop (mkF m 261 #[.val (.int p1), .val (.int p2), .val (.int p3), .val (.int p4), .val (.int gg), .val (.int ss), .val (.int mn), .val (.int cc), .val (.ref b10), .val (.double (own_rec gg ss cc)), .second, .val (.double (FP.ddiv (FP.i2d cc) (FP.i2d gg))), .second, .val (.int (1 : Int32)), .val (.int (1 : Int32)), .val (.int (1 : Int32)), .unset, .unset] [(.ref b38)])) _
          refine XS.dup X38.here hx rfl (hb hby at_261) rfl rfl ?_
          show Steps p.tables e below (T38.setTop (mkF m 262 #[.val (.int p1), .val (.int p2), .val (.int p3), .val (.int p4), .val (.int gg), .val (.int ss), .val (.int mn), .val (.int cc), .val (.ref b10), .val (.double (own_rec gg ss cc)), .second, .val (.double (FP.ddiv (FP.i2d cc) (FP.i2d gg))), .second, .val (.int (1 : Int32)), .val (.int (1 : Int32)), .val (.int (1 : Int32)), .unset, .unset] [(.ref b38), (.ref b38)])) _
          refine XS.iload X38.here hx rfl (hb hby at_262) rfl ?_
          show Steps p.tables e below (T38.setTop (mkF m 264 #[.val (.int p1), .val (.int p2), .val (.int p3), .val (.int p4), .val (.int gg), .val (.int ss), .val (.int mn), .val (.int cc), .val (.ref b10), .val (.double (own_rec gg ss cc)), .second, .val (.double (FP.ddiv (FP.i2d cc) (FP.i2d gg))), .second, .val (.int (1 : Int32)), .val (.int (1 : Int32)), .val (.int (1 : Int32)), .unset, .unset] [(.int ss), (.ref b38), (.ref b38)])) _
          refine XS.iload X38.here hx rfl (hb hby at_264) rfl ?_
          show Steps p.tables e below (T38.setTop (mkF m 266 #[.val (.int p1), .val (.int p2), .val (.int p3), .val (.int p4), .val (.int gg), .val (.int ss), .val (.int mn), .val (.int cc), .val (.ref b10), .val (.double (own_rec gg ss cc)), .second, .val (.double (FP.ddiv (FP.i2d cc) (FP.i2d gg))), .second, .val (.int (1 : Int32)), .val (.int (1 : Int32)), .val (.int (1 : Int32)), .unset, .unset] [(.int gg), (.int ss), (.ref b38), (.ref b38)])) _
          refine XS.iload X38.here hx rfl (hb hby at_266) rfl ?_
          exact kt
        refine Go.adv sg39 ?_
        obtain ⟨_, _, ⟨T40, L40, k40, n40⟩, -, X40, ⟨Lc40, hQ40, l40, y40, z40⟩, st40⟩ := X38.specialBack hx (y := (⟨"com/example/tally/tally/score/QuestionScore", "<init>", "(III)V"⟩ : MethodName)) rfl hown (mvT hZ (hw _ (List.mem_of_getElem? (i := 8) rfl))) (mvT hZ (hw _ (List.mem_of_getElem? (i := 9) rfl))) (mvT hZ (hw _ (List.mem_of_getElem? (i := 10) rfl))) (by decide) (backOf (W := 1) (rm_init l Z a0 hw [] b38 ss gg cc (.int (0 : Int32)) (.int (0 : Int32)) (.int (0 : Int32)) h38 n0 Z38 A38 g_b38 F_gold_b38 F_system_b38 F_correct_b38 (by assumption)) hZ (hw _ (List.mem_of_getElem? (i := 10) rfl)) (hw _ (List.mem_of_getElem? (i := 7) rfl)) (by decide) (by decide)) (g := (mkF m 268 #[.val (.int p1), .val (.int p2), .val (.int p3), .val (.int p4), .val (.int gg), .val (.int ss), .val (.int mn), .val (.int cc), .val (.ref b10), .val (.double (own_rec gg ss cc)), .second, .val (.double (FP.ddiv (FP.i2d cc) (FP.i2d gg))), .second, .val (.int (1 : Int32)), .val (.int (1 : Int32)), .val (.int (1 : Int32)), .unset, .unset] [(.int cc), (.int gg), (.int ss), (.ref b38), (.ref b38)])) rfl (by rw [hml]; rfl) (Steps.refl _) (a := b38) (argsL := [(.int ss), (.int gg), (.int cc)]) (rest := [(.ref b38)]) (lenOf pd_oIIIcV rfl) rfl (by show 2 * 0 + _ ≤ _; exact Nat.le_of_eq rfl) (hb hby at_268) (fun _ _ => ⟨rfl, e38, (by decide : 2 + 0 ≤ _), (by decide : 6 + 0 ≤ _)⟩)
        dsimp only [Pt.U, Pt.locs, Pt.cells, Pt.slots] at X40 l40 y40 z40 st40 hQ40
        subst l40 y40 z40
        obtain ⟨rfl, N40q, Kc40, p40_0, p40_1, p40_2, p40_3⟩ := hQ40
        have N40 := Fr.app N14 N40q
        have K40 : Keep h0 T40.heap [] := K38.trans Kc40 (allS (Or.inr sz_b38) all0)
        have Z40 : n0 ≤ T40.heap.size := Nat.le_trans Z38 Kc40.1
        refine Go.tr st40 ?_
        show Go p.tables e below s _ _ _ (T40.setTop (mkF m 271 #[.val (.int p1), .val (.int p2), .val (.int p3), .val (.int p4), .val (.int gg), .val (.int ss), .val (.int mn), .val (.int cc), .val (.ref b10), .val (.double (own_rec gg ss cc)), .second, .val (.double (FP.ddiv (FP.i2d cc) (FP.i2d gg))), .second, .val (.int (1 : Int32)), .val (.int (1 : Int32)), .val (.int (1 : Int32)), .unset, .unset] [(.ref b38)]))
        have sg41 : ∀ t, Steps p.tables e below (T40.setTop (mkF m 275 #[.val (.int p1), .val (.int p2), .val (.int p3), .val (.int p4), .val (.int gg), .val (.int ss), .val (.int mn), .val (.int cc), .val (.ref b10), .val (.double (own_rec gg ss cc)), .second, .val (.double (FP.ddiv (FP.i2d cc) (FP.i2d gg))), .second, .val (.int (1 : Int32)), .val (.int (1 : Int32)), .val (.int (1 : Int32)), .val (.ref b38), .unset] [(.ref b38)])) t → Steps p.tables e below (T40.setTop (mkF m 271 #[.val (.int p1), .val (.int p2), .val (.int p3), .val (.int p4), .val (.int gg), .val (.int ss), .val (.int mn), .val (.int cc), .val (.ref b10), .val (.double (own_rec gg ss cc)), .second, .val (.double (FP.ddiv (FP.i2d cc) (FP.i2d gg))), .second, .val (.int (1 : Int32)), .val (.int (1 : Int32)), .val (.int (1 : Int32)), .unset, .unset] [(.ref b38)])) t := by
          intro t kt
          show Steps p.tables e below (T40.setTop (mkF m 271 #[.val (.int p1), .val (.int p2), .val (.int p3), .val (.int p4), .val (.int gg), .val (.int ss), .val (.int mn), .val (.int cc), .val (.ref b10), .val (.double (own_rec gg ss cc)), .second, .val (.double (FP.ddiv (FP.i2d cc) (FP.i2d gg))), .second, .val (.int (1 : Int32)), .val (.int (1 : Int32)), .val (.int (1 : Int32)), .unset, .unset] [(.ref b38)])) _
          refine XS.astore X40.here hx rfl (hb hby at_271) rfl rfl (l' := #[.val (.int p1), .val (.int p2), .val (.int p3), .val (.int p4), .val (.int gg), .val (.int ss), .val (.int mn), .val (.int cc), .val (.ref b10), .val (.double (own_rec gg ss cc)), .second, .val (.double (FP.ddiv (FP.i2d cc) (FP.i2d gg))), .second, .val (.int (1 : Int32)), .val (.int (1 : Int32)), .val (.int (1 : Int32)), .val (.ref b38), .unset]) rfl ?_
          show Steps p.tables e below (T40.setTop (mkF m 273 #[.val (.int p1), .val (.int p2), .val (.int p3), .val (.int p4), .val (.int gg), .val (.int ss), .val (.int mn), .val (.int cc), .val (.ref b10), .val (.double (own_rec gg ss cc)), .second, .val (.double (FP.ddiv (FP.i2d cc) (FP.i2d gg))), .second, .val (.int (1 : Int32)), .val (.int (1 : Int32)), .val (.int (1 : Int32)), .val (.ref b38), .unset] [])) _
          refine XS.aload X40.here hx rfl (hb hby at_273) rfl rfl ?_
          exact kt
        refine Go.adv sg41 ?_
        obtain ⟨cq42, kq42, q42a, q42b, q42c⟩ := isOf hZ rfl p40_0
        obtain ⟨_, _, ⟨T42, L42, k42, n42⟩, -, X42, ⟨Lc42, hQ42, l42, y42, z42⟩, st42⟩ := X40.virtualBack hx (y := (⟨"com/example/tally/tally/score/QuestionScore", "precision", "()D"⟩ : MethodName)) (z := (⟨"com/example/tally/tally/score/QuestionScore", "precision", "()D"⟩ : MethodName)) hown (mvT hZ (hw _ (List.mem_of_getElem? (i := 30) rfl))) (mvT hZ (hw _ (List.mem_of_getElem? (i := 31) rfl))) (notFace_of_selects (args := #[]) (mvT hZ (hw _ (List.mem_of_getElem? (i := 33) rfl)))) (mvT hZ (hw _ (List.mem_of_getElem? (i := 33) rfl))) (mvT hZ (hw _ (List.mem_of_getElem? (i := 32) rfl))) (by decide) (backOf (W := 0) (rm_precision l Z a0 hw [] b38 ss gg cc T40.heap n0 Z40 p40_1 p40_2 p40_3) hZ (hw _ (List.mem_of_getElem? (i := 34) rfl)) (hw _ (List.mem_of_getElem? (i := 7) rfl)) (by decide) (by decide)) q42a q42c (g := (mkF m 275 #[.val (.int p1), .val (.int p2), .val (.int p3), .val (.int p4), .val (.int gg), .val (.int ss), .val (.int mn), .val (.int cc), .val (.ref b10), .val (.double (own_rec gg ss cc)), .second, .val (.double (FP.ddiv (FP.i2d cc) (FP.i2d gg))), .second, .val (.int (1 : Int32)), .val (.int (1 : Int32)), .val (.int (1 : Int32)), .val (.ref b38), .unset] [(.ref b38)])) rfl (by rw [hml]; rfl) (Steps.refl _) (argsL := []) (rest := []) (lenOf pd_ocD rfl) rfl (by show 2 * 0 + _ ≤ _; exact Nat.le_of_eq rfl) (hb hby at_275) (fun _ _ => ⟨rfl, rfl, (by decide : 2 + 0 ≤ _), (by decide : 6 + 0 ≤ _)⟩)
        dsimp only [Pt.U, Pt.locs, Pt.cells, Pt.slots] at X42 l42 y42 z42 st42 hQ42
        subst l42 y42 z42
        obtain ⟨rfl, N42q, e42⟩ := hQ42
        have N42 := Fr.app N40 N42q
        refine Go.tr st42 ?_
        show Go p.tables e below s _ _ _ (T42.setTop (mkF m 278 #[.val (.int p1), .val (.int p2), .val (.int p3), .val (.int p4), .val (.int gg), .val (.int ss), .val (.int mn), .val (.int cc), .val (.ref b10), .val (.double (own_rec gg ss cc)), .second, .val (.double (FP.ddiv (FP.i2d cc) (FP.i2d gg))), .second, .val (.int (1 : Int32)), .val (.int (1 : Int32)), .val (.int (1 : Int32)), .val (.ref b38), .unset] [(.double (own_prec ss gg cc))]))
        have sg43 : ∀ t, Steps p.tables e below (T42.setTop (mkF m 324 #[.val (.int p1), .val (.int p2), .val (.int p3), .val (.int p4), .val (.int gg), .val (.int ss), .val (.int mn), .val (.int cc), .val (.ref b10), .val (.double (own_rec gg ss cc)), .second, .val (.double (FP.ddiv (FP.i2d cc) (FP.i2d gg))), .second, .val (.int (1 : Int32)), .val (.int (1 : Int32)), .val (.int (1 : Int32)), .val (.ref b38), .val (.int (1 : Int32))] [(.int (1 : Int32))])) t → Steps p.tables e below (T42.setTop (mkF m 278 #[.val (.int p1), .val (.int p2), .val (.int p3), .val (.int p4), .val (.int gg), .val (.int ss), .val (.int mn), .val (.int cc), .val (.ref b10), .val (.double (own_rec gg ss cc)), .second, .val (.double (FP.ddiv (FP.i2d cc) (FP.i2d gg))), .second, .val (.int (1 : Int32)), .val (.int (1 : Int32)), .val (.int (1 : Int32)), .val (.ref b38), .unset] [(.double (own_prec ss gg cc))])) t := by
          intro t kt
          show Steps p.tables e below (T42.setTop (mkF m 278 #[.val (.int p1), .val (.int p2), .val (.int p3), .val (.int p4), .val (.int gg), .val (.int ss), .val (.int mn), .val (.int cc), .val (.ref b10), .val (.double (own_rec gg ss cc)), .second, .val (.double (FP.ddiv (FP.i2d cc) (FP.i2d gg))), .second, .val (.int (1 : Int32)), .val (.int (1 : Int32)), .val (.int (1 : Int32)), .val (.ref b38), .unset] [(.double (own_prec ss gg cc))])) _
          refine own_dload X42.here hx rfl (hb hby at_278) rfl ?_
          show Steps p.tables e below (T42.setTop (mkF m 280 #[.val (.int p1), .val (.int p2), .val (.int p3), .val (.int p4), .val (.int gg), .val (.int ss), .val (.int mn), .val (.int cc), .val (.ref b10), .val (.double (own_rec gg ss cc)), .second, .val (.double (FP.ddiv (FP.i2d cc) (FP.i2d gg))), .second, .val (.int (1 : Int32)), .val (.int (1 : Int32)), .val (.int (1 : Int32)), .val (.ref b38), .unset] [(.double (own_rec gg ss cc)), (.double (own_prec ss gg cc))])) _
          refine own_dcmp X42.here hx rfl (hb hby at_280) rfl ?_
          show Steps p.tables e below (T42.setTop (mkF m 281 #[.val (.int p1), .val (.int p2), .val (.int p3), .val (.int p4), .val (.int gg), .val (.int ss), .val (.int mn), .val (.int cc), .val (.ref b10), .val (.double (own_rec gg ss cc)), .second, .val (.double (FP.ddiv (FP.i2d cc) (FP.i2d gg))), .second, .val (.int (1 : Int32)), .val (.int (1 : Int32)), .val (.int (1 : Int32)), .val (.ref b38), .unset] [(.int (cmpValue (FP.dcmp (own_prec ss gg cc) (own_rec gg ss cc)) .l))])) _
          refine XS.ifNo X42.here hx rfl (hb hby at_281) rfl ((if0 _ _).trans (teq ((by rw [Own.cv_eq k2] <;> decide) : (cmpValue (FP.dcmp (own_prec ss gg cc) (own_rec gg ss cc)) .l) = (0 : Int32))).2) ?_
          show Steps p.tables e below (T42.setTop (mkF m 284 #[.val (.int p1), .val (.int p2), .val (.int p3), .val (.int p4), .val (.int gg), .val (.int ss), .val (.int mn), .val (.int cc), .val (.ref b10), .val (.double (own_rec gg ss cc)), .second, .val (.double (FP.ddiv (FP.i2d cc) (FP.i2d gg))), .second, .val (.int (1 : Int32)), .val (.int (1 : Int32)), .val (.int (1 : Int32)), .val (.ref b38), .unset] [])) _
          refine XS.iconst X42.here hx rfl (hb hby at_284) ?_
          show Steps p.tables e below (T42.setTop (mkF m 285 #[.val (.int p1), .val (.int p2), .val (.int p3), .val (.int p4), .val (.int gg), .val (.int ss), .val (.int mn), .val (.int cc), .val (.ref b10), .val (.double (own_rec gg ss cc)), .second, .val (.double (FP.ddiv (FP.i2d cc) (FP.i2d gg))), .second, .val (.int (1 : Int32)), .val (.int (1 : Int32)), .val (.int (1 : Int32)), .val (.ref b38), .unset] [(.int (1 : Int32))])) _
          refine XS.goto X42.here hx rfl (pc0 := 285) (pc' := 289) rfl (hb hby at_285) (by decide) (by decide) ?_
          show Steps p.tables e below (T42.setTop (mkF m 289 #[.val (.int p1), .val (.int p2), .val (.int p3), .val (.int p4), .val (.int gg), .val (.int ss), .val (.int mn), .val (.int cc), .val (.ref b10), .val (.double (own_rec gg ss cc)), .second, .val (.double (FP.ddiv (FP.i2d cc) (FP.i2d gg))), .second, .val (.int (1 : Int32)), .val (.int (1 : Int32)), .val (.int (1 : Int32)), .val (.ref b38), .unset] [(.int (1 : Int32))])) _
          refine XS.istore X42.here hx rfl (hb hby at_289) rfl (l' := #[.val (.int p1), .val (.int p2), .val (.int p3), .val (.int p4), .val (.int gg), .val (.int ss), .val (.int mn), .val (.int cc), .val (.ref b10), .val (.double (own_rec gg ss cc)), .second, .val (.double (FP.ddiv (FP.i2d cc) (FP.i2d gg))), .second, .val (.int (1 : Int32)), .val (.int (1 : Int32)), .val (.int (1 : Int32)), .val (.ref b38), .val (.int (1 : Int32))]) rfl ?_
          show Steps p.tables e below (T42.setTop (mkF m 291 #[.val (.int p1), .val (.int p2), .val (.int p3), .val (.int p4), .val (.int gg), .val (.int ss), .val (.int mn), .val (.int cc), .val (.ref b10), .val (.double (own_rec gg ss cc)), .second, .val (.double (FP.ddiv (FP.i2d cc) (FP.i2d gg))), .second, .val (.int (1 : Int32)), .val (.int (1 : Int32)), .val (.int (1 : Int32)), .val (.ref b38), .val (.int (1 : Int32))] [])) _
          refine own_dload X42.here hx rfl (hb hby at_291) rfl ?_
          show Steps p.tables e below (T42.setTop (mkF m 293 #[.val (.int p1), .val (.int p2), .val (.int p3), .val (.int p4), .val (.int gg), .val (.int ss), .val (.int mn), .val (.int cc), .val (.ref b10), .val (.double (own_rec gg ss cc)), .second, .val (.double (FP.ddiv (FP.i2d cc) (FP.i2d gg))), .second, .val (.int (1 : Int32)), .val (.int (1 : Int32)), .val (.int (1 : Int32)), .val (.ref b38), .val (.int (1 : Int32))] [(.double (own_rec gg ss cc))])) _
          refine own_dload X42.here hx rfl (hb hby at_293) rfl ?_
          show Steps p.tables e below (T42.setTop (mkF m 295 #[.val (.int p1), .val (.int p2), .val (.int p3), .val (.int p4), .val (.int gg), .val (.int ss), .val (.int mn), .val (.int cc), .val (.ref b10), .val (.double (own_rec gg ss cc)), .second, .val (.double (FP.ddiv (FP.i2d cc) (FP.i2d gg))), .second, .val (.int (1 : Int32)), .val (.int (1 : Int32)), .val (.int (1 : Int32)), .val (.ref b38), .val (.int (1 : Int32))] [(.double (FP.ddiv (FP.i2d cc) (FP.i2d gg))), (.double (own_rec gg ss cc))])) _
          refine own_dcmp X42.here hx rfl (hb hby at_295) rfl ?_
          show Steps p.tables e below (T42.setTop (mkF m 296 #[.val (.int p1), .val (.int p2), .val (.int p3), .val (.int p4), .val (.int gg), .val (.int ss), .val (.int mn), .val (.int cc), .val (.ref b10), .val (.double (own_rec gg ss cc)), .second, .val (.double (FP.ddiv (FP.i2d cc) (FP.i2d gg))), .second, .val (.int (1 : Int32)), .val (.int (1 : Int32)), .val (.int (1 : Int32)), .val (.ref b38), .val (.int (1 : Int32))] [(.int (cmpValue (FP.dcmp (own_rec gg ss cc) (FP.ddiv (FP.i2d cc) (FP.i2d gg))) .l))])) _
          refine XS.ifNo X42.here hx rfl (hb hby at_296) rfl ((if0 _ _).trans (teq ((by rw [Own.cv_eq k5] <;> decide) : (cmpValue (FP.dcmp (own_rec gg ss cc) (FP.ddiv (FP.i2d cc) (FP.i2d gg))) .l) = (0 : Int32))).2) ?_
          show Steps p.tables e below (T42.setTop (mkF m 299 #[.val (.int p1), .val (.int p2), .val (.int p3), .val (.int p4), .val (.int gg), .val (.int ss), .val (.int mn), .val (.int cc), .val (.ref b10), .val (.double (own_rec gg ss cc)), .second, .val (.double (FP.ddiv (FP.i2d cc) (FP.i2d gg))), .second, .val (.int (1 : Int32)), .val (.int (1 : Int32)), .val (.int (1 : Int32)), .val (.ref b38), .val (.int (1 : Int32))] [])) _
          refine XS.iload X42.here hx rfl (hb hby at_299) rfl ?_
          show Steps p.tables e below (T42.setTop (mkF m 301 #[.val (.int p1), .val (.int p2), .val (.int p3), .val (.int p4), .val (.int gg), .val (.int ss), .val (.int mn), .val (.int cc), .val (.ref b10), .val (.double (own_rec gg ss cc)), .second, .val (.double (FP.ddiv (FP.i2d cc) (FP.i2d gg))), .second, .val (.int (1 : Int32)), .val (.int (1 : Int32)), .val (.int (1 : Int32)), .val (.ref b38), .val (.int (1 : Int32))] [(.int (1 : Int32))])) _
          refine XS.ifNo X42.here hx rfl (hb hby at_301) rfl ((if0 _ _).trans (feq (by decide : ¬ ((1 : Int32) = (0 : Int32)))).1) ?_
          show Steps p.tables e below (T42.setTop (mkF m 304 #[.val (.int p1), .val (.int p2), .val (.int p3), .val (.int p4), .val (.int gg), .val (.int ss), .val (.int mn), .val (.int cc), .val (.ref b10), .val (.double (own_rec gg ss cc)), .second, .val (.double (FP.ddiv (FP.i2d cc) (FP.i2d gg))), .second, .val (.int (1 : Int32)), .val (.int (1 : Int32)), .val (.int (1 : Int32)), .val (.ref b38), .val (.int (1 : Int32))] [])) _
          refine XS.iload X42.here hx rfl (hb hby at_304) rfl ?_
          show Steps p.tables e below (T42.setTop (mkF m 306 #[.val (.int p1), .val (.int p2), .val (.int p3), .val (.int p4), .val (.int gg), .val (.int ss), .val (.int mn), .val (.int cc), .val (.ref b10), .val (.double (own_rec gg ss cc)), .second, .val (.double (FP.ddiv (FP.i2d cc) (FP.i2d gg))), .second, .val (.int (1 : Int32)), .val (.int (1 : Int32)), .val (.int (1 : Int32)), .val (.ref b38), .val (.int (1 : Int32))] [(.int (1 : Int32))])) _
          refine XS.ifNo X42.here hx rfl (hb hby at_306) rfl ((if0 _ _).trans (feq (by decide : ¬ ((1 : Int32) = (0 : Int32)))).1) ?_
          show Steps p.tables e below (T42.setTop (mkF m 309 #[.val (.int p1), .val (.int p2), .val (.int p3), .val (.int p4), .val (.int gg), .val (.int ss), .val (.int mn), .val (.int cc), .val (.ref b10), .val (.double (own_rec gg ss cc)), .second, .val (.double (FP.ddiv (FP.i2d cc) (FP.i2d gg))), .second, .val (.int (1 : Int32)), .val (.int (1 : Int32)), .val (.int (1 : Int32)), .val (.ref b38), .val (.int (1 : Int32))] [])) _
          refine XS.iload X42.here hx rfl (hb hby at_309) rfl ?_
          show Steps p.tables e below (T42.setTop (mkF m 311 #[.val (.int p1), .val (.int p2), .val (.int p3), .val (.int p4), .val (.int gg), .val (.int ss), .val (.int mn), .val (.int cc), .val (.ref b10), .val (.double (own_rec gg ss cc)), .second, .val (.double (FP.ddiv (FP.i2d cc) (FP.i2d gg))), .second, .val (.int (1 : Int32)), .val (.int (1 : Int32)), .val (.int (1 : Int32)), .val (.ref b38), .val (.int (1 : Int32))] [(.int (1 : Int32))])) _
          refine XS.ifNo X42.here hx rfl (hb hby at_311) rfl ((if0 _ _).trans (feq (by decide : ¬ ((1 : Int32) = (0 : Int32)))).1) ?_
          show Steps p.tables e below (T42.setTop (mkF m 314 #[.val (.int p1), .val (.int p2), .val (.int p3), .val (.int p4), .val (.int gg), .val (.int ss), .val (.int mn), .val (.int cc), .val (.ref b10), .val (.double (own_rec gg ss cc)), .second, .val (.double (FP.ddiv (FP.i2d cc) (FP.i2d gg))), .second, .val (.int (1 : Int32)), .val (.int (1 : Int32)), .val (.int (1 : Int32)), .val (.ref b38), .val (.int (1 : Int32))] [])) _
          refine XS.iload X42.here hx rfl (hb hby at_314) rfl ?_
          show Steps p.tables e below (T42.setTop (mkF m 316 #[.val (.int p1), .val (.int p2), .val (.int p3), .val (.int p4), .val (.int gg), .val (.int ss), .val (.int mn), .val (.int cc), .val (.ref b10), .val (.double (own_rec gg ss cc)), .second, .val (.double (FP.ddiv (FP.i2d cc) (FP.i2d gg))), .second, .val (.int (1 : Int32)), .val (.int (1 : Int32)), .val (.int (1 : Int32)), .val (.ref b38), .val (.int (1 : Int32))] [(.int (1 : Int32))])) _
          refine XS.ifNo X42.here hx rfl (hb hby at_316) rfl ((if0 _ _).trans (feq (by decide : ¬ ((1 : Int32) = (0 : Int32)))).1) ?_
          show Steps p.tables e below (T42.setTop (mkF m 319 #[.val (.int p1), .val (.int p2), .val (.int p3), .val (.int p4), .val (.int gg), .val (.int ss), .val (.int mn), .val (.int cc), .val (.ref b10), .val (.double (own_rec gg ss cc)), .second, .val (.double (FP.ddiv (FP.i2d cc) (FP.i2d gg))), .second, .val (.int (1 : Int32)), .val (.int (1 : Int32)), .val (.int (1 : Int32)), .val (.ref b38), .val (.int (1 : Int32))] [])) _
          refine XS.iconst X42.here hx rfl (hb hby at_319) ?_
          show Steps p.tables e below (T42.setTop (mkF m 320 #[.val (.int p1), .val (.int p2), .val (.int p3), .val (.int p4), .val (.int gg), .val (.int ss), .val (.int mn), .val (.int cc), .val (.ref b10), .val (.double (own_rec gg ss cc)), .second, .val (.double (FP.ddiv (FP.i2d cc) (FP.i2d gg))), .second, .val (.int (1 : Int32)), .val (.int (1 : Int32)), .val (.int (1 : Int32)), .val (.ref b38), .val (.int (1 : Int32))] [(.int (1 : Int32))])) _
          refine XS.goto X42.here hx rfl (pc0 := 320) (pc' := 324) rfl (hb hby at_320) (by decide) (by decide) ?_
          exact kt
        refine Go.adv sg43 ?_
        refine Go.ret (v := (some (.int (1 : Int32)))) X42 (fun h => by rw [Bd.returns] at h; cases h) Bd.notSynchronized (fun fs hr => retN X42 hx (t := .boolean) Bd.returns (by simp) (hb hby at_324) hr) ?_ (by decide) (by decide)
        show Q_rm0 Z p1 p2 p3 p4 h0 n0 (some (.int (1 : Int32))) T42.heap _
        rw [e42]
        exact ⟨rfl, N42⟩
      · rw [if_neg hc0] at k3 k4
        by_cases hcg : cc = gg
        · rw [if_pos hcg] at k1
          have sg44 : ∀ t, Steps p.tables e below (T14.setTop (mkF m 258 #[.val (.int p1), .val (.int p2), .val (.int p3), .val (.int p4), .val (.int gg), .val (.int ss), .val (.int mn), .val (.int cc), .val (.ref b10), .val (.double (own_rec gg ss cc)), .second, .val (.double (FP.ddiv (FP.i2d cc) (FP.i2d gg))), .second, .val (.int (1 : Int32)), .val (.int (1 : Int32)), .val (.int (1 : Int32)), .unset, .unset] [])) t → Steps p.tables e below (T14.setTop (mkF m 94 #[.val (.int p1), .val (.int p2), .val (.int p3), .val (.int p4), .val (.int gg), .val (.int ss), .val (.int mn), .val (.int cc), .val (.ref b10), .val (.double (own_rec gg ss cc)), .second, .unset, .unset, .unset, .unset, .unset, .unset, .unset] [])) t := by
            intro t kt
            show Steps p.tables e below (T14.setTop (mkF m 94 #[.val (.int p1), .val (.int p2), .val (.int p3), .val (.int p4), .val (.int gg), .val (.int ss), .val (.int mn), .val (.int cc), .val (.ref b10), .val (.double (own_rec gg ss cc)), .second, .unset, .unset, .unset, .unset, .unset, .unset, .unset] [])) _
            refine XS.iload X14.here hx rfl (hb hby at_94) rfl ?_
            show Steps p.tables e below (T14.setTop (mkF m 96 #[.val (.int p1), .val (.int p2), .val (.int p3), .val (.int p4), .val (.int gg), .val (.int ss), .val (.int mn), .val (.int cc), .val (.ref b10), .val (.double (own_rec gg ss cc)), .second, .unset, .unset, .unset, .unset, .unset, .unset, .unset] [(.int gg)])) _
            refine XS.ifYes X14.here hx rfl (pc0 := 96) (pc' := 110) rfl (hb hby at_96) rfl ((if0 _ _).trans (feq (hg : ¬ (gg = (0 : Int32)))).2) (by decide) (by decide) ?_
            show Steps p.tables e below (T14.setTop (mkF m 110 #[.val (.int p1), .val (.int p2), .val (.int p3), .val (.int p4), .val (.int gg), .val (.int ss), .val (.int mn), .val (.int cc), .val (.ref b10), .val (.double (own_rec gg ss cc)), .second, .unset, .unset, .unset, .unset, .unset, .unset, .unset] [])) _
            refine XS.iload X14.here hx rfl (hb hby at_110) rfl ?_
            show Steps p.tables e below (T14.setTop (mkF m 112 #[.val (.int p1), .val (.int p2), .val (.int p3), .val (.int p4), .val (.int gg), .val (.int ss), .val (.int mn), .val (.int cc), .val (.ref b10), .val (.double (own_rec gg ss cc)), .second, .unset, .unset, .unset, .unset, .unset, .unset, .unset] [(.int gg)])) _
            refine XS.ifYes X14.here hx rfl (pc0 := 112) (pc' := 121) rfl (hb hby at_112) rfl ((if0 _ _).trans (feq (hg : ¬ (gg = (0 : Int32)))).2) (by decide) (by decide) ?_
            show Steps p.tables e below (T14.setTop (mkF m 121 #[.val (.int p1), .val (.int p2), .val (.int p3), .val (.int p4), .val (.int gg), .val (.int ss), .val (.int mn), .val (.int cc), .val (.ref b10), .val (.double (own_rec gg ss cc)), .second, .unset, .unset, .unset, .unset, .unset, .unset, .unset] [])) _
            refine XS.iload X14.here hx rfl (hb hby at_121) rfl ?_
            show Steps p.tables e below (T14.setTop (mkF m 123 #[.val (.int p1), .val (.int p2), .val (.int p3), .val (.int p4), .val (.int gg), .val (.int ss), .val (.int mn), .val (.int cc), .val (.ref b10), .val (.double (own_rec gg ss cc)), .second, .unset, .unset, .unset, .unset, .unset, .unset, .unset] [(.int ss)])) _
            refine XS.ifYes X14.here hx rfl (pc0 := 123) (pc' := 132) rfl (hb hby at_123) rfl ((if0 _ _).trans (feq (hs : ¬ (ss = (0 : Int32)))).2) (by decide) (by decide) ?_
            show Steps p.tables e below (T14.setTop (mkF m 132 #[.val (.int p1), .val (.int p2), .val (.int p3), .val (.int p4), .val (.int gg), .val (.int ss), .val (.int mn), .val (.int cc), .val (.ref b10), .val (.double (own_rec gg ss cc)), .second, .unset, .unset, .unset, .unset, .unset, .unset, .unset] [])) _
            refine XS.iload X14.here hx rfl (hb hby at_132) rfl ?_
            show Steps p.tables e below (T14.setTop (mkF m 134 #[.val (.int p1), .val (.int p2), .val (.int p3), .val (.int p4), .val (.int gg), .val (.int ss), .val (.int mn), .val (.int cc), .val (.ref b10), .val (.double (own_rec gg ss cc)), .second, .unset, .unset, .unset, .unset, .unset, .unset, .unset] [(.int cc)])) _
            refine own_i2d X14.here hx rfl (hb hby at_134) rfl ?_
            show Steps p.tables e below (T14.setTop (mkF m 135 #[.val (.int p1), .val (.int p2), .val (.int p3), .val (.int p4), .val (.int gg), .val (.int ss), .val (.int mn), .val (.int cc), .val (.ref b10), .val (.double (own_rec gg ss cc)), .second, .unset, .unset, .unset, .unset, .unset, .unset, .unset] [(.double (FP.i2d cc))])) _
            refine XS.iload X14.here hx rfl (hb hby at_135) rfl ?_
            show Steps p.tables e below (T14.setTop (mkF m 137 #[.val (.int p1), .val (.int p2), .val (.int p3), .val (.int p4), .val (.int gg), .val (.int ss), .val (.int mn), .val (.int cc), .val (.ref b10), .val (.double (own_rec gg ss cc)), .second, .unset, .unset, .unset, .unset, .unset, .unset, .unset] [(.int gg), (.double (FP.i2d cc))])) _
            refine own_i2d X14.here hx rfl (hb hby at_137) rfl ?_
            show Steps p.tables e below (T14.setTop (mkF m 138 #[.val (.int p1), .val (.int p2), .val (.int p3), .val (.int p4), .val (.int gg), .val (.int ss), .val (.int mn), .val (.int cc), .val (.ref b10), .val (.double (own_rec gg ss cc)), .second, .unset, .unset, .unset, .unset, .unset, .unset, .unset] [(.double (FP.i2d gg)), (.double (FP.i2d cc))])) _
            refine own_ddiv X14.here hx rfl (hb hby at_138) rfl k6 ?_
            show Steps p.tables e below (T14.setTop (mkF m 139 #[.val (.int p1), .val (.int p2), .val (.int p3), .val (.int p4), .val (.int gg), .val (.int ss), .val (.int mn), .val (.int cc), .val (.ref b10), .val (.double (own_rec gg ss cc)), .second, .unset, .unset, .unset, .unset, .unset, .unset, .unset] [(.double (FP.ddiv (FP.i2d cc) (FP.i2d gg)))])) _
            refine own_dstore X14.here hx rfl (hb hby at_139) rfl (l' := #[.val (.int p1), .val (.int p2), .val (.int p3), .val (.int p4), .val (.int gg), .val (.int ss), .val (.int mn), .val (.int cc), .val (.ref b10), .val (.double (own_rec gg ss cc)), .second, .val (.double (FP.ddiv (FP.i2d cc) (FP.i2d gg))), .second, .unset, .unset, .unset, .unset, .unset]) rfl ?_
            show Steps p.tables e below (T14.setTop (mkF m 141 #[.val (.int p1), .val (.int p2), .val (.int p3), .val (.int p4), .val (.int gg), .val (.int ss), .val (.int mn), .val (.int cc), .val (.ref b10), .val (.double (own_rec gg ss cc)), .second, .val (.double (FP.ddiv (FP.i2d cc) (FP.i2d gg))), .second, .unset, .unset, .unset, .unset, .unset] [])) _
            refine own_dconst0 X14.here hx rfl (hb hby at_141) ?_
            show Steps p.tables e below (T14.setTop (mkF m 142 #[.val (.int p1), .val (.int p2), .val (.int p3), .val (.int p4), .val (.int gg), .val (.int ss), .val (.int mn), .val (.int cc), .val (.ref b10), .val (.double (own_rec gg ss cc)), .second, .val (.double (FP.ddiv (FP.i2d cc) (FP.i2d gg))), .second, .unset, .unset, .unset, .unset, .unset] [(.double (0 : UInt64))])) _
            refine own_dload X14.here hx rfl (hb hby at_142) rfl ?_
            show Steps p.tables e below (T14.setTop (mkF m 144 #[.val (.int p1), .val (.int p2), .val (.int p3), .val (.int p4), .val (.int gg), .val (.int ss), .val (.int mn), .val (.int cc), .val (.ref b10), .val (.double (own_rec gg ss cc)), .second, .val (.double (FP.ddiv (FP.i2d cc) (FP.i2d gg))), .second, .unset, .unset, .unset, .unset, .unset] [(.double (own_rec gg ss cc)), (.double (0 : UInt64))])) _
            refine own_dcmp X14.here hx rfl (hb hby at_144) rfl ?_
            show Steps p.tables e below (T14.setTop (mkF m 145 #[.val (.int p1), .val (.int p2), .val (.int p3), .val (.int p4), .val (.int gg), .val (.int ss), .val (.int mn), .val (.int cc), .val (.ref b10), .val (.double (own_rec gg ss cc)), .second, .val (.double (FP.ddiv (FP.i2d cc) (FP.i2d gg))), .second, .unset, .unset, .unset, .unset, .unset] [(.int (cmpValue (FP.dcmp (0 : UInt64) (own_rec gg ss cc)) .g))])) _
            refine XS.ifNo X14.here hx rfl (hb hby at_145) rfl ((if0 _ _).trans (flt ((by rw [Own.cv_lt k3] <;> decide) : ¬ ((0 : Int32) < (cmpValue (FP.dcmp (0 : UInt64) (own_rec gg ss cc)) .g)))).2.2.1) ?_
            show Steps p.tables e below (T14.setTop (mkF m 148 #[.val (.int p1), .val (.int p2), .val (.int p3), .val (.int p4), .val (.int gg), .val (.int ss), .val (.int mn), .val (.int cc), .val (.ref b10), .val (.double (own_rec gg ss cc)), .second, .val (.double (FP.ddiv (FP.i2d cc) (FP.i2d gg))), .second, .unset, .unset, .unset, .unset, .unset] [])) _
            refine own_dload X14.here hx rfl (hb hby at_148) rfl ?_
            show Steps p.tables e below (T14.setTop (mkF m 150 #[.val (.int p1), .val (.int p2), .val (.int p3), .val (.int p4), .val (.int gg), .val (.int ss), .val (.int mn), .val (.int cc), .val (.ref b10), .val (.double (own_rec gg ss cc)), .second, .val (.double (FP.ddiv (FP.i2d cc) (FP.i2d gg))), .second, .unset, .unset, .unset, .unset, .unset] [(.double (own_rec gg ss cc))])) _
            refine own_dconst1 X14.here hx rfl (hb hby at_150) ?_
            show Steps p.tables e below (T14.setTop (mkF m 151 #[.val (.int p1), .val (.int p2), .val (.int p3), .val (.int p4), .val (.int gg), .val (.int ss), .val (.int mn), .val (.int cc), .val (.ref b10), .val (.double (own_rec gg ss cc)), .second, .val (.double (FP.ddiv (FP.i2d cc) (FP.i2d gg))), .second, .unset, .unset, .unset, .unset, .unset] [(.double (4607182418800017408 : UInt64)), (.double (own_rec gg ss cc))])) _
            refine own_dcmp X14.here hx rfl (hb hby at_151) rfl ?_
            show Steps p.tables e below (T14.setTop (mkF m 152 #[.val (.int p1), .val (.int p2), .val (.int p3), .val (.int p4), .val (.int gg), .val (.int ss), .val (.int mn), .val (.int cc), .val (.ref b10), .val (.double (own_rec gg ss cc)), .second, .val (.double (FP.ddiv (FP.i2d cc) (FP.i2d gg))), .second, .unset, .unset, .unset, .unset, .unset] [(.int (cmpValue (FP.dcmp (own_rec gg ss cc) (4607182418800017408 : UInt64)) .g))])) _
            refine XS.ifNo X14.here hx rfl (hb hby at_152) rfl ((if0 _ _).trans (flt ((by rw [Own.cv_eq k1] <;> decide) : ¬ ((0 : Int32) < (cmpValue (FP.dcmp (own_rec gg ss cc) (4607182418800017408 : UInt64)) .g)))).2.2.1) ?_
            show Steps p.tables e below (T14.setTop (mkF m 155 #[.val (.int p1), .val (.int p2), .val (.int p3), .val (.int p4), .val (.int gg), .val (.int ss), .val (.int mn), .val (.int cc), .val (.ref b10), .val (.double (own_rec gg ss cc)), .second, .val (.double (FP.ddiv (FP.i2d cc) (FP.i2d gg))), .second, .unset, .unset, .unset, .unset, .unset] [])) _
            refine XS.iconst X14.here hx rfl (hb hby at_155) ?_
            show Steps p.tables e below (T14.setTop (mkF m 156 #[.val (.int p1), .val (.int p2), .val (.int p3), .val (.int p4), .val (.int gg), .val (.int ss), .val (.int mn), .val (.int cc), .val (.ref b10), .val (.double (own_rec gg ss cc)), .second, .val (.double (FP.ddiv (FP.i2d cc) (FP.i2d gg))), .second, .unset, .unset, .unset, .unset, .unset] [(.int (1 : Int32))])) _
            refine XS.goto X14.here hx rfl (pc0 := 156) (pc' := 160) rfl (hb hby at_156) (by decide) (by decide) ?_
            show Steps p.tables e below (T14.setTop (mkF m 160 #[.val (.int p1), .val (.int p2), .val (.int p3), .val (.int p4), .val (.int gg), .val (.int ss), .val (.int mn), .val (.int cc), .val (.ref b10), .val (.double (own_rec gg ss cc)), .second, .val (.double (FP.ddiv (FP.i2d cc) (FP.i2d gg))), .second, .unset, .unset, .unset, .unset, .unset] [(.int (1 : Int32))])) _
            refine XS.istore X14.here hx rfl (hb hby at_160) rfl (l' := #[.val (.int p1), .val (.int p2), .val (.int p3), .val (.int p4), .val (.int gg), .val (.int ss), .val (.int mn), .val (.int cc), .val (.ref b10), .val (.double (own_rec gg ss cc)), .second, .val (.double (FP.ddiv (FP.i2d cc) (FP.i2d gg))), .second, .val (.int (1 : Int32)), .unset, .unset, .unset, .unset]) rfl ?_
            show Steps p.tables e below (T14.setTop (mkF m 162 #[.val (.int p1), .val (.int p2), .val (.int p3), .val (.int p4), .val (.int gg), .val (.int ss), .val (.int mn), .val (.int cc), .val (.ref b10), .val (.double (own_rec gg ss cc)), .second, .val (.double (FP.ddiv (FP.i2d cc) (FP.i2d gg))), .second, .val (.int (1 : Int32)), .unset, .unset, .unset, .unset] [])) _
            refine own_dload X14.here hx rfl (hb hby at_162) rfl ?_
            show Steps p.tables e below (T14.setTop (mkF m 164 #[.val (.int p1), .val (.int p2), .val (.int p3), .val (.int p4), .val (.int gg), .val (.int ss), .val (.int mn), .val (.int cc), .val (.ref b10), .val (.double (own_rec gg ss cc)), .second, .val (.double (FP.ddiv (FP.i2d cc) (FP.i2d gg))), .second, .val (.int (1 : Int32)), .unset, .unset, .unset, .unset] [(.double (own_rec gg ss cc))])) _
            refine own_dconst1 X14.here hx rfl (hb hby at_164) ?_
            show Steps p.tables e below (T14.setTop (mkF m 165 #[.val (.int p1), .val (.int p2), .val (.int p3), .val (.int p4), .val (.int gg), .val (.int ss), .val (.int mn), .val (.int cc), .val (.ref b10), .val (.double (own_rec gg ss cc)), .second, .val (.double (FP.ddiv (FP.i2d cc) (FP.i2d gg))), .second, .val (.int (1 : Int32)), .unset, .unset, .unset, .unset] [(.double (4607182418800017408 : UInt64)), (.double (own_rec gg ss cc))])) _
            refine own_dcmp X14.here hx rfl (hb hby at_165) rfl ?_
            show Steps p.tables e below (T14.setTop (mkF m 166 #[.val (.int p1), .val (.int p2), .val (.int p3), .val (.int p4), .val (.int gg), .val (.int ss), .val (.int mn), .val (.int cc), .val (.ref b10), .val (.double (own_rec gg ss cc)), .second, .val (.double (FP.ddiv (FP.i2d cc) (FP.i2d gg))), .second, .val (.int (1 : Int32)), .unset, .unset, .unset, .unset] [(.int (cmpValue (FP.dcmp (own_rec gg ss cc) (4607182418800017408 : UInt64)) .l))])) _
            refine XS.ifNo X14.here hx rfl (hb hby at_166) rfl ((if0 _ _).trans (teq ((by rw [Own.cv_eq k1] <;> decide) : (cmpValue (FP.dcmp (own_rec gg ss cc) (4607182418800017408 : UInt64)) .l) = (0 : Int32))).2) ?_
            show Steps p.tables e below (T14.setTop (mkF m 169 #[.val (.int p1), .val (.int p2), .val (.int p3), .val (.int p4), .val (.int gg), .val (.int ss), .val (.int mn), .val (.int cc), .val (.ref b10), .val (.double (own_rec gg ss cc)), .second, .val (.double (FP.ddiv (FP.i2d cc) (FP.i2d gg))), .second, .val (.int (1 : Int32)), .unset, .unset, .unset, .unset] [])) _
            refine XS.iconst X14.here hx rfl (hb hby at_169) ?_
            show Steps p.tables e below (T14.setTop (mkF m 170 #[.val (.int p1), .val (.int p2), .val (.int p3), .val (.int p4), .val (.int gg), .val (.int ss), .val (.int mn), .val (.int cc), .val (.ref b10), .val (.double (own_rec gg ss cc)), .second, .val (.double (FP.ddiv (FP.i2d cc) (FP.i2d gg))), .second, .val (.int (1 : Int32)), .unset, .unset, .unset, .unset] [(.int (1 : Int32))])) _
            refine XS.goto X14.here hx rfl (pc0 := 170) (pc' := 174) rfl (hb hby at_170) (by decide) (by decide) ?_
            show Steps p.tables e below (T14.setTop (mkF m 174 #[.val (.int p1), .val (.int p2), .val (.int p3), .val (.int p4), .val (.int gg), .val (.int ss), .val (.int mn), .val (.int cc), .val (.ref b10), .val (.double (own_rec gg ss cc)), .second, .val (.double (FP.ddiv (FP.i2d cc) (FP.i2d gg))), .second, .val (.int (1 : Int32)), .unset, .unset, .unset, .unset] [(.int (1 : Int32))])) _
            refine XS.iload X14.here hx rfl (hb hby at_174) rfl ?_
            show Steps p.tables e below (T14.setTop (mkF m 176 #[.val (.int p1), .val (.int p2), .val (.int p3), .val (.int p4), .val (.int gg), .val (.int ss), .val (.int mn), .val (.int cc), .val (.ref b10), .val (.double (own_rec gg ss cc)), .second, .val (.double (FP.ddiv (FP.i2d cc) (FP.i2d gg))), .second, .val (.int (1 : Int32)), .unset, .unset, .unset, .unset] [(.int gg), (.int (1 : Int32))])) _
            refine XS.ifYes X14.here hx rfl (pc0 := 176) (pc' := 184) rfl (hb hby at_176) rfl ((if0 _ _).trans (feq (hg : ¬ (gg = (0 : Int32)))).2) (by decide) (by decide) ?_
            show Steps p.tables e below (T14.setTop (mkF m 184 #[.val (.int p1), .val (.int p2), .val (.int p3), .val (.int p4), .val (.int gg), .val (.int ss), .val (.int mn), .val (.int cc), .val (.ref b10), .val (.double (own_rec gg ss cc)), .second, .val (.double (FP.ddiv (FP.i2d cc) (FP.i2d gg))), .second, .val (.int (1 : Int32)), .unset, .unset, .unset, .unset] [(.int (1 : Int32))])) _
            refine XS.iload X14.here hx rfl (hb hby at_184) rfl ?_
            show Steps p.tables e below (T14.setTop (mkF m 186 #[.val (.int p1), .val (.int p2), .val (.int p3), .val (.int p4), .val (.int gg), .val (.int ss), .val (.int mn), .val (.int cc), .val (.ref b10), .val (.double (own_rec gg ss cc)), .second, .val (.double (FP.ddiv (FP.i2d cc) (FP.i2d gg))), .second, .val (.int (1 : Int32)), .unset, .unset, .unset, .unset] [(.int gg), (.int (1 : Int32))])) _
            refine XS.ifNo X14.here hx rfl (hb hby at_186) rfl ((if0 _ _).trans (tlt (hgp : (0 : Int32) < gg)).2.2.2) ?_
            show Steps p.tables e below (T14.setTop (mkF m 189 #[.val (.int p1), .val (.int p2), .val (.int p3), .val (.int p4), .val (.int gg), .val (.int ss), .val (.int mn), .val (.int cc), .val (.ref b10), .val (.double (own_rec gg ss cc)), .second, .val (.double (FP.ddiv (FP.i2d cc) (FP.i2d gg))), .second, .val (.int (1 : Int32)), .unset, .unset, .unset, .unset] [(.int (1 : Int32))])) _
            refine XS.iload X14.here hx rfl (hb hby at_189) rfl ?_
            show Steps p.tables e below (T14.setTop (mkF m 191 #[.val (.int p1), .val (.int p2), .val (.int p3), .val (.int p4), .val (.int gg), .val (.int ss), .val (.int mn), .val (.int cc), .val (.ref b10), .val (.double (own_rec gg ss cc)), .second, .val (.double (FP.ddiv (FP.i2d cc) (FP.i2d gg))), .second, .val (.int (1 : Int32)), .unset, .unset, .unset, .unset] [(.int cc), (.int (1 : Int32))])) _
            refine XS.iload X14.here hx rfl (hb hby at_191) rfl ?_
            show Steps p.tables e below (T14.setTop (mkF m 193 #[.val (.int p1), .val (.int p2), .val (.int p3), .val (.int p4), .val (.int gg), .val (.int ss), .val (.int mn), .val (.int cc), .val (.ref b10), .val (.double (own_rec gg ss cc)), .second, .val (.double (FP.ddiv (FP.i2d cc) (FP.i2d gg))), .second, .val (.int (1 : Int32)), .unset, .unset, .unset, .unset] [(.int gg), (.int cc), (.int (1 : Int32))])) _
            refine XS.icmpNo X14.here hx rfl (hb hby at_193) rfl (teq (hcg : cc = gg)).2 ?_
            show Steps p.tables e below (T14.setTop (mkF m 196 #[.val (.int p1), .val (.int p2), .val (.int p3), .val (.int p4), .val (.int gg), .val (.int ss), .val (.int mn), .val (.int cc), .val (.ref b10), .val (.double (own_rec gg ss cc)), .second, .val (.double (FP.ddiv (FP.i2d cc) (FP.i2d gg))), .second, .val (.int (1 : Int32)), .unset, .unset, .unset, .unset] [(.int (1 : Int32))])) _
            refine XS.iconst X14.here hx rfl (hb hby at_196) ?_
            show Steps p.tables e below (T14.setTop (mkF m 197 #[.val (.int p1), .val (.int p2), .val (.int p3), .val (.int p4), .val (.int gg), .val (.int ss), .val (.int mn), .val (.int cc), .val (.ref b10), .val (.double (own_rec gg ss cc)), .second, .val (.double (FP.ddiv (FP.i2d cc) (FP.i2d gg))), .second, .val (.int (1 : Int32)), .unset, .unset, .unset, .unset] [(.int (1 : Int32)), (.int (1 : Int32))])) _
            refine XS.goto X14.here hx rfl (pc0 := 197) (pc' := 201) rfl (hb hby at_197) (by decide) (by decide) ?_
            show Steps p.tables e below (T14.setTop (mkF m 201 #[.val (.int p1), .val (.int p2), .val (.int p3), .val (.int p4), .val (.int gg), .val (.int ss), .val (.int mn), .val (.int cc), .val (.ref b10), .val (.double (own_rec gg ss cc)), .second, .val (.double (FP.ddiv (FP.i2d cc) (FP.i2d gg))), .second, .val (.int (1 : Int32)), .unset, .unset, .unset, .unset] [(.int (1 : Int32)), (.int (1 : Int32))])) _
            refine XS.icmpNo X14.here hx rfl (hb hby at_201) rfl (teq (by decide : (1 : Int32) = (1 : Int32))).2 ?_
            show Steps p.tables e below (T14.setTop (mkF m 204 #[.val (.int p1), .val (.int p2), .val (.int p3), .val (.int p4), .val (.int gg), .val (.int ss), .val (.int mn), .val (.int cc), .val (.ref b10), .val (.double (own_rec gg ss cc)), .second, .val (.double (FP.ddiv (FP.i2d cc) (FP.i2d gg))), .second, .val (.int (1 : Int32)), .unset, .unset, .unset, .unset] [])) _
            refine XS.iconst X14.here hx rfl (hb hby at_204) ?_
            show Steps p.tables e below (T14.setTop (mkF m 205 #[.val (.int p1), .val (.int p2), .val (.int p3), .val (.int p4), .val (.int gg), .val (.int ss), .val (.int mn), .val (.int cc), .val (.ref b10), .val (.double (own_rec gg ss cc)), .second, .val (.double (FP.ddiv (FP.i2d cc) (FP.i2d gg))), .second, .val (.int (1 : Int32)), .unset, .unset, .unset, .unset] [(.int (1 : Int32))])) _
            refine XS.goto X14.here hx rfl (pc0 := 205) (pc' := 209) rfl (hb hby at_205) (by decide) (by decide) ?_
            show Steps p.tables e below (T14.setTop (mkF m 209 #[.val (.int p1), .val (.int p2), .val (.int p3), .val (.int p4), .val (.int gg), .val (.int ss), .val (.int mn), .val (.int cc), .val (.ref b10), .val (.double (own_rec gg ss cc)), .second, .val (.double (FP.ddiv (FP.i2d cc) (FP.i2d gg))), .second, .val (.int (1 : Int32)), .unset, .unset, .unset, .unset] [(.int (1 : Int32))])) _
            refine XS.istore X14.here hx rfl (hb hby at_209) rfl (l' := #[.val (.int p1), .val (.int p2), .val (.int p3), .val (.int p4), .val (.int gg), .val (.int ss), .val (.int mn), .val (.int cc), .val (.ref b10), .val (.double (own_rec gg ss cc)), .second, .val (.double (FP.ddiv (FP.i2d cc) (FP.i2d gg))), .second, .val (.int (1 : Int32)), .val (.int (1 : Int32)), .unset, .unset, .unset]) rfl ?_
            show Steps p.tables e below (T14.setTop (mkF m 211 #[.val (.int p1), .val (.int p2), .val (.int p3), .val (.int p4), .val (.int gg), .val (.int ss), .val (.int mn), .val (.int cc), .val (.ref b10), .val (.double (own_rec gg ss cc)), .second, .val (.double (FP.ddiv (FP.i2d cc) (FP.i2d gg))), .second, .val (.int (1 : Int32)), .val (.int (1 : Int32)), .unset, .unset, .unset] [])) _
            refine own_dload X14.here hx rfl (hb hby at_211) rfl ?_
            show Steps p.tables e below (T14.setTop (mkF m 213 #[.val (.int p1), .val (.int p2), .val (.int p3), .val (.int p4), .val (.int gg), .val (.int ss), .val (.int mn), .val (.int cc), .val (.ref b10), .val (.double (own_rec gg ss cc)), .second, .val (.double (FP.ddiv (FP.i2d cc) (FP.i2d gg))), .second, .val (.int (1 : Int32)), .val (.int (1 : Int32)), .unset, .unset, .unset] [(.double (own_rec gg ss cc))])) _
            refine own_dconst0 X14.here hx rfl (hb hby at_213) ?_
            show Steps p.tables e below (T14.setTop (mkF m 214 #[.val (.int p1), .val (.int p2), .val (.int p3), .val (.int p4), .val (.int gg), .val (.int ss), .val (.int mn), .val (.int cc), .val (.ref b10), .val (.double (own_rec gg ss cc)), .second, .val (.double (FP.ddiv (FP.i2d cc) (FP.i2d gg))), .second, .val (.int (1 : Int32)), .val (.int (1 : Int32)), .unset, .unset, .unset] [(.double (0 : UInt64)), (.double (own_rec gg ss cc))])) _
            refine own_dcmp X14.here hx rfl (hb hby at_214) rfl ?_
            show Steps p.tables e below (T14.setTop (mkF m 215 #[.val (.int p1), .val (.int p2), .val (.int p3), .val (.int p4), .val (.int gg), .val (.int ss), .val (.int mn), .val (.int cc), .val (.ref b10), .val (.double (own_rec gg ss cc)), .second, .val (.double (FP.ddiv (FP.i2d cc) (FP.i2d gg))), .second, .val (.int (1 : Int32)), .val (.int (1 : Int32)), .unset, .unset, .unset] [(.int (cmpValue (FP.dcmp (own_rec gg ss cc) (0 : UInt64)) .l))])) _
            refine XS.ifYes X14.here hx rfl (pc0 := 215) (pc' := 222) rfl (hb hby at_215) rfl ((if0 _ _).trans (feq ((by rw [Own.cv_gt k4] <;> decide) : ¬ ((cmpValue (FP.dcmp (own_rec gg ss cc) (0 : UInt64)) .l) = (0 : Int32)))).2) (by decide) (by decide) ?_
            show Steps p.tables e below (T14.setTop (mkF m 222 #[.val (.int p1), .val (.int p2), .val (.int p3), .val (.int p4), .val (.int gg), .val (.int ss), .val (.int mn), .val (.int cc), .val (.ref b10), .val (.double (own_rec gg ss cc)), .second, .val (.double (FP.ddiv (FP.i2d cc) (FP.i2d gg))), .second, .val (.int (1 : Int32)), .val (.int (1 : Int32)), .unset, .unset, .unset] [])) _
            refine XS.iconst X14.here hx rfl (hb hby at_222) ?_
            show Steps p.tables e below (T14.setTop (mkF m 223 #[.val (.int p1), .val (.int p2), .val (.int p3), .val (.int p4), .val (.int gg), .val (.int ss), .val (.int mn), .val (.int cc), .val (.ref b10), .val (.double (own_rec gg ss cc)), .second, .val (.double (FP.ddiv (FP.i2d cc) (FP.i2d gg))), .second, .val (.int (1 : Int32)), .val (.int (1 : Int32)), .unset, .unset, .unset] [(.int (0 : Int32))])) _
            refine XS.iload X14.here hx rfl (hb hby at_223) rfl ?_
            show Steps p.tables e below (T14.setTop (mkF m 225 #[.val (.int p1), .val (.int p2), .val (.int p3), .val (.int p4), .val (.int gg), .val (.int ss), .val (.int mn), .val (.int cc), .val (.ref b10), .val (.double (own_rec gg ss cc)), .second, .val (.double (FP.ddiv (FP.i2d cc) (FP.i2d gg))), .second, .val (.int (1 : Int32)), .val (.int (1 : Int32)), .unset, .unset, .unset] [(.int gg), (.int (0 : Int32))])) _
            refine XS.ifYes X14.here hx rfl (pc0 := 225) (pc' := 233) rfl (hb hby at_225) rfl ((if0 _ _).trans (feq (hg : ¬ (gg = (0 : Int32)))).2) (by decide) (by decide) ?_
            show Steps p.tables e below (T14.setTop (mkF m 233 #[.val (.int p1), .val (.int p2), .val (.int p3), .val (.int p4), .val (.int gg), .val (.int ss), .val (.int mn), .val (.int cc), .val (.ref b10), .val (.double (own_rec gg ss cc)), .second, .val (.double (FP.ddiv (FP.i2d cc) (FP.i2d gg))), .second, .val (.int (1 : Int32)), .val (.int (1 : Int32)), .unset, .unset, .unset] [(.int (0 : Int32))])) _
            refine XS.iload X14.here hx rfl (hb hby at_233) rfl ?_
            show Steps p.tables e below (T14.setTop (mkF m 235 #[.val (.int p1), .val (.int p2), .val (.int p3), .val (.int p4), .val (.int gg), .val (.int ss), .val (.int mn), .val (.int cc), .val (.ref b10), .val (.double (own_rec gg ss cc)), .second, .val (.double (FP.ddiv (FP.i2d cc) (FP.i2d gg))), .second, .val (.int (1 : Int32)), .val (.int (1 : Int32)), .unset, .unset, .unset] [(.int gg), (.int (0 : Int32))])) _
            refine XS.ifNo X14.here hx rfl (hb hby at_235) rfl ((if0 _ _).trans (tlt (hgp : (0 : Int32) < gg)).2.2.2) ?_
            show Steps p.tables e below (T14.setTop (mkF m 238 #[.val (.int p1), .val (.int p2), .val (.int p3), .val (.int p4), .val (.int gg), .val (.int ss), .val (.int mn), .val (.int cc), .val (.ref b10), .val (.double (own_rec gg ss cc)), .second, .val (.double (FP.ddiv (FP.i2d cc) (FP.i2d gg))), .second, .val (.int (1 : Int32)), .val (.int (1 : Int32)), .unset, .unset, .unset] [(.int (0 : Int32))])) _
            refine XS.iload X14.here hx rfl (hb hby at_238) rfl ?_
            show Steps p.tables e below (T14.setTop (mkF m 240 #[.val (.int p1), .val (.int p2), .val (.int p3), .val (.int p4), .val (.int gg), .val (.int ss), .val (.int mn), .val (.int cc), .val (.ref b10), .val (.double (own_rec gg ss cc)), .second, .val (.double (FP.ddiv (FP.i2d cc) (FP.i2d gg))), .second, .val (.int (1 : Int32)), .val (.int (1 : Int32)), .unset, .unset, .unset] [(.int cc), (.int (0 : Int32))])) _
            refine XS.ifYes X14.here hx rfl (pc0 := 240) (pc' := 247) rfl (hb hby at_240) rfl ((if0 _ _).trans (feq (hc0 : ¬ (cc = (0 : Int32)))).2) (by decide) (by decide) ?_
            show Steps p.tables e below (T14.setTop (mkF m 247 #[.val (.int p1), .val (.int p2), .val (.int p3), .val (.int p4), .val (.int gg), .val (.int ss), .val (.int mn), .val (.int cc), .val (.ref b10), .val (.double (own_rec gg ss cc)), .second, .val (.double (FP.ddiv (FP.i2d cc) (FP.i2d gg))), .second, .val (.int (1 : Int32)), .val (.int (1 : Int32)), .unset, .unset, .unset] [(.int (0 : Int32))])) _
            refine XS.iconst X14.here hx rfl (hb hby at_247) ?_
            show Steps p.tables e below (T14.setTop (mkF m 248 #[.val (.int p1), .val (.int p2), .val (.int p3), .val (.int p4), .val (.int gg), .val (.int ss), .val (.int mn), .val (.int cc), .val (.ref b10), .val (.double (own_rec gg ss cc)), .second, .val (.double (FP.ddiv (FP.i2d cc) (FP.i2d gg))), .second, .val (.int (1 : Int32)), .val (.int (1 : Int32)), .unset, .unset, .unset] [(.int (0 : Int32)), (.int (0 : Int32))])) _
            refine XS.icmpNo X14.here hx rfl (hb hby at_248) rfl (teq (by decide : (0 : Int32) = (0 : Int32))).2 ?_
            show Steps p.tables e below (T14.setTop (mkF m 251 #[.val (.int p1), .val (.int p2), .val (.int p3), .val (.int p4), .val (.int gg), .val (.int ss), .val (.int mn), .val (.int cc), .val (.ref b10), .val (.double (own_rec gg ss cc)), .second, .val (.double (FP.ddiv (FP.i2d cc) (FP.i2d gg))), .second, .val (.int (1 : Int32)), .val (.int (1 : Int32)), .unset, .unset, .unset] [])) _
            refine XS.iconst X14.here hx rfl (hb hby at_251) ?_
            show Steps p.tables e below (T14.setTop (mkF m 252 #[.val (.int p1), .val (.int p2), .val (.int p3), .val (.int p4), .val (.int gg), .val (.int ss), .val (.int mn), .val (.int cc), .val (.ref b10), .val (.double (own_rec gg ss cc)), .second, .val (.double (FP.ddiv (FP.i2d cc) (FP.i2d gg))), .second, .val (.int (1 : Int32)), .val (.int (1 : Int32)), .unset, .unset, .unset] [(.int (1 : Int32))])) _
            refine XS.goto X14.here hx rfl (pc0 := 252) (pc' := 256) rfl (hb hby at_252) (by decide) (by decide) ?_
            show Steps p.tables e below (T14.setTop (mkF m 256 #[.val (.int p1), .val (.int p2), .val (.int p3), .val (.int p4), .val (.int gg), .val (.int ss), .val (.int mn), .val (.int cc), .val (.ref b10), .val (.double (own_rec gg ss cc)), .second, .val (.double (FP.ddiv (FP.i2d cc) (FP.i2d gg))), .second, .val (.int (1 : Int32)), .val (.int (1 : Int32)), .unset, .unset, .unset] [(.int (1 : Int32))])) _
            refine XS.istore X14.here hx rfl (hb hby at_256) rfl (l' := #[.val (.int p1), .val (.int p2), .val (.int p3), .val (.int p4), .val (.int gg), .val (.int ss), .val (.int mn), .val (.int cc), .val (.ref b10), .val (.double (own_rec gg ss cc)), .second, .val (.double (FP.ddiv (FP.i2d cc) (FP.i2d gg))), .second, .val (.int (1 : Int32)), .val (.int (1 : Int32)), .val (.int (1 : Int32)), .unset, .unset]) rfl ?_
            exact kt
          refine Go.adv sg44 ?_
          obtain ⟨T45, h45, X45, e45, E45, A45, D45, -, st45⟩ := newO X14 hx hZ hown (hw _ (List.mem_of_getElem? (i := 5) rfl)) (hw _ (List.mem_of_getElem? (i := 6) rfl)) (hw _ (List.mem_of_getElem? (i := 7) rfl)) e14 (g := (mkF m 258 #[.val (.int p1), .val (.int p2), .val (.int p3), .val (.int p4), .val (.int gg), .val (.int ss), .val (.int mn), .val (.int cc), .val (.ref b10), .val (.double (own_rec gg ss cc)), .second, .val (.double (FP.ddiv (FP.i2d cc) (FP.i2d gg))), .second, .val (.int (1 : Int32)), .val (.int (1 : Int32)), .val (.int (1 : Int32)), .unset, .unset] [])) rfl (hb hby at_258) (by decide) (by decide)
          obtain ⟨b45, gb45⟩ : ∃ z, z = T12.heap.size := ⟨_, rfl⟩
          rw [← gb45] at A45 D45 st45
          have g_b45 : n0 ≤ b45 := Nat.le_trans Z12 (Nat.le_of_eq gb45.symm)
          have sz_b45 : h0.size ≤ b45 := Nat.le_trans K12.1 (Nat.le_of_eq gb45.symm)
          have ne_b10_b45 : b10 ≠ b45 := Nat.ne_of_lt (Nat.lt_of_lt_of_le p12_0.lt (Nat.le_of_eq gb45.symm))
          have K45 : Keep h0 h45 [] := K12.ext E45
          have Z45 : n0 ≤ h45.size := Nat.le_trans Z12 E45.1
          have F_gold_b45 : Fld Z h45 b45 "com/example/tally/tally/score/QuestionScore" "gold" "I" (.int (0 : Int32)) := D45 (Or.inr (hw _ (List.mem_of_getElem? (i := 20) rfl))) (ty := .int) (by decide)
          have F_system_b45 : Fld Z h45 b45 "com/example/tally/tally/score/QuestionScore" "system" "I" (.int (0 : Int32)) := D45 (Or.inr (hw _ (List.mem_of_getElem? (i := 22) rfl))) (ty := .int) (by decide)
          have F_correct_b45 : Fld Z h45 b45 "com/example/tally/tally/score/QuestionScore" "correct" "I" (.int (0 : Int32)) := D45 (Or.inr (hw _ (List.mem_of_getElem? (i := 24) rfl))) (ty := .int) (by decide)
          refine Go.adv st45 ?_
          show Go p.tables e below s _ _ _ (T45.setTop (mkF m 261 #[.val (.int p1), .val (.int p2), .val (.int p3), .val (.int p4), .val (.int gg), .val (.int ss), .val (.int mn), .val (.int cc), .val (.ref b10), .val (.double (own_rec gg ss cc)), .second, .val (.double (FP.ddiv (FP.i2d cc) (FP.i2d gg))), .second, .val (.int (1 : Int32)), .val (.int (1 : Int32)), .val (.int (1 : Int32)), .unset, .unset] [(.ref b45)]))
          have sg46 : ∀ t, Steps p.tables e below (T45.setTop (mkF m 268 #[.val (.int p1), .val (.int p2), .val (.int p3), .val (.int p4), .val (.int gg), .val (.int ss), .val (.int mn), .val (.int cc), .val (.ref b10), .val (.double (own_rec gg ss cc)), .second, .val (.double (FP.ddiv (FP.i2d cc) (FP.i2d gg))), .second, .val (.int (1 : Int32)), .val (.int (1 : Int32)), .val (.int (1 : Int32)), .unset, .unset] [(.int cc), (.int gg), (.int ss), (.ref b45), (.ref b45)])) t → Steps p.tables e below (T45.setTop (mkF m 261 #[.val (.int p1), .val (.int p2), .val (.int p3), .val (.int p4), .val (.int gg), .val (.int ss), .val (.int mn), .val (.int cc), .val (.ref b10), .val (.double (own_rec gg ss cc)), .second, .val (.double (FP.ddiv (FP.i2d cc) (FP.i2d gg))), .second, .val (.int (1 : Int32)), .val (.int (1 : Int32)), .val (.int (1 : Int32)), .unset, .unset] [(.ref b45)])) t := by
            intro t kt
            show Steps p.tables e below (T45.setTop (mkF m 261 #[.val (.int p1), .val (.int p2), .val (.int p3), .val (.int p4), .val (.int gg), .val (.int ss), .val (.int mn), .val (.int cc), .val (.ref b10), .val (.double (own_rec gg ss cc)), .second, .val (.double (FP.ddiv (FP.i2d cc) (FP.i2d gg))), .second, .val (.int (1 : Int32)), .val (.int (1 : Int32)), .val (.int (1 : Int32)), .unset, .unset] [(.ref b45)])) _
            refine XS.dup X45.here hx rfl (hb hby at_261) rfl rfl ?_
            show Steps p.tables e below (T45.setTop (mkF m 262 #[.val (.int p1), .val (.int p2), .val (.int p3), .val (.int p4), .val (.int gg), .val (.int ss), .val (.int mn), .val (.int cc), .val (.ref b10), .val (.double (own_rec gg ss cc)), .second, .val (.double (FP.ddiv (FP.i2d cc) (FP.i2d gg))), .second, .val (.int (1 : Int32)), .val (.int (1 : Int32)), .val (.int (1 : Int32)), .unset, .unset] [(.ref b45), (.ref b45)])) _
            refine XS.iload X45.here hx rfl (hb hby at_262) rfl ?_
            show Steps p.tables e below (T45.setTop (mkF m 264 #[.val (.int p1), .val (.int p2), .val (.int p3), .val (.int p4), .val (.int gg), .val (.int ss), .val (.int mn), .val (.int cc), .val (.ref b10), .val (.double (own_rec gg ss cc)), .second, .val (.double (FP.ddiv (FP.i2d cc) (FP.i2d gg))), .second, .val (.int (1 : Int32)), .val (.int (1 : Int32)), .val (.int (1 : Int32)), .unset, .unset] [(.int ss), (.ref b45), (.ref b45)])) _
            refine XS.iload X45.here hx rfl (hb hby at_264) rfl ?_
            show Steps p.tables e below (T45.setTop (mkF m 266 #[.val (.int p1), .val (.int p2), .val (.int p3), .val (.int p4), .val (.int gg), .val (.int ss), .val (.int mn), .val (.int cc), .val (.ref b10), .val (.double (own_rec gg ss cc)), .second, .val (.double (FP.ddiv (FP.i2d cc) (FP.i2d gg))), .second, .val (.int (1 : Int32)), .val (.int (1 : Int32)), .val (.int (1 : Int32)), .unset, .unset] [(.int gg), (.int ss), (.ref b45), (.ref b45)])) _
            refine XS.iload X45.here hx rfl (hb hby at_266) rfl ?_
            exact kt
          refine Go.adv sg46 ?_
          obtain ⟨_, _, ⟨T47, L47, k47, n47⟩, -, X47, ⟨Lc47, hQ47, l47, y47, z47⟩, st47⟩ := X45.specialBack hx (y := (⟨"com/example/tally/tally/score/QuestionScore", "<init>", "(III)V"⟩ : MethodName)) rfl hown (mvT hZ (hw _ (List.mem_of_getElem? (i := 8) rfl))) (mvT hZ (hw _ (List.mem_of_getElem? (i := 9) rfl))) (mvT hZ (hw _ (List.mem_of_getElem? (i := 10) rfl))) (by decide) (backOf (W := 1) (rm_init l Z a0 hw [] b45 ss gg cc (.int (0 : Int32)) (.int (0 : Int32)) (.int (0 : Int32)) h45 n0 Z45 A45 g_b45 F_gold_b45 F_system_b45 F_correct_b45 (by assumption)) hZ (hw _ (List.mem_of_getElem? (i := 10) rfl)) (hw _ (List.mem_of_getElem? (i := 7) rfl)) (by decide) (by decide)) (g := (mkF m 268 #[.val (.int p1), .val (.int p2), .val (.int p3), .val (.int p4), .val (.int gg), .val (.int ss), .val (.int mn), .val (.int cc), .val (.ref b10), .val (.double (own_rec gg ss cc)), .second, .val (.double (FP.ddiv (FP.i2d cc) (FP.i2d gg))), .second, .val (.int (1 : Int32)), .val (.int (1 : Int32)), .val (.int (1 : Int32)), .unset, .unset] [(.int cc), (.int gg), (.int ss), (.ref b45), (.ref b45)])) rfl (by rw [hml]; rfl) (Steps.refl _) (a := b45) (argsL := [(.int ss), (.int gg), (.int cc)]) (rest := [(.ref b45)]) (lenOf pd_oIIIcV rfl) rfl (by show 2 * 0 + _ ≤ _; exact Nat.le_of_eq rfl) (hb hby at_268) (fun _ _ => ⟨rfl, e45, (by decide : 2 + 0 ≤ _), (by decide : 6 + 0 ≤ _)⟩)
          dsimp only [Pt.U, Pt.locs, Pt.cells, Pt.slots] at X47 l47 y47 z47 st47 hQ47
          subst l47 y47 z47
          obtain ⟨rfl, N47q, Kc47, p47_0, p47_1, p47_2, p47_3⟩ := hQ47
          have N47 := Fr.app N14 N47q
          have K47 : Keep h0 T47.heap [] := K45.trans Kc47 (allS (Or.inr sz_b45) all0)
          have Z47 : n0 ≤ T47.heap.size := Nat.le_trans Z45 Kc47.1
          refine Go.tr st47 ?_
          show Go p.tables e below s _ _ _ (T47.setTop (mkF m 271 #[.val (.int p1), .val (.int p2), .val (.int p3), .val (.int p4), .val (.int gg), .val (.int ss), .val (.int mn), .val (.int cc), .val (.ref b10), .val (.double (own_rec gg ss cc)), .second, .val (.double (FP.ddiv (FP.i2d cc) (FP.i2d gg))), .second, .val (.int (1 : Int32)), .val (.int (1 : Int32)), .val (.int (1 : Int32)), .unset, .unset] [(.ref b45)]))
          have sg48 : ∀ t, Steps p.tables e below (T47.setTop (mkF m 275 #[.val (.int p1), .val (.int p2), .val (.int p3), .val (.int p4), .val (.int gg), .val (.int ss), .val (.int mn), .val (.int cc), .val (.ref b10), .val (.double (own_rec gg ss cc)), .second, .val (.double (FP.ddiv (FP.i2d cc) (FP.i2d gg))), .second, .val (.int (1 : Int32)), .val (.int (1 : Int32)), .val (.int (1 : Int32)), .val (.ref b45), .unset] [(.ref b45)])) t → Steps p.tables e below (T47.setTop (mkF m 271 #[.val (.int p1), .val (.int p2), .val (.int p3), .val (.int p4), .val (.int gg), .val (.int ss), .val (.int mn), .val (.int cc), .val (.ref b10), .val (.double (own_rec gg ss cc)), .second, .val (.double (FP.ddiv (FP.i2d cc) (FP.i2d gg))), .second, .val (.int (1 : Int32)), .val (.int (1 : Int32)), .val (.int (1 : Int32)), .unset, .unset] [(.ref b45)])) t := by
            intro t kt
            show Steps p.tables e below (T47.setTop (mkF m 271 #[.val (.int p1), .val (.int p2), .val (.int p3), .val (.int p4), .val (.int gg), .val (.int ss), .val (.int mn), .val (.int cc), .val (.ref b10), .val (.double (own_rec gg ss cc)), .second, .val (.double (FP.ddiv (FP.i2d cc) (FP.i2d gg))), .second, .val (.int (1 : Int32)), .val (.int (1 : Int32)), .val (.int (1 : Int32)), .unset, .unset] [(.ref b45)])) _
            refine XS.astore X47.here hx rfl (hb hby at_271) rfl rfl (l' := #[.val (.int p1), .val (.int p2), .val (.int p3), .val (.int p4), .val (.int gg), .val (.int ss), .val (.int mn), .val (.int cc), .val (.ref b10), .val (.double (own_rec gg ss cc)), .second, .val (.double (FP.ddiv (FP.i2d cc) (FP.i2d gg))), .second, .val (.int (1 : Int32)), .val (.int (1 : Int32)), .val (.int (1 : Int32)), .val (.ref b45), .unset]) rfl ?_
            show Steps p.tables e below (T47.setTop (mkF m 273 #[.val (.int p1), .val (.int p2), .val (.int p3), .val (.int p4), .val (.int gg), .val (.int ss), .val (.int mn), .val (.int cc), .val (.ref b10), .val (.double (own_rec gg ss cc)), .second, .val (.double (FP.ddiv (FP.i2d cc) (FP.i2d gg))), .second, .val (.int (1 : Int32)), .val (.int (1 : Int32)), .val (.int (1 : Int32)), .val (.ref b45), .unset] [])) _
            refine XS.aload X47.here hx rfl (hb hby at_273) rfl rfl ?_
            exact kt
          refine Go.adv sg48 ?_
          obtain ⟨cq49, kq49, q49a, q49b, q49c⟩ := isOf hZ rfl p47_0
          obtain ⟨_, _, ⟨T49, L49, k49, n49⟩, -, X49, ⟨Lc49, hQ49, l49, y49, z49⟩, st49⟩ := X47.virtualBack hx (y := (⟨"com/example/tally/tally/score/QuestionScore", "precision", "()D"⟩ : MethodName)) (z := (⟨"com/example/tally/tally/score/QuestionScore", "precision", "()D"⟩ : MethodName)) hown (mvT hZ (hw _ (List.mem_of_getElem? (i := 30) rfl))) (mvT hZ (hw _ (List.mem_of_getElem? (i := 31) rfl))) (notFace_of_selects (args := #[]) (mvT hZ (hw _ (List.mem_of_getElem? (i := 33) rfl)))) (mvT hZ (hw _ (List.mem_of_getElem? (i := 33) rfl))) (mvT hZ (hw _ (List.mem_of_getElem? (i := 32) rfl))) (by decide) (backOf (W := 0) (rm_precision l Z a0 hw [] b45 ss gg cc T47.heap n0 Z47 p47_1 p47_2 p47_3) hZ (hw _ (List.mem_of_getElem? (i := 34) rfl)) (hw _ (List.mem_of_getElem? (i := 7) rfl)) (by decide) (by decide)) q49a q49c (g := (mkF m 275 #[.val (.int p1), .val (.int p2), .val (.int p3), .val (.int p4), .val (.int gg), .val (.int ss), .val (.int mn), .val (.int cc), .val (.ref b10), .val (.double (own_rec gg ss cc)), .second, .val (.double (FP.ddiv (FP.i2d cc) (FP.i2d gg))), .second, .val (.int (1 : Int32)), .val (.int (1 : Int32)), .val (.int (1 : Int32)), .val (.ref b45), .unset] [(.ref b45)])) rfl (by rw [hml]; rfl) (Steps.refl _) (argsL := []) (rest := []) (lenOf pd_ocD rfl) rfl (by show 2 * 0 + _ ≤ _; exact Nat.le_of_eq rfl) (hb hby at_275) (fun _ _ => ⟨rfl, rfl, (by decide : 2 + 0 ≤ _), (by decide : 6 + 0 ≤ _)⟩)
          dsimp only [Pt.U, Pt.locs, Pt.cells, Pt.slots] at X49 l49 y49 z49 st49 hQ49
          subst l49 y49 z49
          obtain ⟨rfl, N49q, e49⟩ := hQ49
          have N49 := Fr.app N47 N49q
          refine Go.tr st49 ?_
          show Go p.tables e below s _ _ _ (T49.setTop (mkF m 278 #[.val (.int p1), .val (.int p2), .val (.int p3), .val (.int p4), .val (.int gg), .val (.int ss), .val (.int mn), .val (.int cc), .val (.ref b10), .val (.double (own_rec gg ss cc)), .second, .val (.double (FP.ddiv (FP.i2d cc) (FP.i2d gg))), .second, .val (.int (1 : Int32)), .val (.int (1 : Int32)), .val (.int (1 : Int32)), .val (.ref b45), .unset] [(.double (own_prec ss gg cc))]))
          have sg50 : ∀ t, Steps p.tables e below (T49.setTop (mkF m 324 #[.val (.int p1), .val (.int p2), .val (.int p3), .val (.int p4), .val (.int gg), .val (.int ss), .val (.int mn), .val (.int cc), .val (.ref b10), .val (.double (own_rec gg ss cc)), .second, .val (.double (FP.ddiv (FP.i2d cc) (FP.i2d gg))), .second, .val (.int (1 : Int32)), .val (.int (1 : Int32)), .val (.int (1 : Int32)), .val (.ref b45), .val (.int (1 : Int32))] [(.int (1 : Int32))])) t → Steps p.tables e below (T49.setTop (mkF m 278 #[.val (.int p1), .val (.int p2), .val (.int p3), .val (.int p4), .val (.int gg), .val (.int ss), .val (.int mn), .val (.int cc), .val (.ref b10), .val (.double (own_rec gg ss cc)), .second, .val (.double (FP.ddiv (FP.i2d cc) (FP.i2d gg))), .second, .val (.int (1 : Int32)), .val (.int (1 : Int32)), .val (.int (1 : Int32)), .val (.ref b45), .unset] [(.double (own_prec ss gg cc))])) t := by
            intro t kt
            show Steps p.tables e below (T49.setTop (mkF m 278 #[.val (.int p1), .val (.int p2), .val (.int p3), .val (.int p4), .val (.int gg), .val (.int ss), .val (.int mn), .val (.int cc), .val (.ref b10), .val (.double (own_rec gg ss cc)), .second, .val (.double (FP.ddiv (FP.i2d cc) (FP.i2d gg))), .second, .val (.int (1 : Int32)), .val (.int (1 : Int32)), .val (.int (1 : Int32)), .val (.ref b45), .unset] [(.double (own_prec ss gg cc))])) _
            refine own_dload X49.here hx rfl (hb hby at_278) rfl ?_
            show Steps p.tables e below (T49.setTop (mkF m 280 #[.val (.int p1), .val (.int p2), .val (.int p3), .val (.int p4), .val (.int gg), .val (.int ss), .val (.int mn), .val (.int cc), .val (.ref b10), .val (.double (own_rec gg ss cc)), .second, .val (.double (FP.ddiv (FP.i2d cc) (FP.i2d gg))), .second, .val (.int (1 : Int32)), .val (.int (1 : Int32)), .val (.int (1 : Int32)), .val (.ref b45), .unset] [(.double (own_rec gg ss cc)), (.double (own_prec ss gg cc))])) _
            refine own_dcmp X49.here hx rfl (hb hby at_280) rfl ?_
            show Steps p.tables e below (T49.setTop (mkF m 281 #[.val (.int p1), .val (.int p2), .val (.int p3), .val (.int p4), .val (.int gg), .val (.int ss), .val (.int mn), .val (.int cc), .val (.ref b10), .val (.double (own_rec gg ss cc)), .second, .val (.double (FP.ddiv (FP.i2d cc) (FP.i2d gg))), .second, .val (.int (1 : Int32)), .val (.int (1 : Int32)), .val (.int (1 : Int32)), .val (.ref b45), .unset] [(.int (cmpValue (FP.dcmp (own_prec ss gg cc) (own_rec gg ss cc)) .l))])) _
            refine XS.ifNo X49.here hx rfl (hb hby at_281) rfl ((if0 _ _).trans (teq ((by rw [Own.cv_eq k2] <;> decide) : (cmpValue (FP.dcmp (own_prec ss gg cc) (own_rec gg ss cc)) .l) = (0 : Int32))).2) ?_
            show Steps p.tables e below (T49.setTop (mkF m 284 #[.val (.int p1), .val (.int p2), .val (.int p3), .val (.int p4), .val (.int gg), .val (.int ss), .val (.int mn), .val (.int cc), .val (.ref b10), .val (.double (own_rec gg ss cc)), .second, .val (.double (FP.ddiv (FP.i2d cc) (FP.i2d gg))), .second, .val (.int (1 : Int32)), .val (.int (1 : Int32)), .val (.int (1 : Int32)), .val (.ref b45), .unset] [])) _
            refine XS.iconst X49.here hx rfl (hb hby at_284) ?_
            show Steps p.tables e below (T49.setTop (mkF m 285 #[.val (.int p1), .val (.int p2), .val (.int p3), .val (.int p4), .val (.int gg), .val (.int ss), .val (.int mn), .val (.int cc), .val (.ref b10), .val (.double (own_rec gg ss cc)), .second, .val (.double (FP.ddiv (FP.i2d cc) (FP.i2d gg))), .second, .val (.int (1 : Int32)), .val (.int (1 : Int32)), .val (.int (1 : Int32)), .val (.ref b45), .unset] [(.int (1 : Int32))])) _
            refine XS.goto X49.here hx rfl (pc0 := 285) (pc' := 289) rfl (hb hby at_285) (by decide) (by decide) ?_
            show Steps p.tables e below (T49.setTop (mkF m 289 #[.val (.int p1), .val (.int p2), .val (.int p3), .val (.int p4), .val (.int gg), .val (.int ss), .val (.int mn), .val (.int cc), .val (.ref b10), .val (.double (own_rec gg ss cc)), .second, .val (.double (FP.ddiv (FP.i2d cc) (FP.i2d gg))), .second, .val (.int (1 : Int32)), .val (.int (1 : Int32)), .val (.int (1 : Int32)), .val (.ref b45), .unset] [(.int (1 : Int32))])) _
            refine XS.istore X49.here hx rfl (hb hby at_289) rfl (l' := #[.val (.int p1), .val (.int p2), .val (.int p3), .val (.int p4), .val (.int gg), .val (.int ss), .val (.int mn), .val (.int cc), .val (.ref b10), .val (.double (own_rec gg ss cc)), .second, .val (.double (FP.ddiv (FP.i2d cc) (FP.i2d gg))), .second, .val (.int (1 : Int32)), .val (.int (1 : Int32)), .val (.int (1 : Int32)), .val (.ref b45), .val (.int (1 : Int32))]) rfl ?_
            show Steps p.tables e below (T49.setTop (mkF m 291 #[.val (.int p1), .val (.int p2), .val (.int p3), .val (.int p4), .val (.int gg), .val (.int ss), .val (.int mn), .val (.int cc), .val (.ref b10), .val (.double (own_rec gg ss cc)), .second, .val (.double (FP.ddiv (FP.i2d cc) (FP.i2d gg))), .second, .val (.int (1 : Int32)), .val (.int (1 : Int32)), .val (.int (1 : Int32)), .val (.ref b45), .val (.int (1 : Int32))] [])) _
            refine own_dload X49.here hx rfl (hb hby at_291) rfl ?_
            show Steps p.tables e below (T49.setTop (mkF m 293 #[.val (.int p1), .val (.int p2), .val (.int p3), .val (.int p4), .val (.int gg), .val (.int ss), .val (.int mn), .val (.int cc), .val (.ref b10), .val (.double (own_rec gg ss cc)), .second, .val (.double (FP.ddiv (FP.i2d cc) (FP.i2d gg))), .second, .val (.int (1 : Int32)), .val (.int (1 : Int32)), .val (.int (1 : Int32)), .val (.ref b45), .val (.int (1 : Int32))] [(.double (own_rec gg ss cc))])) _
            refine own_dload X49.here hx rfl (hb hby at_293) rfl ?_
            show Steps p.tables e below (T49.setTop (mkF m 295 #[.val (.int p1), .val (.int p2), .val (.int p3), .val (.int p4), .val (.int gg), .val (.int ss), .val (.int mn), .val (.int cc), .val (.ref b10), .val (.double (own_rec gg ss cc)), .second, .val (.double (FP.ddiv (FP.i2d cc) (FP.i2d gg))), .second, .val (.int (1 : Int32)), .val (.int (1 : Int32)), .val (.int (1 : Int32)), .val (.ref b45), .val (.int (1 : Int32))] [(.double (FP.ddiv (FP.i2d cc) (FP.i2d gg))), (.double (own_rec gg ss cc))])) _
            refine own_dcmp X49.here hx rfl (hb hby at_295) rfl ?_
            show Steps p.tables e below (T49.setTop (mkF m 296 #[.val (.int p1), .val (.int p2), .val (.int p3), .val (.int p4), .val (.int gg), .val (.int ss), .val (.int mn), .val (.int cc), .val (.ref b10), .val (.double (own_rec gg ss cc)), .second, .val (.double (FP.ddiv (FP.i2d cc) (FP.i2d gg))), .second, .val (.int (1 : Int32)), .val (.int (1 : Int32)), .val (.int (1 : Int32)), .val (.ref b45), .val (.int (1 : Int32))] [(.int (cmpValue (FP.dcmp (own_rec gg ss cc) (FP.ddiv (FP.i2d cc) (FP.i2d gg))) .l))])) _
            refine XS.ifNo X49.here hx rfl (hb hby at_296) rfl ((if0 _ _).trans (teq ((by rw [Own.cv_eq k5] <;> decide) : (cmpValue (FP.dcmp (own_rec gg ss cc) (FP.ddiv (FP.i2d cc) (FP.i2d gg))) .l) = (0 : Int32))).2) ?_
            show Steps p.tables e below (T49.setTop (mkF m 299 #[.val (.int p1), .val (.int p2), .val (.int p3), .val (.int p4), .val (.int gg), .val (.int ss), .val (.int mn), .val (.int cc), .val (.ref b10), .val (.double (own_rec gg ss cc)), .second, .val (.double (FP.ddiv (FP.i2d cc) (FP.i2d gg))), .second, .val (.int (1 : Int32)), .val (.int (1 : Int32)), .val (.int (1 : Int32)), .val (.ref b45), .val (.int (1 : Int32))] [])) _
            refine XS.iload X49.here hx rfl (hb hby at_299) rfl ?_
            show Steps p.tables e below (T49.setTop (mkF m 301 #[.val (.int p1), .val (.int p2), .val (.int p3), .val (.int p4), .val (.int gg), .val (.int ss), .val (.int mn), .val (.int cc), .val (.ref b10), .val (.double (own_rec gg ss cc)), .second, .val (.double (FP.ddiv (FP.i2d cc) (FP.i2d gg))), .second, .val (.int (1 : Int32)), .val (.int (1 : Int32)), .val (.int (1 : Int32)), .val (.ref b45), .val (.int (1 : Int32))] [(.int (1 : Int32))])) _
            refine XS.ifNo X49.here hx rfl (hb hby at_301) rfl ((if0 _ _).trans (feq (by decide : ¬ ((1 : Int32) = (0 : Int32)))).1) ?_
            show Steps p.tables e below (T49.setTop (mkF m 304 #[.val (.int p1), .val (.int p2), .val (.int p3), .val (.int p4), .val (.int gg), .val (.int ss), .val (.int mn), .val (.int cc), .val (.ref b10), .val (.double (own_rec gg ss cc)), .second, .val (.double (FP.ddiv (FP.i2d cc) (FP.i2d gg))), .second, .val (.int (1 : Int32)), .val (.int (1 : Int32)), .val (.int (1 : Int32)), .val (.ref b45), .val (.int (1 : Int32))] [])) _
            refine XS.iload X49.here hx rfl (hb hby at_304) rfl ?_
            show Steps p.tables e below (T49.setTop (mkF m 306 #[.val (.int p1), .val (.int p2), .val (.int p3), .val (.int p4), .val (.int gg), .val (.int ss), .val (.int mn), .val (.int cc), .val (.ref b10), .val (.double (own_rec gg ss cc)), .second, .val (.double (FP.ddiv (FP.i2d cc) (FP.i2d gg))), .second, .val (.int (1 : Int32)), .val (.int (1 : Int32)), .val (.int (1 : Int32)), .val (.ref b45), .val (.int (1 : Int32))] [(.int (1 : Int32))])) _
            refine XS.ifNo X49.here hx rfl (hb hby at_306) rfl ((if0 _ _).trans (feq (by decide : ¬ ((1 : Int32) = (0 : Int32)))).1) ?_
            show Steps p.tables e below (T49.setTop (mkF m 309 #[.val (.int p1), .val (.int p2), .val (.int p3), .val (.int p4), .val (.int gg), .val (.int ss), .val (.int mn), .val (.int cc), .val (.ref b10), .val (.double (own_rec gg ss cc)), .second, .val (.double (FP.ddiv (FP.i2d cc) (FP.i2d gg))), .second, .val (.int (1 : Int32)), .val (.int (1 : Int32)), .val (.int (1 : Int32)), .val (.ref b45), .val (.int (1 : Int32))] [])) _
            refine XS.iload X49.here hx rfl (hb hby at_309) rfl ?_
            show Steps p.tables e below (T49.setTop (mkF m 311 #[.val (.int p1), .val (.int p2), .val (.int p3), .val (.int p4), .val (.int gg), .val (.int ss), .val (.int mn), .val (.int cc), .val (.ref b10), .val (.double (own_rec gg ss cc)), .second, .val (.double (FP.ddiv (FP.i2d cc) (FP.i2d gg))), .second, .val (.int (1 : Int32)), .val (.int (1 : Int32)), .val (.int (1 : Int32)), .val (.ref b45), .val (.int (1 : Int32))] [(.int (1 : Int32))])) _
            refine XS.ifNo X49.here hx rfl (hb hby at_311) rfl ((if0 _ _).trans (feq (by decide : ¬ ((1 : Int32) = (0 : Int32)))).1) ?_
            show Steps p.tables e below (T49.setTop (mkF m 314 #[.val (.int p1), .val (.int p2), .val (.int p3), .val (.int p4), .val (.int gg), .val (.int ss), .val (.int mn), .val (.int cc), .val (.ref b10), .val (.double (own_rec gg ss cc)), .second, .val (.double (FP.ddiv (FP.i2d cc) (FP.i2d gg))), .second, .val (.int (1 : Int32)), .val (.int (1 : Int32)), .val (.int (1 : Int32)), .val (.ref b45), .val (.int (1 : Int32))] [])) _
            refine XS.iload X49.here hx rfl (hb hby at_314) rfl ?_
            show Steps p.tables e below (T49.setTop (mkF m 316 #[.val (.int p1), .val (.int p2), .val (.int p3), .val (.int p4), .val (.int gg), .val (.int ss), .val (.int mn), .val (.int cc), .val (.ref b10), .val (.double (own_rec gg ss cc)), .second, .val (.double (FP.ddiv (FP.i2d cc) (FP.i2d gg))), .second, .val (.int (1 : Int32)), .val (.int (1 : Int32)), .val (.int (1 : Int32)), .val (.ref b45), .val (.int (1 : Int32))] [(.int (1 : Int32))])) _
            refine XS.ifNo X49.here hx rfl (hb hby at_316) rfl ((if0 _ _).trans (feq (by decide : ¬ ((1 : Int32) = (0 : Int32)))).1) ?_
            show Steps p.tables e below (T49.setTop (mkF m 319 #[.val (.int p1), .val (.int p2), .val (.int p3), .val (.int p4), .val (.int gg), .val (.int ss), .val (.int mn), .val (.int cc), .val (.ref b10), .val (.double (own_rec gg ss cc)), .second, .val (.double (FP.ddiv (FP.i2d cc) (FP.i2d gg))), .second, .val (.int (1 : Int32)), .val (.int (1 : Int32)), .val (.int (1 : Int32)), .val (.ref b45), .val (.int (1 : Int32))] [])) _
            refine XS.iconst X49.here hx rfl (hb hby at_319) ?_
            show Steps p.tables e below (T49.setTop (mkF m 320 #[.val (.int p1), .val (.int p2), .val (.int p3), .val (.int p4), .val (.int gg), .val (.int ss), .val (.int mn), .val (.int cc), .val (.ref b10), .val (.double (own_rec gg ss cc)), .second, .val (.double (FP.ddiv (FP.i2d cc) (FP.i2d gg))), .second, .val (.int (1 : Int32)), .val (.int (1 : Int32)), .val (.int (1 : Int32)), .val (.ref b45), .val (.int (1 : Int32))] [(.int (1 : Int32))])) _
            refine XS.goto X49.here hx rfl (pc0 := 320) (pc' := 324) rfl (hb hby at_320) (by decide) (by decide) ?_
            exact kt
          refine Go.adv sg50 ?_
          refine Go.ret (v := (some (.int (1 : Int32)))) X49 (fun h => by rw [Bd.returns] at h; cases h) Bd.notSynchronized (fun fs hr => retN X49 hx (t := .boolean) Bd.returns (by simp) (hb hby at_324) hr) ?_ (by decide) (by decide)
          show Q_rm0 Z p1 p2 p3 p4 h0 n0 (some (.int (1 : Int32))) T49.heap _
          rw [e49]
          exact ⟨rfl, N49⟩
        · rw [if_neg hcg] at k1
          have sg51 : ∀ t, Steps p.tables e below (T14.setTop (mkF m 258 #[.val (.int p1), .val (.int p2), .val (.int p3), .val (.int p4), .val (.int gg), .val (.int ss), .val (.int mn), .val (.int cc), .val (.ref b10), .val (.double (own_rec gg ss cc)), .second, .val (.double (FP.ddiv (FP.i2d cc) (FP.i2d gg))), .second, .val (.int (1 : Int32)), .val (.int (1 : Int32)), .val (.int (1 : Int32)), .unset, .unset] [])) t → Steps p.tables e below (T14.setTop (mkF m 94 #[.val (.int p1), .val (.int p2), .val (.int p3), .val (.int p4), .val (.int gg), .val (.int ss), .val (.int mn), .val (.int cc), .val (.ref b10), .val (.double (own_rec gg ss cc)), .second, .unset, .unset, .unset, .unset, .unset, .unset, .unset] [])) t := by
            intro t kt
            show Steps p.tables e below (T14.setTop (mkF m 94 #[.val (.int p1), .val (.int p2), .val (.int p3), .val (.int p4), .val (.int gg), .val (.int ss), .val (.int mn), .val (.int cc), .val (.ref b10), .val (.double (own_rec gg ss cc)), .second, .unset, .unset, .unset, .unset, .unset, .unset, .unset] [])) _
            refine XS.iload X14.here hx rfl (hb hby at_94) rfl ?_
            show Steps p.tables e below (T14.setTop (mkF m 96 #[.val (.int p1), .val (.int p2), .val (.int p3), .val (.int p4), .val (.int gg), .val (.int ss), .val (.int mn), .val (.int cc), .val (.ref b10), .val (.double (own_rec gg ss cc)), .second, .unset, .unset, .unset, .unset, .unset, .unset, .unset] [(.int gg)])) _
            refine XS.ifYes X14.here hx rfl (pc0 := 96) (pc' := 110) rfl (hb hby at_96) rfl ((if0 _ _).trans (feq (hg : ¬ (gg = (0 : Int32)))).2) (by decide) (by decide) ?_
            show Steps p.tables e below (T14.setTop (mkF m 110 #[.val (.int p1), .val (.int p2), .val (.int p3), .val (.int p4), .val (.int gg), .val (.int ss), .val (.int mn), .val (.int cc), .val (.ref b10), .val (.double (own_rec gg ss cc)), .second, .unset, .unset, .unset, .unset, .unset, .unset, .unset] [])) _
            refine XS.iload X14.here hx rfl (hb hby at_110) rfl ?_
            show Steps p.tables e below (T14.setTop (mkF m 112 #[.val (.int p1), .val (.int p2), .val (.int p3), .val (.int p4), .val (.int gg), .val (.int ss), .val (.int mn), .val (.int cc), .val (.ref b10), .val (.double (own_rec gg ss cc)), .second, .unset, .unset, .unset, .unset, .unset, .unset, .unset] [(.int gg)])) _
            refine XS.ifYes X14.here hx rfl (pc0 := 112) (pc' := 121) rfl (hb hby at_112) rfl ((if0 _ _).trans (feq (hg : ¬ (gg = (0 : Int32)))).2) (by decide) (by decide) ?_
            show Steps p.tables e below (T14.setTop (mkF m 121 #[.val (.int p1), .val (.int p2), .val (.int p3), .val (.int p4), .val (.int gg), .val (.int ss), .val (.int mn), .val (.int cc), .val (.ref b10), .val (.double (own_rec gg ss cc)), .second, .unset, .unset, .unset, .unset, .unset, .unset, .unset] [])) _
            refine XS.iload X14.here hx rfl (hb hby at_121) rfl ?_
            show Steps p.tables e below (T14.setTop (mkF m 123 #[.val (.int p1), .val (.int p2), .val (.int p3), .val (.int p4), .val (.int gg), .val (.int ss), .val (.int mn), .val (.int cc), .val (.ref b10), .val (.double (own_rec gg ss cc)), .second, .unset, .unset, .unset, .unset, .unset, .unset, .unset] [(.int ss)])) _
            refine XS.ifYes X14.here hx rfl (pc0 := 123) (pc' := 132) rfl (hb hby at_123) rfl ((if0 _ _).trans (feq (hs : ¬ (ss = (0 : Int32)))).2) (by decide) (by decide) ?_
            show Steps p.tables e below (T14.setTop (mkF m 132 #[.val (.int p1), .val (.int p2), .val (.int p3), .val (.int p4), .val (.int gg), .val (.int ss), .val (.int mn), .val (.int cc), .val (.ref b10), .val (.double (own_rec gg ss cc)), .second, .unset, .unset, .unset, .unset, .unset, .unset, .unset] [])) _
            refine XS.iload X14.here hx rfl (hb hby at_132) rfl ?_
            show Steps p.tables e below (T14.setTop (mkF m 134 #[.val (.int p1), .val (.int p2), .val (.int p3), .val (.int p4), .val (.int gg), .val (.int ss), .val (.int mn), .val (.int cc), .val (.ref b10), .val (.double (own_rec gg ss cc)), .second, .unset, .unset, .unset, .unset, .unset, .unset, .unset] [(.int cc)])) _
            refine own_i2d X14.here hx rfl (hb hby at_134) rfl ?_
            show Steps p.tables e below (T14.setTop (mkF m 135 #[.val (.int p1), .val (.int p2), .val (.int p3), .val (.int p4), .val (.int gg), .val (.int ss), .val (.int mn), .val (.int cc), .val (.ref b10), .val (.double (own_rec gg ss cc)), .second, .unset, .unset, .unset, .unset, .unset, .unset, .unset] [(.double (FP.i2d cc))])) _
            refine XS.iload X14.here hx rfl (hb hby at_135) rfl ?_
            show Steps p.tables e below (T14.setTop (mkF m 137 #[.val (.int p1), .val (.int p2), .val (.int p3), .val (.int p4), .val (.int gg), .val (.int ss), .val (.int mn), .val (.int cc), .val (.ref b10), .val (.double (own_rec gg ss cc)), .second, .unset, .unset, .unset, .unset, .unset, .unset, .unset] [(.int gg), (.double (FP.i2d cc))])) _
            refine own_i2d X14.here hx rfl (hb hby at_137) rfl ?_
            show Steps p.tables e below (T14.setTop (mkF m 138 #[.val (.int p1), .val (.int p2), .val (.int p3), .val (.int p4), .val (.int gg), .val (.int ss), .val (.int mn), .val (.int cc), .val (.ref b10), .val (.double (own_rec gg ss cc)), .second, .unset, .unset, .unset, .unset, .unset, .unset, .unset] [(.double (FP.i2d gg)), (.double (FP.i2d cc))])) _
            refine own_ddiv X14.here hx rfl (hb hby at_138) rfl k6 ?_
            show Steps p.tables e below (T14.setTop (mkF m 139 #[.val (.int p1), .val (.int p2), .val (.int p3), .val (.int p4), .val (.int gg), .val (.int ss), .val (.int mn), .val (.int cc), .val (.ref b10), .val (.double (own_rec gg ss cc)), .second, .unset, .unset, .unset, .unset, .unset, .unset, .unset] [(.double (FP.ddiv (FP.i2d cc) (FP.i2d gg)))])) _
            refine own_dstore X14.here hx rfl (hb hby at_139) rfl (l' := #[.val (.int p1), .val (.int p2), .val (.int p3), .val (.int p4), .val (.int gg), .val (.int ss), .val (.int mn), .val (.int cc), .val (.ref b10), .val (.double (own_rec gg ss cc)), .second, .val (.double (FP.ddiv (FP.i2d cc) (FP.i2d gg))), .second, .unset, .unset, .unset, .unset, .unset]) rfl ?_
            show Steps p.tables e below (T14.setTop (mkF m 141 #[.val (.int p1), .val (.int p2), .val (.int p3), .val (.int p4), .val (.int gg), .val (.int ss), .val (.int mn), .val (.int cc), .val (.ref b10), .val (.double (own_rec gg ss cc)), .second, .val (.double (FP.ddiv (FP.i2d cc) (FP.i2d gg))), .second, .unset, .unset, .unset, .unset, .unset] [])) _
            refine own_dconst0 X14.here hx rfl (hb hby at_141) ?_
            show Steps p.tables e below (T14.setTop (mkF m 142 #[.val (.int p1), .val (.int p2), .val (.int p3), .val (.int p4), .val (.int gg), .val (.int ss), .val (.int mn), .val (.int cc), .val (.ref b10), .val (.double (own_rec gg ss cc)), .second, .val (.double (FP.ddiv (FP.i2d cc) (FP.i2d gg))), .second, .unset, .unset, .unset, .unset, .unset] [(.double (0 : UInt64))])) _
            refine own_dload X14.here hx rfl (hb hby at_142) rfl ?_
            show Steps p.tables e below (T14.setTop (mkF m 144 #[.val (.int p1), .val (.int p2), .val (.int p3), .val (.int p4), .val (.int gg), .val (.int ss), .val (.int mn), .val (.int cc), .val (.ref b10), .val (.double (own_rec gg ss cc)), .second, .val (.double (FP.ddiv (FP.i2d cc) (FP.i2d gg))), .second, .unset, .unset, .unset, .unset, .unset] [(.double (own_rec gg ss cc)), (.double (0 : UInt64))])) _
            refine own_dcmp X14.here hx rfl (hb hby at_144) rfl ?_
            show Steps p.tables e below (T14.setTop (mkF m 145 #[.val (.int p1), .val (.int p2), .val (.int p3), .val (.int p4), .val (.int gg), .val (.int ss), .val (.int mn), .val (.int cc), .val (.ref b10), .val (.double (own_rec gg ss cc)), .second, .val (.double (FP.ddiv (FP.i2d cc) (FP.i2d gg))), .second, .unset, .unset, .unset, .unset, .unset] [(.int (cmpValue (FP.dcmp (0 : UInt64) (own_rec gg ss cc)) .g))])) _
            refine XS.ifNo X14.here hx rfl (hb hby at_145) rfl ((if0 _ _).trans (flt ((by rw [Own.cv_lt k3] <;> decide) : ¬ ((0 : Int32) < (cmpValue (FP.dcmp (0 : UInt64) (own_rec gg ss cc)) .g)))).2.2.1) ?_
            show Steps p.tables e below (T14.setTop (mkF m 148 #[.val (.int p1), .val (.int p2), .val (.int p3), .val (.int p4), .val (.int gg), .val (.int ss), .val (.int mn), .val (.int cc), .val (.ref b10), .val (.double (own_rec gg ss cc)), .second, .val (.double (FP.ddiv (FP.i2d cc) (FP.i2d gg))), .second, .unset, .unset, .unset, .unset, .unset] [])) _
            refine own_dload X14.here hx rfl (hb hby at_148) rfl ?_
            show Steps p.tables e below (T14.setTop (mkF m 150 #[.val (.int p1), .val (.int p2), .val (.int p3), .val (.int p4), .val (.int gg), .val (.int ss), .val (.int mn), .val (.int cc), .val (.ref b10), .val (.double (own_rec gg ss cc)), .second, .val (.double (FP.ddiv (FP.i2d cc) (FP.i2d gg))), .second, .unset, .unset, .unset, .unset, .unset] [(.double (own_rec gg ss cc))])) _
            refine own_dconst1 X14.here hx rfl (hb hby at_150) ?_
            show Steps p.tables e below (T14.setTop (mkF m 151 #[.val (.int p1), .val (.int p2), .val (.int p3), .val (.int p4), .val (.int gg), .val (.int ss), .val (.int mn), .val (.int cc), .val (.ref b10), .val (.double (own_rec gg ss cc)), .second, .val (.double (FP.ddiv (FP.i2d cc) (FP.i2d gg))), .second, .unset, .unset, .unset, .unset, .unset] [(.double (4607182418800017408 : UInt64)), (.double (own_rec gg ss cc))])) _
            refine own_dcmp X14.here hx rfl (hb hby at_151) rfl ?_
            show Steps p.tables e below (T14.setTop (mkF m 152 #[.val (.int p1), .val (.int p2), .val (.int p3), .val (.int p4), .val (.int gg), .val (.int ss), .val (.int mn), .val (.int cc), .val (.ref b10), .val (.double (own_rec gg ss cc)), .second, .val (.double (FP.ddiv (FP.i2d cc) (FP.i2d gg))), .second, .unset, .unset, .unset, .unset, .unset] [(.int (cmpValue (FP.dcmp (own_rec gg ss cc) (4607182418800017408 : UInt64)) .g))])) _
            refine XS.ifNo X14.here hx rfl (hb hby at_152) rfl ((if0 _ _).trans (flt ((by rw [Own.cv_lt k1] <;> decide) : ¬ ((0 : Int32) < (cmpValue (FP.dcmp (own_rec gg ss cc) (4607182418800017408 : UInt64)) .g)))).2.2.1) ?_
            show Steps p.tables e below (T14.setTop (mkF m 155 #[.val (.int p1), .val (.int p2), .val (.int p3), .val (.int p4), .val (.int gg), .val (.int ss), .val (.int mn), .val (.int cc), .val (.ref b10), .val (.double (own_rec gg ss cc)), .second, .val (.double (FP.ddiv (FP.i2d cc) (FP.i2d gg))), .second, .unset, .unset, .unset, .unset, .unset] [])) _
            refine XS.iconst X14.here hx rfl (hb hby at_155) ?_
            show Steps p.tables e below (T14.setTop (mkF m 156 #[.val (.int p1), .val (.int p2), .val (.int p3), .val (.int p4), .val (.int gg), .val (.int ss), .val (.int mn), .val (.int cc), .val (.ref b10), .val (.double (own_rec gg ss cc)), .second, .val (.double (FP.ddiv (FP.i2d cc) (FP.i2d gg))), .second, .unset, .unset, .unset, .unset, .unset] [(.int (1 : Int32))])) _
            refine XS.goto X14.here hx rfl (pc0 := 156) (pc' := 160) rfl (hb hby at_156) (by decide) (by decide) ?_
            show Steps p.tables e below (T14.setTop (mkF m 160 #[.val (.int p1), .val (.int p2), .val (.int p3), .val (.int p4), .val (.int gg), .val (.int ss), .val (.int mn), .val (.int cc), .val (.ref b10), .val (.double (own_rec gg ss cc)), .second, .val (.double (FP.ddiv (FP.i2d cc) (FP.i2d gg))), .second, .unset, .unset, .unset, .unset, .unset] [(.int (1 : Int32))])) _
            refine XS.istore X14.here hx rfl (hb hby at_160) rfl (l' := #[.val (.int p1), .val (.int p2), .val (.int p3), .val (.int p4), .val (.int gg), .val (.int ss), .val (.int mn), .val (.int cc), .val (.ref b10), .val (.double (own_rec gg ss cc)), .second, .val (.double (FP.ddiv (FP.i2d cc) (FP.i2d gg))), .second, .val (.int (1 : Int32)), .unset, .unset, .unset, .unset]) rfl ?_
            show Steps p.tables e below (T14.setTop (mkF m 162 #[.val (.int p1), .val (.int p2), .val (.int p3), .val (.int p4), .val (.int gg), .val (.int ss), .val (.int mn), .val (.int cc), .val (.ref b10), .val (.double (own_rec gg ss cc)), .second, .val (.double (FP.ddiv (FP.i2d cc) (FP.i2d gg))), .second, .val (.int (1 : Int32)), .unset, .unset, .unset, .unset] [])) _
            refine own_dload X14.here hx rfl (hb hby at_162) rfl ?_
            show Steps p.tables e below (T14.setTop (mkF m 164 #[.val (.int p1), .val (.int p2), .val (.int p3), .val (.int p4), .val (.int gg), .val (.int ss), .val (.int mn), .val (.int cc), .val (.ref b10), .val (.double (own_rec gg ss cc)), .second, .val (.double (FP.ddiv (FP.i2d cc) (FP.i2d gg))), .second, .val (.int (1 : Int32)), .unset, .unset, .unset, .unset] [(.double (own_rec gg ss cc))])) _
            refine own_dconst1 X14.here hx rfl (hb hby at_164) ?_
            show Steps p.tables e below (T14.setTop (mkF m 165 #[.val (.int p1), .val (.int p2), .val (.int p3), .val (.int p4), .val (.int gg), .val (.int ss), .val (.int mn), .val (.int cc), .val (.ref b10), .val (.double (own_rec gg ss cc)), .second, .val (.double (FP.ddiv (FP.i2d cc) (FP.i2d gg))), .second, .val (.int (1 : Int32)), .unset, .unset, .unset, .unset] [(.double (4607182418800017408 : UInt64)), (.double (own_rec gg ss cc))])) _
            refine own_dcmp X14.here hx rfl (hb hby at_165) rfl ?_
            show Steps p.tables e below (T14.setTop (mkF m 166 #[.val (.int p1), .val (.int p2), .val (.int p3), .val (.int p4), .val (.int gg), .val (.int ss), .val (.int mn), .val (.int cc), .val (.ref b10), .val (.double (own_rec gg ss cc)), .second, .val (.double (FP.ddiv (FP.i2d cc) (FP.i2d gg))), .second, .val (.int (1 : Int32)), .unset, .unset, .unset, .unset] [(.int (cmpValue (FP.dcmp (own_rec gg ss cc) (4607182418800017408 : UInt64)) .l))])) _
            refine XS.ifYes X14.here hx rfl (pc0 := 166) (pc' := 173) rfl (hb hby at_166) rfl ((if0 _ _).trans (feq ((by rw [Own.cv_lt k1] <;> decide) : ¬ ((cmpValue (FP.dcmp (own_rec gg ss cc) (4607182418800017408 : UInt64)) .l) = (0 : Int32)))).2) (by decide) (by decide) ?_
            show Steps p.tables e below (T14.setTop (mkF m 173 #[.val (.int p1), .val (.int p2), .val (.int p3), .val (.int p4), .val (.int gg), .val (.int ss), .val (.int mn), .val (.int cc), .val (.ref b10), .val (.double (own_rec gg ss cc)), .second, .val (.double (FP.ddiv (FP.i2d cc) (FP.i2d gg))), .second, .val (.int (1 : Int32)), .unset, .unset, .unset, .unset] [])) _
            refine XS.iconst X14.here hx rfl (hb hby at_173) ?_
            show Steps p.tables e below (T14.setTop (mkF m 174 #[.val (.int p1), .val (.int p2), .val (.int p3), .val (.int p4), .val (.int gg), .val (.int ss), .val (.int mn), .val (.int cc), .val (.ref b10), .val (.double (own_rec gg ss cc)), .second, .val (.double (FP.ddiv (FP.i2d cc) (FP.i2d gg))), .second, .val (.int (1 : Int32)), .unset, .unset, .unset, .unset] [(.int (0 : Int32))])) _
            refine XS.iload X14.here hx rfl (hb hby at_174) rfl ?_
            show Steps p.tables e below (T14.setTop (mkF m 176 #[.val (.int p1), .val (.int p2), .val (.int p3), .val (.int p4), .val (.int gg), .val (.int ss), .val (.int mn), .val (.int cc), .val (.ref b10), .val (.double (own_rec gg ss cc)), .second, .val (.double (FP.ddiv (FP.i2d cc) (FP.i2d gg))), .second, .val (.int (1 : Int32)), .unset, .unset, .unset, .unset] [(.int gg), (.int (0 : Int32))])) _
            refine XS.ifYes X14.here hx rfl (pc0 := 176) (pc' := 184) rfl (hb hby at_176) rfl ((if0 _ _).trans (feq (hg : ¬ (gg = (0 : Int32)))).2) (by decide) (by decide) ?_
            show Steps p.tables e below (T14.setTop (mkF m 184 #[.val (.int p1), .val (.int p2), .val (.int p3), .val (.int p4), .val (.int gg), .val (.int ss), .val (.int mn), .val (.int cc), .val (.ref b10), .val (.double (own_rec gg ss cc)), .second, .val (.double (FP.ddiv (FP.i2d cc) (FP.i2d gg))), .second, .val (.int (1 : Int32)), .unset, .unset, .unset, .unset] [(.int (0 : Int32))])) _
            refine XS.iload X14.here hx rfl (hb hby at_184) rfl ?_
            show Steps p.tables e below (T14.setTop (mkF m 186 #[.val (.int p1), .val (.int p2), .val (.int p3), .val (.int p4), .val (.int gg), .val (.int ss), .val (.int mn), .val (.int cc), .val (.ref b10), .val (.double (own_rec gg ss cc)), .second, .val (.double (FP.ddiv (FP.i2d cc) (FP.i2d gg))), .second, .val (.int (1 : Int32)), .unset, .unset, .unset, .unset] [(.int gg), (.int (0 : Int32))])) _
            refine XS.ifNo X14.here hx rfl (hb hby at_186) rfl ((if0 _ _).trans (tlt (hgp : (0 : Int32) < gg)).2.2.2) ?_
            show Steps p.tables e below (T14.setTop (mkF m 189 #[.val (.int p1), .val (.int p2), .val (.int p3), .val (.int p4), .val (.int gg), .val (.int ss), .val (.int mn), .val (.int cc), .val (.ref b10), .val (.double (own_rec gg ss cc)), .second, .val (.double (FP.ddiv (FP.i2d cc) (FP.i2d gg))), .second, .val (.int (1 : Int32)), .unset, .unset, .unset, .unset] [(.int (0 : Int32))])) _
            refine XS.iload X14.here hx rfl (hb hby at_189) rfl ?_
            show Steps p.tables e below (T14.setTop (mkF m 191 #[.val (.int p1), .val (.int p2), .val (.int p3), .val (.int p4), .val (.int gg), .val (.int ss), .val (.int mn), .val (.int cc), .val (.ref b10), .val (.double (own_rec gg ss cc)), .second, .val (.double (FP.ddiv (FP.i2d cc) (FP.i2d gg))), .second, .val (.int (1 : Int32)), .unset, .unset, .unset, .unset] [(.int cc), (.int (0 : Int32))])) _
            refine XS.iload X14.here hx rfl (hb hby at_191) rfl ?_
            show Steps p.tables e below (T14.setTop (mkF m 193 #[.val (.int p1), .val (.int p2), .val (.int p3), .val (.int p4), .val (.int gg), .val (.int ss), .val (.int mn), .val (.int cc), .val (.ref b10), .val (.double (own_rec gg ss cc)), .second, .val (.double (FP.ddiv (FP.i2d cc) (FP.i2d gg))), .second, .val (.int (1 : Int32)), .unset, .unset, .unset, .unset] [(.int gg), (.int cc), (.int (0 : Int32))])) _
            refine XS.icmpYes X14.here hx rfl (pc0 := 193) (pc' := 200) rfl (hb hby at_193) rfl (feq (hcg : ¬ (cc = gg))).2 (by decide) (by decide) ?_
            show Steps p.tables e below (T14.setTop (mkF m 200 #[.val (.int p1), .val (.int p2), .val (.int p3), .val (.int p4), .val (.int gg), .val (.int ss), .val (.int mn), .val (.int cc), .val (.ref b10), .val (.double (own_rec gg ss cc)), .second, .val (.double (FP.ddiv (FP.i2d cc) (FP.i2d gg))), .second, .val (.int (1 : Int32)), .unset, .unset, .unset, .unset] [(.int (0 : Int32))])) _
            refine XS.iconst X14.here hx rfl (hb hby at_200) ?_
            show Steps p.tables e below (T14.setTop (mkF m 201 #[.val (.int p1), .val (.int p2), .val (.int p3), .val (.int p4), .val (.int gg), .val (.int ss), .val (.int mn), .val (.int cc), .val (.ref b10), .val (.double (own_rec gg ss cc)), .second, .val (.double (FP.ddiv (FP.i2d cc) (FP.i2d gg))), .second, .val (.int (1 : Int32)), .unset, .unset, .unset, .unset] [(.int (0 : Int32)), (.int (0 : Int32))])) _
            refine XS.icmpNo X14.here hx rfl (hb hby at_201) rfl (teq (by decide : (0 : Int32) = (0 : Int32))).2 ?_
            show Steps p.tables e below (T14.setTop (mkF m 204 #[.val (.int p1), .val (.int p2), .val (.int p3), .val (.int p4), .val (.int gg), .val (.int ss), .val (.int mn), .val (.int cc), .val (.ref b10), .val (.double (own_rec gg ss cc)), .second, .val (.double (FP.ddiv (FP.i2d cc) (FP.i2d gg))), .second, .val (.int (1 : Int32)), .unset, .unset, .unset, .unset] [])) _
            refine XS.iconst X14.here hx rfl (hb hby at_204) ?_
            show Steps p.tables e below (T14.setTop (mkF m 205 #[.val (.int p1), .val (.int p2), .val (.int p3), .val (.int p4), .val (.int gg), .val (.int ss), .val (.int mn), .val (.int cc), .val (.ref b10), .val (.double (own_rec gg ss cc)), .second, .val (.double (FP.ddiv (FP.i2d cc) (FP.i2d gg))), .second, .val (.int (1 : Int32)), .unset, .unset, .unset, .unset] [(.int (1 : Int32))])) _
            refine XS.goto X14.here hx rfl (pc0 := 205) (pc' := 209) rfl (hb hby at_205) (by decide) (by decide) ?_
            show Steps p.tables e below (T14.setTop (mkF m 209 #[.val (.int p1), .val (.int p2), .val (.int p3), .val (.int p4), .val (.int gg), .val (.int ss), .val (.int mn), .val (.int cc), .val (.ref b10), .val (.double (own_rec gg ss cc)), .second, .val (.double (FP.ddiv (FP.i2d cc) (FP.i2d gg))), .second, .val (.int (1 : Int32)), .unset, .unset, .unset, .unset] [(.int (1 : Int32))])) _
            refine XS.istore X14.here hx rfl (hb hby at_209) rfl (l' := #[.val (.int p1), .val (.int p2), .val (.int p3), .val (.int p4), .val (.int gg), .val (.int ss), .val (.int mn), .val (.int cc), .val (.ref b10), .val (.double (own_rec gg ss cc)), .second, .val (.double (FP.ddiv (FP.i2d cc) (FP.i2d gg))), .second, .val (.int (1 : Int32)), .val (.int (1 : Int32)), .unset, .unset, .unset]) rfl ?_
            show Steps p.tables e below (T14.setTop (mkF m 211 #[.val (.int p1), .val (.int p2), .val (.int p3), .val (.int p4), .val (.int gg), .val (.int ss), .val (.int mn), .val (.int cc), .val (.ref b10), .val (.double (own_rec gg ss cc)), .second, .val (.double (FP.ddiv (FP.i2d cc) (FP.i2d gg))), .second, .val (.int (1 : Int32)), .val (.int (1 : Int32)), .unset, .unset, .unset] [])) _
            refine own_dload X14.here hx rfl (hb hby at_211) rfl ?_
            show Steps p.tables e below (T14.setTop (mkF m 213 #[.val (.int p1), .val (.int p2), .val (.int p3), .val (.int p4), .val (.int gg), .val (.int ss), .val (.int mn), .val (.int cc), .val (.ref b10), .val (.double (own_rec gg ss cc)), .second, .val (.double (FP.ddiv (FP.i2d cc) (FP.i2d gg))), .second, .val (.int (1 : Int32)), .val (.int (1 : Int32)), .unset, .unset, .unset] [(.double (own_rec gg ss cc))])) _
            refine own_dconst0 X14.here hx rfl (hb hby at_213) ?_
            show Steps p.tables e below (T14.setTop (mkF m 214 #[.val (.int p1), .val (.int p2), .val (.int p3), .val (.int p4), .val (.int gg), .val (.int ss), .val (.int mn), .val (.int cc), .val (.ref b10), .val (.double (own_rec gg ss cc)), .second, .val (.double (FP.ddiv (FP.i2d cc) (FP.i2d gg))), .second, .val (.int (1 : Int32)), .val (.int (1 : Int32)), .unset, .unset, .unset] [(.double (0 : UInt64)), (.double (own_rec gg ss cc))])) _
            refine own_dcmp X14.here hx rfl (hb hby at_214) rfl ?_
            show Steps p.tables e below (T14.setTop (mkF m 215 #[.val (.int p1), .val (.int p2), .val (.int p3), .val (.int p4), .val (.int gg), .val (.int ss), .val (.int mn), .val (.int cc), .val (.ref b10), .val (.double (own_rec gg ss cc)), .second, .val (.double (FP.ddiv (FP.i2d cc) (FP.i2d gg))), .second, .val (.int (1 : Int32)), .val (.int (1 : Int32)), .unset, .unset, .unset] [(.int (cmpValue (FP.dcmp (own_rec gg ss cc) (0 : UInt64)) .l))])) _
            refine XS.ifYes X14.here hx rfl (pc0 := 215) (pc' := 222) rfl (hb hby at_215) rfl ((if0 _ _).trans (feq ((by rw [Own.cv_gt k4] <;> decide) : ¬ ((cmpValue (FP.dcmp (own_rec gg ss cc) (0 : UInt64)) .l) = (0 : Int32)))).2) (by decide) (by decide) ?_
            show Steps p.tables e below (T14.setTop (mkF m 222 #[.val (.int p1), .val (.int p2), .val (.int p3), .val (.int p4), .val (.int gg), .val (.int ss), .val (.int mn), .val (.int cc), .val (.ref b10), .val (.double (own_rec gg ss cc)), .second, .val (.double (FP.ddiv (FP.i2d cc) (FP.i2d gg))), .second, .val (.int (1 : Int32)), .val (.int (1 : Int32)), .unset, .unset, .unset] [])) _
            refine XS.iconst X14.here hx rfl (hb hby at_222) ?_
            show Steps p.tables e below (T14.setTop (mkF m 223 #[.val (.int p1), .val (.int p2), .val (.int p3), .val (.int p4), .val (.int gg), .val (.int ss), .val (.int mn), .val (.int cc), .val (.ref b10), .val (.double (own_rec gg ss cc)), .second, .val (.double (FP.ddiv (FP.i2d cc) (FP.i2d gg))), .second, .val (.int (1 : Int32)), .val (.int (1 : Int32)), .unset, .unset, .unset] [(.int (0 : Int32))])) _
            refine XS.iload X14.here hx rfl (hb hby at_223) rfl ?_
            show Steps p.tables e below (T14.setTop (mkF m 225 #[.val (.int p1), .val (.int p2), .val (.int p3), .val (.int p4), .val (.int gg), .val (.int ss), .val (.int mn), .val (.int cc), .val (.ref b10), .val (.double (own_rec gg ss cc)), .second, .val (.double (FP.ddiv (FP.i2d cc) (FP.i2d gg))), .second, .val (.int (1 : Int32)), .val (.int (1 : Int32)), .unset, .unset, .unset] [(.int gg), (.int (0 : Int32))])) _
            refine XS.ifYes X14.here hx rfl (pc0 := 225) (pc' := 233) rfl (hb hby at_225) rfl ((if0 _ _).trans (feq (hg : ¬ (gg = (0 : Int32)))).2) (by decide) (by decide) ?_
            show Steps p.tables e below (T14.setTop (mkF m 233 #[.val (.int p1), .val (.int p2), .val (.int p3), .val (.int p4), .val (.int gg), .val (.int ss), .val (.int mn), .val (.int cc), .val (.ref b10), .val (.double (own_rec gg ss cc)), .second, .val (.double (FP.ddiv (FP.i2d cc) (FP.i2d gg))), .second, .val (.int (1 : Int32)), .val (.int (1 : Int32)), .unset, .unset, .unset] [(.int (0 : Int32))])) _
            refine XS.iload X14.here hx rfl (hb hby at_233) rfl ?_
            show Steps p.tables e below (T14.setTop (mkF m 235 #[.val (.int p1), .val (.int p2), .val (.int p3), .val (.int p4), .val (.int gg), .val (.int ss), .val (.int mn), .val (.int cc), .val (.ref b10), .val (.double (own_rec gg ss cc)), .second, .val (.double (FP.ddiv (FP.i2d cc) (FP.i2d gg))), .second, .val (.int (1 : Int32)), .val (.int (1 : Int32)), .unset, .unset, .unset] [(.int gg), (.int (0 : Int32))])) _
            refine XS.ifNo X14.here hx rfl (hb hby at_235) rfl ((if0 _ _).trans (tlt (hgp : (0 : Int32) < gg)).2.2.2) ?_
            show Steps p.tables e below (T14.setTop (mkF m 238 #[.val (.int p1), .val (.int p2), .val (.int p3), .val (.int p4), .val (.int gg), .val (.int ss), .val (.int mn), .val (.int cc), .val (.ref b10), .val (.double (own_rec gg ss cc)), .second, .val (.double (FP.ddiv (FP.i2d cc) (FP.i2d gg))), .second, .val (.int (1 : Int32)), .val (.int (1 : Int32)), .unset, .unset, .unset] [(.int (0 : Int32))])) _
            refine XS.iload X14.here hx rfl (hb hby at_238) rfl ?_
            show Steps p.tables e below (T14.setTop (mkF m 240 #[.val (.int p1), .val (.int p2), .val (.int p3), .val (.int p4), .val (.int gg), .val (.int ss), .val (.int mn), .val (.int cc), .val (.ref b10), .val (.double (own_rec gg ss cc)), .second, .val (.double (FP.ddiv (FP.i2d cc) (FP.i2d gg))), .second, .val (.int (1 : Int32)), .val (.int (1 : Int32)), .unset, .unset, .unset] [(.int cc), (.int (0 : Int32))])) _
            refine XS.ifYes X14.here hx rfl (pc0 := 240) (pc' := 247) rfl (hb hby at_240) rfl ((if0 _ _).trans (feq (hc0 : ¬ (cc = (0 : Int32)))).2) (by decide) (by decide) ?_
            show Steps p.tables e below (T14.setTop (mkF m 247 #[.val (.int p1), .val (.int p2), .val (.int p3), .val (.int p4), .val (.int gg), .val (.int ss), .val (.int mn), .val (.int cc), .val (.ref b10), .val (.double (own_rec gg ss cc)), .second, .val (.double (FP.ddiv (FP.i2d cc) (FP.i2d gg))), .second, .val (.int (1 : Int32)), .val (.int (1 : Int32)), .unset, .unset, .unset] [(.int (0 : Int32))])) _
            refine XS.iconst X14.here hx rfl (hb hby at_247) ?_
            show Steps p.tables e below (T14.setTop (mkF m 248 #[.val (.int p1), .val (.int p2), .val (.int p3), .val (.int p4), .val (.int gg), .val (.int ss), .val (.int mn), .val (.int cc), .val (.ref b10), .val (.double (own_rec gg ss cc)), .second, .val (.double (FP.ddiv (FP.i2d cc) (FP.i2d gg))), .second, .val (.int (1 : Int32)), .val (.int (1 : Int32)), .unset, .unset, .unset] [(.int (0 : Int32)), (.int (0 : Int32))])) _
            refine XS.icmpNo X14.here hx rfl (hb hby at_248) rfl (teq (by decide : (0 : Int32) = (0 : Int32))).2 ?_
            show Steps p.tables e below (T14.setTop (mkF m 251 #[.val (.int p1), .val (.int p2), .val (.int p3), .val (.int p4), .val (.int gg), .val (.int ss), .val (.int mn), .val (.int cc), .val (.ref b10), .val (.double (own_rec gg ss cc)), .second, .val (.double (FP.ddiv (FP.i2d cc) (FP.i2d gg))), .second, .val (.int (1 : Int32)), .val (.int (1 : Int32)), .unset, .unset, .unset] [])) _
            refine XS.iconst X14.here hx rfl (hb hby at_251) ?_
            show Steps p.tables e below (T14.setTop (mkF m 252 #[.val (.int p1), .val (.int p2), .val (.int p3), .val (.int p4), .val (.int gg), .val (.int ss), .val (.int mn), .val (.int cc), .val (.ref b10), .val (.double (own_rec gg ss cc)), .second, .val (.double (FP.ddiv (FP.i2d cc) (FP.i2d gg))), .second, .val (.int (1 : Int32)), .val (.int (1 : Int32)), .unset, .unset, .unset] [(.int (1 : Int32))])) _
            refine XS.goto X14.here hx rfl (pc0 := 252) (pc' := 256) rfl (hb hby at_252) (by decide) (by decide) ?_
            show Steps p.tables e below (T14.setTop (mkF m 256 #[.val (.int p1), .val (.int p2), .val (.int p3), .val (.int p4), .val (.int gg), .val (.int ss), .val (.int mn), .val (.int cc), .val (.ref b10), .val (.double (own_rec gg ss cc)), .second, .val (.double (FP.ddiv (FP.i2d cc) (FP.i2d gg))), .second, .val (.int (1 : Int32)), .val (.int (1 : Int32)), .unset, .unset, .unset] [(.int (1 : Int32))])) _
            refine XS.istore X14.here hx rfl (hb hby at_256) rfl (l' := #[.val (.int p1), .val (.int p2), .val (.int p3), .val (.int p4), .val (.int gg), .val (.int ss), .val (.int mn), .val (.int cc), .val (.ref b10), .val (.double (own_rec gg ss cc)), .second, .val (.double (FP.ddiv (FP.i2d cc) (FP.i2d gg))), .second, .val (.int (1 : Int32)), .val (.int (1 : Int32)), .val (.int (1 : Int32)), .unset, .unset]) rfl ?_
            exact kt
          refine Go.adv sg51 ?_
          obtain ⟨T52, h52, X52, e52, E52, A52, D52, -, st52⟩ := newO X14 hx hZ hown (hw _ (List.mem_of_getElem? (i := 5) rfl)) (hw _ (List.mem_of_getElem? (i := 6) rfl)) (hw _ (List.mem_of_getElem? (i := 7) rfl)) e14 (g := (mkF m 258 #[.val (.int p1), .val (.int p2), .val (.int p3), .val (.int p4), .val (.int gg), .val (.int ss), .val (.int mn), .val (.int cc), .val (.ref b10), .val (.double (own_rec gg ss cc)), .second, .val (.double (FP.ddiv (FP.i2d cc) (FP.i2d gg))), .second, .val (.int (1 : Int32)), .val (.int (1 : Int32)), .val (.int (1 : Int32)), .unset, .unset] [])) rfl (hb hby at_258) (by decide) (by decide)
          obtain ⟨b52, gb52⟩ : ∃ z, z = T12.heap.size := ⟨_, rfl⟩
          rw [← gb52] at A52 D52 st52
          have g_b52 : n0 ≤ b52 := Nat.le_trans Z12 (Nat.le_of_eq gb52.symm)
          have sz_b52 : h0.size ≤ b52 := Nat.le_trans K12.1 (Nat.le_of_eq gb52.symm)
          have ne_b10_b52 : b10 ≠ b52 := Nat.ne_of_lt (Nat.lt_of_lt_of_le p12_0.lt (Nat.le_of_eq gb52.symm))
          have K52 : Keep h0 h52 [] := K12.ext E52
          have Z52 : n0 ≤ h52.size := Nat.le_trans Z12 E52.1
          have F_gold_b52 : Fld Z h52 b52 "com/example/tally/tally/score/QuestionScore" "gold" "I" (.int (0 : Int32)) := D52 (Or.inr (hw _ (List.mem_of_getElem? (i := 20) rfl))) (ty := .int) (by decide)
          have F_system_b52 : Fld Z h52 b52 "com/example/tally/tally/score/QuestionScore" "system" "I" (.int (0 : Int32)) := D52 (Or.inr (hw _ (List.mem_of_getElem? (i := 22) rfl))) (ty := .int) (by decide)
          have F_correct_b52 : Fld Z h52 b52 "com/example/tally/tally/score/QuestionScore" "correct" "I" (.int (0 : Int32)) := D52 (Or.inr (hw _ (List.mem_of_getElem? (i := 24) rfl))) (ty := .int) (by decide)
          refine Go.adv st52 ?_
          show Go p.tables e below s _ _ _ (T52.setTop (mkF m 261 #[.val (.int p1), .val (.int p2), .val (.int p3), .val (.int p4), .val (.int gg), .val (.int ss), .val (.int mn), .val (.int cc), .val (.ref b10), .val (.double (own_rec gg ss cc)), .second, .val (.double (FP.ddiv (FP.i2d cc) (FP.i2d gg))), .second, .val (.int (1 : Int32)), .val (.int (1 : Int32)), .val (.int (1 : Int32)), .unset, .unset] [(.ref b52)]))
          have sg53 : ∀ t, Steps p.tables e below (T52.setTop (mkF m 268 #[.val (.int p1), .val (.int p2), .val (.int p3), .val (.int p4), .val (.int gg), .val (.int ss), .val (.int mn), .val (.int cc), .val (.ref b10), .val (.double (own_rec gg ss cc)), .second, .val (.double (FP.ddiv (FP.i2d cc) (FP.i2d gg))), .second, .val (.int (1 : Int32)), .val (.int (1 : Int32)), .val (.int (1 : Int32)), .unset, .unset] [(.int cc), (.int gg), (.int ss), (.ref b52), (.ref b52)])) t → Steps p.tables e below (T52.setTop (mkF m 261 #[.val (.int p1), .val (.int p2), .val (.int p3), .val (.int p4), .val (.int gg), .val (.int ss), .val (.int mn), .val (.int cc), .val (.ref b10), .val (.double (own_rec gg ss cc)), .second, .val (.double (FP.ddiv (FP.i2d cc) (FP.i2d gg))), .second, .val (.int (1 : Int32)), .val (.int (1 : Int32)), .val (.int (1 : Int32)), .unset, .unset] [(.ref b52)])) t := by
            intro t kt
            show Steps p.tables e below (T52.setTop (mkF m 261 #[.val (.int p1), .val (.int p2), .val (.int p3), .val (.int p4), .val (.int gg), .val (.int ss), .val (.int mn), .val (.int cc), .val (.ref b10), .val (.double (own_rec gg ss cc)), .second, .val (.double (FP.ddiv (FP.i2d cc) (FP.i2d gg))), .second, .val (.int (1 : Int32)), .val (.int (1 : Int32)), .val (.int (1 : Int32)), .unset, .unset] [(.ref b52)])) _
            refine XS.dup X52.here hx rfl (hb hby at_261) rfl rfl ?_
            show Steps p.tables e below (T52.setTop (mkF m 262 #[.val (.int p1), .val (.int p2), .val (.int p3), .val (.int p4), .val (.int gg), .val (.int ss), .val (.int mn), .val (.int cc), .val (.ref b10), .val (.double (own_rec gg ss cc)), .second, .val (.double (FP.ddiv (FP.i2d cc) (FP.i2d gg))), .second, .val (.int (1 : Int32)), .val (.int (1 : Int32)), .val (.int (1 : Int32)), .unset, .unset] [(.ref b52), (.ref b52)])) _
            refine XS.iload X52.here hx rfl (hb hby at_262) rfl ?_
            show Steps p.tables e below (T52.setTop (mkF m 264 #[.val (.int p1), .val (.int p2), .val (.int p3), .val (.int p4), .val (.int gg), .val (.int ss), .val (.int mn), .val (.int cc), .val (.ref b10), .val (.double (own_rec gg ss cc)), .second, .val (.double (FP.ddiv (FP.i2d cc) (FP.i2d gg))), .second, .val (.int (1 : Int32)), .val (.int (1 : Int32)), .val (.int (1 : Int32)), .unset, .unset] [(.int ss), (.ref b52), (.ref b52)])) _
            refine XS.iload X52.here hx rfl (hb hby at_264) rfl ?_
            show Steps p.tables e below (T52.setTop (mkF m 266 #[.val (.int p1), .val (.int p2), .val (.int p3), .val (.int p4), .val (.int gg), .val (.int ss), .val (.int mn), .val (.int cc), .val (.ref b10), .val (.double (own_rec gg ss cc)), .second, .val (.double (FP.ddiv (FP.i2d cc) (FP.i2d gg))), .second, .val (.int (1 : Int32)), .val (.int (1 : Int32)), .val (.int (1 : Int32)), .unset, .unset] [(.int gg), (.int ss), (.ref b52), (.ref b52)])) _
            refine XS.iload X52.here hx rfl (hb hby at_266) rfl ?_
            exact kt
          refine Go.adv sg53 ?_
          obtain ⟨_, _, ⟨T54, L54, k54, n54⟩, -, X54, ⟨Lc54, hQ54, l54, y54, z54⟩, st54⟩ := X52.specialBack hx (y := (⟨"com/example/tally/tally/score/QuestionScore", "<init>", "(III)V"⟩ : MethodName)) rfl hown (mvT hZ (hw _ (List.mem_of_getElem? (i := 8) rfl))) (mvT hZ (hw _ (List.mem_of_getElem? (i := 9) rfl))) (mvT hZ (hw _ (List.mem_of_getElem? (i := 10) rfl))) (by decide) (backOf (W := 1) (rm_init l Z a0 hw [] b52 ss gg cc (.int (0 : Int32)) (.int (0 : Int32)) (.int (0 : Int32)) h52 n0 Z52 A52 g_b52 F_gold_b52 F_system_b52 F_correct_b52 (by assumption)) hZ (hw _ (List.mem_of_getElem? (i := 10) rfl)) (hw _ (List.mem_of_getElem? (i := 7) rfl)) (by decide) (by decide)) (g := (mkF m 268 #[.val (.int p1), .val (.int p2), .val (.int p3), .val (.int p4), .val (.int gg), .val (.int ss), .val (.int mn), .val (.int cc), .val (.ref b10), .val (.double (own_rec gg ss cc)), .second, .val (.double (FP.ddiv (FP.i2d cc) (FP.i2d gg))), .second, .val (.int (1 : Int32)), .val (.int (1 : Int32)), .val (.int (1 : Int32)), .unset, .unset] [(.int cc), (.int gg), (.int ss), (.ref b52), (.ref b52)])) rfl (by rw [hml]; rfl) (Steps.refl _) (a := b52) (argsL := [(.int ss), (.int gg), (.int cc)]) (rest := [(.ref b52)]) (lenOf pd_oIIIcV rfl) rfl (by show 2 * 0 + _ ≤ _; exact Nat.le_of_eq rfl) (hb hby at_268) (fun _ _ => ⟨rfl, e52, (by decide : 2 + 0 ≤ _), (by decide : 6 + 0 ≤ _)⟩)
          dsimp only [Pt.U, Pt.locs, Pt.cells, Pt.slots] at X54 l54 y54 z54 st54 hQ54
          subst l54 y54 z54
          obtain ⟨rfl, N54q, Kc54, p54_0, p54_1, p54_2, p54_3⟩ := hQ54
          have N54 := Fr.app N14 N54q
          have K54 : Keep h0 T54.heap [] := K52.trans Kc54 (allS (Or.inr sz_b52) all0)
          have Z54 : n0 ≤ T54.heap.size := Nat.le_trans Z52 Kc54.1
          refine Go.tr st54 ?_
          show Go p.tables e below s _ _ _ (T54.setTop (mkF m 271 #[.val (.int p1), .val (.int p2), .val (.int p3), .val (.int p4), .val (.int gg), .val (.int ss), .val (.int mn), .val (.int cc), .val (.ref b10), .val (.double (own_rec gg ss cc)), .second, .val (.double (FP.ddiv (FP.i2d cc) (FP.i2d gg))), .second, .val (.int (1 : Int32)), .val (.int (1 : Int32)), .val (.int (1 : Int32)), .unset, .unset] [(.ref b52)]))
          have sg55 : ∀ t, Steps p.tables e below (T54.setTop (mkF m 275 #[.val (.int p1), .val (.int p2), .val (.int p3), .val (.int p4), .val (.int gg), .val (.int ss), .val (.int mn), .val (.int cc), .val (.ref b10), .val (.double (own_rec gg ss cc)), .second, .val (.double (FP.ddiv (FP.i2d cc) (FP.i2d gg))), .second, .val (.int (1 : Int32)), .val (.int (1 : Int32)), .val (.int (1 : Int32)), .val (.ref b52), .unset] [(.ref b52)])) t → Steps p.tables e below (T54.setTop (mkF m 271 #[.val (.int p1), .val (.int p2), .val (.int p3), .val (.int p4), .val (.int gg), .val (.int ss), .val (.int mn), .val (.int cc), .val (.ref b10), .val (.double (own_rec gg ss cc)), .second, .val (.double (FP.ddiv (FP.i2d cc) (FP.i2d gg))), .second, .val (.int (1 : Int32)), .val (.int (1 : Int32)), .val (.int (1 : Int32)), .unset, .unset] [(.ref b52)])) t := by
            intro t kt
            show Steps p.tables e below (T54.setTop (mkF m 271 #[.val (.int p1), .val (.int p2), .val (.int p3), .val (.int p4), .val (.int gg), .val (.int ss), .val (.int mn), .val (.int cc), .val (.ref b10), .val (.double (own_rec gg ss cc)), .second, .val (.double (FP.ddiv (FP.i2d cc) (FP.i2d gg))), .second, .val (.int (1 : Int32)), .val (.int (1 : Int32)), .val (.int (1 : Int32)), .unset, .unset] [(.ref b52)])) _
            refine XS.astore X54.here hx rfl (hb hby at_271) rfl rfl (l' := #[.val (.int p1), .val (.int p2), .val (.int p3), .val (.int p4), .val (.int gg), .val (.int ss), .val (.int mn), .val (.int cc), .val (.ref b10), .val (.double (own_rec gg ss cc)), .second, .val (.double (FP.ddiv (FP.i2d cc) (FP.i2d gg))), .second, .val (.int (1 : Int32)), .val (.int (1 : Int32)), .val (.int (1 : Int32)), .val (.ref b52), .unset]) rfl ?_
            show Steps p.tables e below (T54.setTop (mkF m 273 #[.val (.int p1), .val (.int p2), .val (.int p3), .val (.int p4), .val (.int gg), .val (.int ss), .val (.int mn), .val (.int cc), .val (.ref b10), .val (.double (own_rec gg ss cc)), .second, .val (.double (FP.ddiv (FP.i2d cc) (FP.i2d gg))), .second, .val (.int (1 : Int32)), .val (.int (1 : Int32)), .val (.int (1 : Int32)), .val (.ref b52), .unset] [])) _
            refine XS.aload X54.here hx rfl (hb hby at_273) rfl rfl ?_
            exact kt
          refine Go.adv sg55 ?_
          obtain ⟨cq56, kq56, q56a, q56b, q56c⟩ := isOf hZ rfl p54_0
          obtain ⟨_, _, ⟨T56, L56, k56, n56⟩, -, X56, ⟨Lc56, hQ56, l56, y56, z56⟩, st56⟩ := X54.virtualBack hx (y := (⟨"com/example/tally/tally/score/QuestionScore", "precision", "()D"⟩ : MethodName)) (z := (⟨"com/example/tally/tally/score/QuestionScore", "precision", "()D"⟩ : MethodName)) hown (mvT hZ (hw _ (List.mem_of_getElem? (i := 30) rfl))) (mvT hZ (hw _ (List.mem_of_getElem? (i := 31) rfl))) (notFace_of_selects (args := #[]) (mvT hZ (hw _ (List.mem_of_getElem? (i := 33) rfl)))) (mvT hZ (hw _ (List.mem_of_getElem? (i := 33) rfl))) (mvT hZ (hw _ (List.mem_of_getElem? (i := 32) rfl))) (by decide) (backOf (W := 0) (rm_precision l Z a0 hw [] b52 ss gg cc T54.heap n0 Z54 p54_1 p54_2 p54_3) hZ (hw _ (List.mem_of_getElem? (i := 34) rfl)) (hw _ (List.mem_of_getElem? (i := 7) rfl)) (by decide) (by decide)) q56a q56c (g := (mkF m 275 #[.val (.int p1), .val (.int p2), .val (.int p3), .val (.int p4), .val (.int gg), .val (.int ss), .val (.int mn), .val (.int cc), .val (.ref b10), .val (.double (own_rec gg ss cc)), .second, .val (.double (FP.ddiv (FP.i2d cc) (FP.i2d gg))), .second, .val (.int (1 : Int32)), .val (.int (1 : Int32)), .val (.int (1 : Int32)), .val (.ref b52), .unset] [(.ref b52)])) rfl (by rw [hml]; rfl) (Steps.refl _) (argsL := []) (rest := []) (lenOf pd_ocD rfl) rfl (by show 2 * 0 + _ ≤ _; exact Nat.le_of_eq rfl) (hb hby at_275) (fun _ _ => ⟨rfl, rfl, (by decide : 2 + 0 ≤ _), (by decide : 6 + 0 ≤ _)⟩)
          dsimp only [Pt.U, Pt.locs, Pt.cells, Pt.slots] at X56 l56 y56 z56 st56 hQ56
          subst l56 y56 z56
          obtain ⟨rfl, N56q, e56⟩ := hQ56
          have N56 := Fr.app N54 N56q
          refine Go.tr st56 ?_
          show Go p.tables e below s _ _ _ (T56.setTop (mkF m 278 #[.val (.int p1), .val (.int p2), .val (.int p3), .val (.int p4), .val (.int gg), .val (.int ss), .val (.int mn), .val (.int cc), .val (.ref b10), .val (.double (own_rec gg ss cc)), .second, .val (.double (FP.ddiv (FP.i2d cc) (FP.i2d gg))), .second, .val (.int (1 : Int32)), .val (.int (1 : Int32)), .val (.int (1 : Int32)), .val (.ref b52), .unset] [(.double (own_prec ss gg cc))]))
          have sg57 : ∀ t, Steps p.tables e below (T56.setTop (mkF m 324 #[.val (.int p1), .val (.int p2), .val (.int p3), .val (.int p4), .val (.int gg), .val (.int ss), .val (.int mn), .val (.int cc), .val (.ref b10), .val (.double (own_rec gg ss cc)), .second, .val (.double (FP.ddiv (FP.i2d cc) (FP.i2d gg))), .second, .val (.int (1 : Int32)), .val (.int (1 : Int32)), .val (.int (1 : Int32)), .val (.ref b52), .val (.int (1 : Int32))] [(.int (1 : Int32))])) t → Steps p.tables e below (T56.setTop (mkF m 278 #[.val (.int p1), .val (.int p2), .val (.int p3), .val (.int p4), .val (.int gg), .val (.int ss), .val (.int mn), .val (.int cc), .val (.ref b10), .val (.double (own_rec gg ss cc)), .second, .val (.double (FP.ddiv (FP.i2d cc) (FP.i2d gg))), .second, .val (.int (1 : Int32)), .val (.int (1 : Int32)), .val (.int (1 : Int32)), .val (.ref b52), .unset] [(.double (own_prec ss gg cc))])) t := by
            intro t kt
            show Steps p.tables e below (T56.setTop (mkF m 278 #[.val (.int p1), .val (.int p2), .val (.int p3), .val (.int p4), .val (.int gg), .val (.int ss), .val (.int mn), .val (.int cc), .val (.ref b10), .val (.double (own_rec gg ss cc)), .second, .val (.double (FP.ddiv (FP.i2d cc) (FP.i2d gg))), .second, .val (.int (1 : Int32)), .val (.int (1 : Int32)), .val (.int (1 : Int32)), .val (.ref b52), .unset] [(.double (own_prec ss gg cc))])) _
            refine own_dload X56.here hx rfl (hb hby at_278) rfl ?_
            show Steps p.tables e below (T56.setTop (mkF m 280 #[.val (.int p1), .val (.int p2), .val (.int p3), .val (.int p4), .val (.int gg), .val (.int ss), .val (.int mn), .val (.int cc), .val (.ref b10), .val (.double (own_rec gg ss cc)), .second, .val (.double (FP.ddiv (FP.i2d cc) (FP.i2d gg))), .second, .val (.int (1 : Int32)), .val (.int (1 : Int32)), .val (.int (1 : Int32)), .val (.ref b52), .unset] [(.double (own_rec gg ss cc)), (.double (own_prec ss gg cc))])) _
            refine own_dcmp X56.here hx rfl (hb hby at_280) rfl ?_
            show Steps p.tables e below (T56.setTop (mkF m 281 #[.val (.int p1), .val (.int p2), .val (.int p3), .val (.int p4), .val (.int gg), .val (.int ss), .val (.int mn), .val (.int cc), .val (.ref b10), .val (.double (own_rec gg ss cc)), .second, .val (.double (FP.ddiv (FP.i2d cc) (FP.i2d gg))), .second, .val (.int (1 : Int32)), .val (.int (1 : Int32)), .val (.int (1 : Int32)), .val (.ref b52), .unset] [(.int (cmpValue (FP.dcmp (own_prec ss gg cc) (own_rec gg ss cc)) .l))])) _
            refine XS.ifNo X56.here hx rfl (hb hby at_281) rfl ((if0 _ _).trans (teq ((by rw [Own.cv_eq k2] <;> decide) : (cmpValue (FP.dcmp (own_prec ss gg cc) (own_rec gg ss cc)) .l) = (0 : Int32))).2) ?_
            show Steps p.tables e below (T56.setTop (mkF m 284 #[.val (.int p1), .val (.int p2), .val (.int p3), .val (.int p4), .val (.int gg), .val (.int ss), .val (.int mn), .val (.int cc), .val (.ref b10), .val (.double (own_rec gg ss cc)), .second, .val (.double (FP.ddiv (FP.i2d cc) (FP.i2d gg))), .second, .val (.int (1 : Int32)), .val (.int (1 : Int32)), .val (.int (1 : Int32)), .val (.ref b52), .unset] [])) _
            refine XS.iconst X56.here hx rfl (hb hby at_284) ?_
            show Steps p.tables e below (T56.setTop (mkF m 285 #[.val (.int p1), .val (.int p2), .val (.int p3), .val (.int p4), .val (.int gg), .val (.int ss), .val (.int mn), .val (.int cc), .val (.ref b10), .val (.double (own_rec gg ss cc)), .second, .val (.double (FP.ddiv (FP.i2d cc) (FP.i2d gg))), .second, .val (.int (1 : Int32)), .val (.int (1 : Int32)), .val (.int (1 : Int32)), .val (.ref b52), .unset] [(.int (1 : Int32))])) _
            refine XS.goto X56.here hx rfl (pc0 := 285) (pc' := 289) rfl (hb hby at_285) (by decide) (by decide) ?_
            show Steps p.tables e below (T56.setTop (mkF m 289 #[.val (.int p1), .val (.int p2), .val (.int p3), .val (.int p4), .val (.int gg), .val (.int ss), .val (.int mn), .val (.int cc), .val (.ref b10), .val (.double (own_rec gg ss cc)), .second, .val (.double (FP.ddiv (FP.i2d cc) (FP.i2d gg))), .second, .val (.int (1 : Int32)), .val (.int (1 : Int32)), .val (.int (1 : Int32)), .val (.ref b52), .unset] [(.int (1 : Int32))])) _
            refine XS.istore X56.here hx rfl (hb hby at_289) rfl (l' := #[.val (.int p1), .val (.int p2), .val (.int p3), .val (.int p4), .val (.int gg), .val (.int ss), .val (.int mn), .val (.int cc), .val (.ref b10), .val (.double (own_rec gg ss cc)), .second, .val (.double (FP.ddiv (FP.i2d cc) (FP.i2d gg))), .second, .val (.int (1 : Int32)), .val (.int (1 : Int32)), .val (.int (1 : Int32)), .val (.ref b52), .val (.int (1 : Int32))]) rfl ?_
            show Steps p.tables e below (T56.setTop (mkF m 291 #[.val (.int p1), .val (.int p2), .val (.int p3), .val (.int p4), .val (.int gg), .val (.int ss), .val (.int mn), .val (.int cc), .val (.ref b10), .val (.double (own_rec gg ss cc)), .second, .val (.double (FP.ddiv (FP.i2d cc) (FP.i2d gg))), .second, .val (.int (1 : Int32)), .val (.int (1 : Int32)), .val (.int (1 : Int32)), .val (.ref b52), .val (.int (1 : Int32))] [])) _
            refine own_dload X56.here hx rfl (hb hby at_291) rfl ?_
            show Steps p.tables e below (T56.setTop (mkF m 293 #[.val (.int p1), .val (.int p2), .val (.int p3), .val (.int p4), .val (.int gg), .val (.int ss), .val (.int mn), .val (.int cc), .val (.ref b10), .val (.double (own_rec gg ss cc)), .second, .val (.double (FP.ddiv (FP.i2d cc) (FP.i2d gg))), .second, .val (.int (1 : Int32)), .val (.int (1 : Int32)), .val (.int (1 : Int32)), .val (.ref b52), .val (.int (1 : Int32))] [(.double (own_rec gg ss cc))])) _
            refine own_dload X56.here hx rfl (hb hby at_293) rfl ?_
            show Steps p.tables e below (T56.setTop (mkF m 295 #[.val (.int p1), .val (.int p2), .val (.int p3), .val (.int p4), .val (.int gg), .val (.int ss), .val (.int mn), .val (.int cc), .val (.ref b10), .val (.double (own_rec gg ss cc)), .second, .val (.double (FP.ddiv (FP.i2d cc) (FP.i2d gg))), .second, .val (.int (1 : Int32)), .val (.int (1 : Int32)), .val (.int (1 : Int32)), .val (.ref b52), .val (.int (1 : Int32))] [(.double (FP.ddiv (FP.i2d cc) (FP.i2d gg))), (.double (own_rec gg ss cc))])) _
            refine own_dcmp X56.here hx rfl (hb hby at_295) rfl ?_
            show Steps p.tables e below (T56.setTop (mkF m 296 #[.val (.int p1), .val (.int p2), .val (.int p3), .val (.int p4), .val (.int gg), .val (.int ss), .val (.int mn), .val (.int cc), .val (.ref b10), .val (.double (own_rec gg ss cc)), .second, .val (.double (FP.ddiv (FP.i2d cc) (FP.i2d gg))), .second, .val (.int (1 : Int32)), .val (.int (1 : Int32)), .val (.int (1 : Int32)), .val (.ref b52), .val (.int (1 : Int32))] [(.int (cmpValue (FP.dcmp (own_rec gg ss cc) (FP.ddiv (FP.i2d cc) (FP.i2d gg))) .l))])) _
            refine XS.ifNo X56.here hx rfl (hb hby at_296) rfl ((if0 _ _).trans (teq ((by rw [Own.cv_eq k5] <;> decide) : (cmpValue (FP.dcmp (own_rec gg ss cc) (FP.ddiv (FP.i2d cc) (FP.i2d gg))) .l) = (0 : Int32))).2) ?_
            show Steps p.tables e below (T56.setTop (mkF m 299 #[.val (.int p1), .val (.int p2), .val (.int p3), .val (.int p4), .val (.int gg), .val (.int ss), .val (.int mn), .val (.int cc), .val (.ref b10), .val (.double (own_rec gg ss cc)), .second, .val (.double (FP.ddiv (FP.i2d cc) (FP.i2d gg))), .second, .val (.int (1 : Int32)), .val (.int (1 : Int32)), .val (.int (1 : Int32)), .val (.ref b52), .val (.int (1 : Int32))] [])) _
            refine XS.iload X56.here hx rfl (hb hby at_299) rfl ?_
            show Steps p.tables e below (T56.setTop (mkF m 301 #[.val (.int p1), .val (.int p2), .val (.int p3), .val (.int p4), .val (.int gg), .val (.int ss), .val (.int mn), .val (.int cc), .val (.ref b10), .val (.double (own_rec gg ss cc)), .second, .val (.double (FP.ddiv (FP.i2d cc) (FP.i2d gg))), .second, .val (.int (1 : Int32)), .val (.int (1 : Int32)), .val (.int (1 : Int32)), .val (.ref b52), .val (.int (1 : Int32))] [(.int (1 : Int32))])) _
            refine XS.ifNo X56.here hx rfl (hb hby at_301) rfl ((if0 _ _).trans (feq (by decide : ¬ ((1 : Int32) = (0 : Int32)))).1) ?_
            show Steps p.tables e below (T56.setTop (mkF m 304 #[.val (.int p1), .val (.int p2), .val (.int p3), .val (.int p4), .val (.int gg), .val (.int ss), .val (.int mn), .val (.int cc), .val (.ref b10), .val (.double (own_rec gg ss cc)), .second, .val (.double (FP.ddiv (FP.i2d cc) (FP.i2d gg))), .second, .val (.int (1 : Int32)), .val (.int (1 : Int32)), .val (.int (1 : Int32)), .val (.ref b52), .val (.int (1 : Int32))] [])) _
            refine XS.iload X56.here hx rfl (hb hby at_304) rfl ?_
            show Steps p.tables e below (T56.setTop (mkF m 306 #[.val (.int p1), .val (.int p2), .val (.int p3), .val (.int p4), .val (.int gg), .val (.int ss), .val (.int mn), .val (.int cc), .val (.ref b10), .val (.double (own_rec gg ss cc)), .second, .val (.double (FP.ddiv (FP.i2d cc) (FP.i2d gg))), .second, .val (.int (1 : Int32)), .val (.int (1 : Int32)), .val (.int (1 : Int32)), .val (.ref b52), .val (.int (1 : Int32))] [(.int (1 : Int32))])) _
            refine XS.ifNo X56.here hx rfl (hb hby at_306) rfl ((if0 _ _).trans (feq (by decide : ¬ ((1 : Int32) = (0 : Int32)))).1) ?_
            show Steps p.tables e below (T56.setTop (mkF m 309 #[.val (.int p1), .val (.int p2), .val (.int p3), .val (.int p4), .val (.int gg), .val (.int ss), .val (.int mn), .val (.int cc), .val (.ref b10), .val (.double (own_rec gg ss cc)), .second, .val (.double (FP.ddiv (FP.i2d cc) (FP.i2d gg))), .second, .val (.int (1 : Int32)), .val (.int (1 : Int32)), .val (.int (1 : Int32)), .val (.ref b52), .val (.int (1 : Int32))] [])) _
            refine XS.iload X56.here hx rfl (hb hby at_309) rfl ?_
            show Steps p.tables e below (T56.setTop (mkF m 311 #[.val (.int p1), .val (.int p2), .val (.int p3), .val (.int p4), .val (.int gg), .val (.int ss), .val (.int mn), .val (.int cc), .val (.ref b10), .val (.double (own_rec gg ss cc)), .second, .val (.double (FP.ddiv (FP.i2d cc) (FP.i2d gg))), .second, .val (.int (1 : Int32)), .val (.int (1 : Int32)), .val (.int (1 : Int32)), .val (.ref b52), .val (.int (1 : Int32))] [(.int (1 : Int32))])) _
            refine XS.ifNo X56.here hx rfl (hb hby at_311) rfl ((if0 _ _).trans (feq (by decide : ¬ ((1 : Int32) = (0 : Int32)))).1) ?_
            show Steps p.tables e below (T56.setTop (mkF m 314 #[.val (.int p1), .val (.int p2), .val (.int p3), .val (.int p4), .val (.int gg), .val (.int ss), .val (.int mn), .val (.int cc), .val (.ref b10), .val (.double (own_rec gg ss cc)), .second, .val (.double (FP.ddiv (FP.i2d cc) (FP.i2d gg))), .second, .val (.int (1 : Int32)), .val (.int (1 : Int32)), .val (.int (1 : Int32)), .val (.ref b52), .val (.int (1 : Int32))] [])) _
            refine XS.iload X56.here hx rfl (hb hby at_314) rfl ?_
            show Steps p.tables e below (T56.setTop (mkF m 316 #[.val (.int p1), .val (.int p2), .val (.int p3), .val (.int p4), .val (.int gg), .val (.int ss), .val (.int mn), .val (.int cc), .val (.ref b10), .val (.double (own_rec gg ss cc)), .second, .val (.double (FP.ddiv (FP.i2d cc) (FP.i2d gg))), .second, .val (.int (1 : Int32)), .val (.int (1 : Int32)), .val (.int (1 : Int32)), .val (.ref b52), .val (.int (1 : Int32))] [(.int (1 : Int32))])) _
            refine XS.ifNo X56.here hx rfl (hb hby at_316) rfl ((if0 _ _).trans (feq (by decide : ¬ ((1 : Int32) = (0 : Int32)))).1) ?_
            show Steps p.tables e below (T56.setTop (mkF m 319 #[.val (.int p1), .val (.int p2), .val (.int p3), .val (.int p4), .val (.int gg), .val (.int ss), .val (.int mn), .val (.int cc), .val (.ref b10), .val (.double (own_rec gg ss cc)), .second, .val (.double (FP.ddiv (FP.i2d cc) (FP.i2d gg))), .second, .val (.int (1 : Int32)), .val (.int (1 : Int32)), .val (.int (1 : Int32)), .val (.ref b52), .val (.int (1 : Int32))] [])) _
            refine XS.iconst X56.here hx rfl (hb hby at_319) ?_
            show Steps p.tables e below (T56.setTop (mkF m 320 #[.val (.int p1), .val (.int p2), .val (.int p3), .val (.int p4), .val (.int gg), .val (.int ss), .val (.int mn), .val (.int cc), .val (.ref b10), .val (.double (own_rec gg ss cc)), .second, .val (.double (FP.ddiv (FP.i2d cc) (FP.i2d gg))), .second, .val (.int (1 : Int32)), .val (.int (1 : Int32)), .val (.int (1 : Int32)), .val (.ref b52), .val (.int (1 : Int32))] [(.int (1 : Int32))])) _
            refine XS.goto X56.here hx rfl (pc0 := 320) (pc' := 324) rfl (hb hby at_320) (by decide) (by decide) ?_
            exact kt
          refine Go.adv sg57 ?_
          refine Go.ret (v := (some (.int (1 : Int32)))) X56 (fun h => by rw [Bd.returns] at h; cases h) Bd.notSynchronized (fun fs hr => retN X56 hx (t := .boolean) Bd.returns (by simp) (hb hby at_324) hr) ?_ (by decide) (by decide)
          show Q_rm0 Z p1 p2 p3 p4 h0 n0 (some (.int (1 : Int32))) T56.heap _
          rw [e56]
          exact ⟨rfl, N56⟩
set_option maxRecDepth 65536 in
set_option maxHeartbeats 40000000 in
theorem comes_1 {Post : Tables → Env → Array Value → State → Outcome → State → Prop} (hpost : ∀ tb e args s v u, (limb_1_1.after args s (.returned v) u = true ∧ limb_1_2.after args s (.returned v) u = true ∧ True) → FrameEnd s (.returned v) u (Jvm.fieldLocs frame_1_writes args s ++ Jvm.arrayLocs frame_1_arrays args s ++ Jvm.staticLocs frame_1_statics s) 16 128 → Post tb e args s (.returned v) u) :
    ArmFor flags0 classFile x code maxLocals ret World_1 tables_1 room_1 Calls_1 rest_1 Pre_1 Post := by
  intro l hfl _ _ p e ha hc hk s m args below hf hA hF happ hP
  obtain ⟨hcalls, hrest, hpre⟩ := hP
  obtain ⟨-, -, -, hnamed, -, -, -, hat⟩ := (Spec.applies_iff hf).mp happ
  obtain ⟨hg, hn⟩ := and_e (Cond.before_iff.mp (show (Jvm.Cond.and given_1 narrow_1).before args s = true from hpre))
  obtain ⟨g1, g2⟩ := and_e hg
  obtain ⟨g3, g4⟩ := and_e g2
  obtain ⟨g5, g6⟩ := and_e g4
  obtain ⟨g7, g8⟩ := and_e g6
  obtain ⟨w0, w1, w2, w3, rfl⟩ : ∃ w0 w1 w2 w3 : Value, args = #[w0, w1, w2, w3] := by
    have hs : args.size = 4 := by simpa [Cond.value, given_1] using g1
    obtain ⟨L⟩ := args
    match L, hs with
    | [w0, w1, w2, w3], _ => exact ⟨w0, w1, w2, w3, rfl⟩
  have hw := fun d (hd : d ∈ tables_1) => atoms_spec (ws := Jvm.Cond.code x code maxLocals ret :: tables_1) hat d (List.mem_cons_of_mem _ hd)
  have hfit : Fit s := fun {y c} hc i hi => by
    obtain ⟨ha, rfl⟩ := Array.getElem?_eq_some_iff.mp hc
    have q := List.all_eq_true.mp ((Array.all_eq_true_iff_forall_mem.mp hF) _ (Array.getElem_mem ha)) i (List.mem_range.mpr hi)
    simpa [Array.getElem?_eq_getElem hi] using q
  obtain ⟨i0, ei0⟩ := is_v g3
  obtain rfl : w0 = (.int i0) := Option.some.inj ei0
  obtain ⟨i1, ei1⟩ := is_v g5
  obtain rfl : w1 = (.int i1) := Option.some.inj ei1
  obtain ⟨i2, ei2⟩ := is_v g7
  obtain rfl : w2 = (.int i2) := Option.some.inj ei2
  obtain ⟨i3, ei3⟩ := is_v g8
  obtain rfl : w3 = (.int i3) := Option.some.inj ei3
  obtain ⟨n, o, h1, h2, h3, _, L, rfl, ⟨rfl, N⟩, hq⟩ := rm0 l s _ hw tables_1 i0 i1 i2 i3  s.heap s.heap.size (Nat.le_refl _)  p e ha hc hk s m _ below hf ((Spec.applies_iff_loose hf).mp happ).1 ⟨rfl, State.Warmed39.refl s, rfl⟩ trivial
  refine ⟨n, _, h1, h2, h3, hpost _ _ _ _ _ _ ⟨Cond.after_iff.mpr rfl, Cond.after_iff.mpr (eq_i res_at (Term.int_eval (1)) rfl), trivial⟩ ⟨hq.1, hq.2.1, (hq.2.2.sift fun y hy => Or.inr (N y hy)).mono (by decide) (by decide)⟩⟩
theorem main_1_1 : Claimed_1_1 := comes_1 fun _ _ _ _ _ _ h hF => ⟨h.1, hF⟩
theorem main_1_2 : Claimed_1_2 := comes_1 fun _ _ _ _ _ _ h hF => ⟨h.2.1, hF⟩
end Jvm.Pilot.@@N@@
namespace Jvm.Pilot.@@N@@
open Jvm Jvm.ClassFile Sem Op Lib Jvm.Free Jvm.Stand Jvm.Pilot.@@N@@.Jvm.D
/-! MADE BY PROGRAM (witnessworld.py) out of the Statement's table words and the real class files: 11 classes; the members and pool entries that the words name. The judged class is class 1, her method 1. -/
namespace start1
open Jvm.ClassFile
def u (s : String) : CpInfo := .utf8 (stringToUtf16 s)
/-- a pool by its gaps: so many unusable entries, then the entry; so many at the end -/
def gap : Nat → List CpInfo → List CpInfo
  | 0, r => r
  | n + 1, r => .unusable :: gap n r
def poolList (es : List (Nat × CpInfo)) (last : Nat) : List CpInfo := es.foldr (fun e r => gap e.1 (e.2 :: r)) (gap last [])
def pool (es : List (Nat × CpInfo)) (last : Nat) : Array CpInfo := ⟨poolList es last⟩
def fileOf (pool : Array CpInfo) (this : Nat) (attrs : Array Attribute := #[]) (ms : Array MethodInfo := #[]) (fl : Nat := 33) (sup : Nat := 0) (ifs : Array Nat := #[]) (fds : Array FieldInfo := #[]) : ClassFile where
  minorVersion := 0
  majorVersion := 65
  constantPool := pool
  accessFlags := fl
  thisClass := this
  superClass := sup
  interfaces := ifs
  fields := fds
  methods := ms
  attributes := attrs
def plain (name : String) (sup : Option ClassId) : Class where
  name := name
  kind := .ordinary
  loader := none
  accessFlags := 33
  super := sup
  interfaces := #[]
  cf := none
  fields := #[]
  methods := #[]
  instanceTypes := #[]
  staticTypes := #[]
  resolved := #[]
  callSites := []
  init := .initialized
  statics := none
  mirror := none

def pool0 : Array CpInfo := pool [(5, u "<init>"), (0, u "()V"), (1, .class_ 10), (1, u "java/lang/Object")] 113

def k0c0 : Code := { maxStack := 0, maxLocals := 1, code := object_method_1_code, exceptionTable := #[], attributes := #[] }
def k0m0 : Method := { name := "<init>", desc := "()V", sig := { parameters := [], returnType := none }, accessFlags := 1, code := some k0c0 }
/-- java/lang/Object -/
def k0 : Class := { plain "java/lang/Object" none with
  accessFlags := 33
  interfaces := #[]
  cf := some (fileOf pool0 8 #[] #[{ accessFlags := 1, nameIndex := 5, descriptorIndex := 6, attributes := #[] }] 33 0 #[] #[])
  fields := #[]
  methods := #[k0m0]
  instanceTypes := #[]
  staticTypes := #[]
  resolved := Array.replicate 124 none
  statics := none }

def pool1 : Array CpInfo := pool [(2, .class_ 4), (1, u "java/lang/Object"), (0, u "<init>"), (0, u "()V"), (0, .integer 2147483647), (0, .methodref 9 10), (0, .class_ 11), (0, .nameAndType 12 13), (0, u "java/lang/Math"), (0, u "min"), (0, u "(II)I"), (0, .class_ 15), (0, u "com/example/tally/tally/score/QuestionScore"), (0, .methodref 14 17), (0, .nameAndType 5 18), (0, u "(III)V"), (0, .methodref 14 20), (0, .nameAndType 21 22), (0, u "recall"), (0, u "()D"), (0, .methodref 14 24), (0, .nameAndType 25 22), (0, u "precision"), (0, .class_ 27), (0, u "com/example/tally/tally/score/QuestionScoreRecallPinLaw"), (2, u "law"), (0, u "(IIII)Z")] 3

def k1m0 : Method := { name := "<init>", desc := "()V", sig := { parameters := [], returnType := none }, accessFlags := 1, code := none }
def k1c1 : Code := { maxStack := 6, maxLocals := 18, code := code, exceptionTable := #[], attributes := #[] }
def k1m1 : Method := { name := "law", desc := "(IIII)Z", sig := { parameters := [.int, .int, .int, .int], returnType := some .boolean }, accessFlags := 9, code := some k1c1 }
/-- com/example/tally/tally/score/QuestionScoreRecallPinLaw -/
def k1 : Class := { plain "com/example/tally/tally/score/QuestionScoreRecallPinLaw" (some 0) with
  accessFlags := 49
  interfaces := #[]
  cf := some (fileOf pool1 26 #[] #[{ accessFlags := 1, nameIndex := 5, descriptorIndex := 6, attributes := #[] }, { accessFlags := 9, nameIndex := 30, descriptorIndex := 31, attributes := #[] }] 49 2 #[] #[])
  fields := #[]
  methods := #[k1m0, k1m1]
  instanceTypes := #[]
  staticTypes := #[]
  resolved := Array.replicate 35 none
  statics := none }

def pool2 : Array CpInfo := pool [(1, .class_ 2), (0, u "java/lang/Math"), (1, .class_ 6), (1, u "java/lang/Object"), (0, u "<init>"), (0, u "()V"), (89, .class_ 100), (1, u "java/lang/Math$RandomNumberGeneratorHolder"), (71, u "negativeZeroFloatBits"), (0, u "J"), (2, u "negativeZeroDoubleBits"), (24, u "min"), (43, u "$assertionsDisabled"), (0, u "Z"), (88, u "(II)I"), (2, u "twoToTheDoubleScaleDown"), (0, u "D"), (4, u "twoToTheDoubleScaleUp"), (9, u "E"), (3, u "PI"), (2, u "TAU"), (2, u "DEGREES_TO_RADIANS"), (0, u "RADIANS_TO_DEGREES")] 94

def k2m0 : Method := { name := "<init>", desc := "()V", sig := { parameters := [], returnType := none }, accessFlags := 2, code := none }
def k2c1 : Code := { maxStack := 2, maxLocals := 2, code := jdk_29_method_69_code, exceptionTable := #[], attributes := #[] }
def k2m1 : Method := { name := "min", desc := "(II)I", sig := { parameters := [.int, .int], returnType := some .int }, accessFlags := 9, code := some k2c1 }
/-- java/lang/Math -/
def k2 : Class := { plain "java/lang/Math" (some 0) with
  accessFlags := 49
  interfaces := #[]
  cf := some (fileOf pool2 1 #[.nestMembers #[98]] #[{ accessFlags := 2, nameIndex := 7, descriptorIndex := 8, attributes := #[] }, { accessFlags := 9, nameIndex := 201, descriptorIndex := 335, attributes := #[] }] 49 4 #[] #[{ accessFlags := 25, nameIndex := 354, descriptorIndex := 339, attributes := #[] }, { accessFlags := 25, nameIndex := 358, descriptorIndex := 339, attributes := #[] }, { accessFlags := 25, nameIndex := 361, descriptorIndex := 339, attributes := #[] }, { accessFlags := 26, nameIndex := 364, descriptorIndex := 339, attributes := #[] }, { accessFlags := 26, nameIndex := 365, descriptorIndex := 339, attributes := #[] }, { accessFlags := 26, nameIndex := 172, descriptorIndex := 173, attributes := #[] }, { accessFlags := 26, nameIndex := 176, descriptorIndex := 173, attributes := #[] }, { accessFlags := 8, nameIndex := 344, descriptorIndex := 339, attributes := #[] }, { accessFlags := 8, nameIndex := 338, descriptorIndex := 339, attributes := #[] }, { accessFlags := 4120, nameIndex := 245, descriptorIndex := 246, attributes := #[] }])
  fields := #[{ name := "E", type := .double, accessFlags := 25, slot := 0, constantValue := 0 }, { name := "PI", type := .double, accessFlags := 25, slot := 1, constantValue := 0 }, { name := "TAU", type := .double, accessFlags := 25, slot := 2, constantValue := 0 }, { name := "DEGREES_TO_RADIANS", type := .double, accessFlags := 26, slot := 3, constantValue := 0 }, { name := "RADIANS_TO_DEGREES", type := .double, accessFlags := 26, slot := 4, constantValue := 0 }, { name := "negativeZeroFloatBits", type := .long, accessFlags := 26, slot := 5, constantValue := 0 }, { name := "negativeZeroDoubleBits", type := .long, accessFlags := 26, slot := 6, constantValue := 0 }, { name := "twoToTheDoubleScaleUp", type := .double, accessFlags := 8, slot := 7, constantValue := 0 }, { name := "twoToTheDoubleScaleDown", type := .double, accessFlags := 8, slot := 8, constantValue := 0 }, { name := "$assertionsDisabled", type := .boolean, accessFlags := 4120, slot := 9, constantValue := 0 }]
  methods := #[k2m0, k2m1]
  instanceTypes := #[]
  staticTypes := #[.double, .double, .double, .double, .double, .long, .long, .double, .double, .boolean]
  resolved := Array.replicate 460 none
  statics := none }

def pool3 : Array CpInfo := pool [(1, .methodref 2 3), (0, .class_ 4), (0, .nameAndType 5 6), (0, u "java/lang/Object"), (0, u "<init>"), (0, u "()V"), (0, .class_ 8), (0, u "java/lang/Record")] 13

def k3c0 : Code := { maxStack := 1, maxLocals := 1, code := jdk_30_method_1_code, exceptionTable := #[], attributes := #[] }
def k3m0 : Method := { name := "<init>", desc := "()V", sig := { parameters := [], returnType := none }, accessFlags := 4, code := some k3c0 }
/-- java/lang/Record -/
def k3 : Class := { plain "java/lang/Record" (some 0) with
  accessFlags := 1057
  interfaces := #[]
  cf := some (fileOf pool3 7 #[] #[{ accessFlags := 4, nameIndex := 5, descriptorIndex := 6, attributes := #[] }] 1057 2 #[] #[])
  fields := #[]
  methods := #[k3m0]
  instanceTypes := #[]
  staticTypes := #[]
  resolved := Array.replicate 22 none
  statics := none }

def pool4 : Array CpInfo := pool [(1, .methodref 2 3), (0, .class_ 4), (0, .nameAndType 5 6), (0, u "java/lang/Record"), (0, u "<init>"), (0, u "()V"), (9, .fieldref 17 18), (0, .class_ 19), (0, .nameAndType 20 21), (0, u "com/example/tally/tally/score/QuestionScore"), (0, u "gold"), (0, u "I"), (0, .fieldref 17 23), (0, .nameAndType 24 21), (0, u "system"), (0, .fieldref 17 26), (0, .nameAndType 27 21), (0, u "correct"), (26, u "(III)V"), (22, u "precision"), (0, u "()D"), (0, u "recall")] 32

def k4c0 : Code := { maxStack := 5, maxLocals := 4, code := prog_51_method_1_code, exceptionTable := #[], attributes := #[] }
def k4m0 : Method := { name := "<init>", desc := "(III)V", sig := { parameters := [.int, .int, .int], returnType := none }, accessFlags := 1, code := some k4c0 }
def k4c1 : Code := { maxStack := 4, maxLocals := 1, code := prog_51_method_3_code, exceptionTable := #[], attributes := #[] }
def k4m1 : Method := { name := "precision", desc := "()D", sig := { parameters := [], returnType := some .double }, accessFlags := 1, code := some k4c1 }
def k4c2 : Code := { maxStack := 4, maxLocals := 1, code := prog_51_method_4_code, exceptionTable := #[], attributes := #[] }
def k4m2 : Method := { name := "recall", desc := "()D", sig := { parameters := [], returnType := some .double }, accessFlags := 1, code := some k4c2 }
/-- com/example/tally/tally/score/QuestionScore -/
def k4 : Class := { plain "com/example/tally/tally/score/QuestionScore" (some 3) with
  accessFlags := 49
  interfaces := #[]
  cf := some (fileOf pool4 17 #[] #[{ accessFlags := 1, nameIndex := 5, descriptorIndex := 54, attributes := #[] }, { accessFlags := 1, nameIndex := 77, descriptorIndex := 78, attributes := #[] }, { accessFlags := 1, nameIndex := 79, descriptorIndex := 78, attributes := #[] }] 49 2 #[] #[{ accessFlags := 18, nameIndex := 20, descriptorIndex := 21, attributes := #[] }, { accessFlags := 18, nameIndex := 24, descriptorIndex := 21, attributes := #[] }, { accessFlags := 18, nameIndex := 27, descriptorIndex := 21, attributes := #[] }])
  fields := #[{ name := "gold", type := .int, accessFlags := 18, slot := 0, constantValue := 0 }, { name := "system", type := .int, accessFlags := 18, slot := 1, constantValue := 0 }, { name := "correct", type := .int, accessFlags := 18, slot := 2, constantValue := 0 }]
  methods := #[k4m0, k4m1, k4m2]
  instanceTypes := #[.int, .int, .int]
  staticTypes := #[]
  resolved := Array.replicate 112 none
  statics := none }

def pool5 : Array CpInfo := pool [(1, u "java/lang/Cloneable"), (0, .class_ 1), (0, u "java/lang/Object"), (0, .class_ 3)] 3

/-- java/lang/Cloneable -/
def k5 : Class := { plain "java/lang/Cloneable" (some 0) with
  accessFlags := 1537
  interfaces := #[]
  cf := some (fileOf pool5 2 #[] #[] 1537 4 #[] #[])
  fields := #[]
  methods := #[]
  instanceTypes := #[]
  staticTypes := #[]
  resolved := Array.replicate 8 none
  statics := none }

def pool6 : Array CpInfo := pool [(1, u "java/io/Serializable"), (0, .class_ 1), (0, u "java/lang/Object"), (0, .class_ 3)] 3

/-- java/io/Serializable -/
def k6 : Class := { plain "java/io/Serializable" (some 0) with
  accessFlags := 1537
  interfaces := #[]
  cf := some (fileOf pool6 2 #[] #[] 1537 4 #[] #[])
  fields := #[]
  methods := #[]
  instanceTypes := #[]
  staticTypes := #[]
  resolved := Array.replicate 8 none
  statics := none }

/-- the primitive byte -/
def k7 : Class := { plain "byte" none with kind := .primitive 'B', accessFlags := 0x411 }
/-- [B -/
def k8 : Class := { plain "[B" (some 0) with kind := .array 7 .byte, interfaces := #[5, 6], accessFlags := 1041 }

/-- the primitive int -/
def k9 : Class := { plain "int" none with kind := .primitive 'I', accessFlags := 0x411 }
/-- [I -/
def k10 : Class := { plain "[I" (some 0) with kind := .array 9 .int, interfaces := #[5, 6], accessFlags := 1041 }

def heap : Heap := #[]
def classes : Array Class := #[k0, k1, k2, k3, k4, k5, k6, k7, k8, k9, k10]
def interned : List (Array UInt16 × Addr) := []
def slotsUsed : Nat := 0
def theMethod : MethodId := ⟨1, 1⟩
def args0 : Array Value := #[.int 5, .int 5, .int 5, .int 5]
def aboutOver (below : List Frame) : State where
  vm := { classes := classes, interned := interned.toArray }
  heap := heap
  slotsUsed := slotsUsed
  threads := #[{ frames := .invoking theMethod args0 :: below }]
def below0 : List Frame := [.native { method := ⟨0, 0⟩, args := #[] }]
def about1 : State := aboutOver below0
def p0 : Program := .bare "" "" ""
def e0 : Env := launch0.env 0 0 0
theorem w_frames : about1.frames = Frame.invoking theMethod args0 :: below0 := rfl
set_option maxRecDepth 65536 in
theorem w_args : argsFit about1.vm theMethod args0 = true := by decide +kernel
set_option maxRecDepth 65536 in
theorem w_heap : heapFits about1 = true := by decide +kernel
set_option maxRecDepth 65536 in
theorem w_runnable : about1.curStatus? = some .runnable := by decide +kernel
set_option maxRecDepth 65536 in
theorem w_alone : about1.alone = true := by decide +kernel
set_option maxRecDepth 65536 in
theorem w_named : about1.methodNamed? x = some theMethod := by decide +kernel
set_option maxRecDepth 65536 in
theorem w_hears : about1.hears theMethod below0 = true := by decide +kernel
set_option maxRecDepth 65536 in
theorem w_ripe : about1.ripe theMethod args0 below0 = true := by decide +kernel
theorem w_running : about1.status = .running := rfl
set_option maxRecDepth 65536 in
theorem w_room : about1.hasRoom e0.platform room_1 = true :=
  launch0.hasRoom_least _ room_1 (by decide +kernel) (by decide +kernel) (by decide +kernel) (by decide +kernel) (by decide +kernel) (by decide +kernel)
theorem allAtoms_all (ts : List Jvm.Cond) (a : Array Jvm.Value) (st : Jvm.State) : (allAtoms ts).before a st = ts.all (fun c => c.before a st) := by
  induction ts with
  | nil => rfl
  | cons c t ih =>
    show (Jvm.Cond.and c (allAtoms t)).before a st = _
    rw [Jvm.Cond.before_and, ih, List.all_cons]
def words1 : List Jvm.Cond := Jvm.Cond.code x code maxLocals ret :: tables_1
/-- a 'code' word, met by the world's own term for the bytes: nothing is compared byte by byte -/
theorem code_word {y : MethodName} {bytes : ByteArray} {mx : Nat} {rt : Option FieldType} {a : Array Value} {s : State} {m : MethodId} {meth : Method} {c : Code} (h1 : s.methodNamed? y = some m) (h2 : s.vm.method? m = some meth) (h3 : meth.code = some c) (h4 : c.code = bytes)
    (h5 : (c.maxLocals == mx && c.exceptionTable.isEmpty && decide (c.maxStack ≤ mostOperands) && decide (meth.sig.returnType = rt) && !meth.locks && decide (parseMethodDescriptor y.desc = some meth.sig)) = true) : (Jvm.Cond.code y bytes mx rt).before a s = true := by
  simp only [Bool.and_eq_true, beq_iff_eq, Bool.not_eq_true', decide_eq_true_eq] at h5
  obtain ⟨⟨⟨⟨⟨g1, g2⟩, g3⟩, g4⟩, g5⟩, g6⟩ := h5
  simp [Cond.before, Cond.holds, Cond.value, h1, h2, h3, h4, g1, g2, g3, g4, g5, g6]
def isCode : Jvm.Cond → Bool
  | .code _ _ _ _ => true
  | _ => false
theorem all_split {L : List Jvm.Cond} {P : Jvm.Cond → Bool} (h1 : L.all (fun c => isCode c || P c) = true) (h2 : ∀ c ∈ L.filter isCode, P c = true) : L.all P = true := by
  refine List.all_eq_true.mpr fun c hc => ?_
  have h := List.all_eq_true.mp h1 c hc
  rcases Bool.eq_false_or_eq_true (isCode c) with hi | hi
  · exact h2 c (List.mem_filter.mpr ⟨hc, hi⟩)
  · simpa [hi] using h
set_option maxRecDepth 65536 in
theorem w_c0 : (Jvm.Cond.code x code maxLocals ret).before args0 about1 = true := code_word (m := ⟨1, 1⟩) (meth := k1m1) (c := k1c1) (by decide +kernel) rfl rfl rfl (by decide +kernel)
set_option maxRecDepth 65536 in
theorem w_c1 : (Jvm.Cond.code ({ cls := "java/lang/Math", name := "min", desc := "(II)I" } : Jvm.MethodName) jdk_29_method_69_code (2 : Nat) (Option.some Jvm.ClassFile.FieldType.int)).before args0 about1 = true := code_word (m := ⟨2, 1⟩) (meth := k2m1) (c := k2c1) (by decide +kernel) rfl rfl rfl (by decide +kernel)
set_option maxRecDepth 65536 in
theorem w_c2 : (Jvm.Cond.code ({ cls := "com/example/tally/tally/score/QuestionScore", name := "<init>", desc := "(III)V" } : Jvm.MethodName) prog_51_method_1_code (4 : Nat) (Option.none : Option Jvm.ClassFile.FieldType)).before args0 about1 = true := code_word (m := ⟨4, 0⟩) (meth := k4m0) (c := k4c0) (by decide +kernel) rfl rfl rfl (by decide +kernel)
set_option maxRecDepth 65536 in
theorem w_c3 : (Jvm.Cond.code ({ cls := "java/lang/Record", name := "<init>", desc := "()V" } : Jvm.MethodName) jdk_30_method_1_code (1 : Nat) (Option.none : Option Jvm.ClassFile.FieldType)).before args0 about1 = true := code_word (m := ⟨3, 0⟩) (meth := k3m0) (c := k3c0) (by decide +kernel) rfl rfl rfl (by decide +kernel)
set_option maxRecDepth 65536 in
theorem w_c4 : (Jvm.Cond.code ({ cls := "java/lang/Object", name := "<init>", desc := "()V" } : Jvm.MethodName) object_method_1_code (1 : Nat) (Option.none : Option Jvm.ClassFile.FieldType)).before args0 about1 = true := code_word (m := ⟨0, 0⟩) (meth := k0m0) (c := k0c0) (by decide +kernel) rfl rfl rfl (by decide +kernel)
set_option maxRecDepth 65536 in
theorem w_c5 : (Jvm.Cond.code ({ cls := "com/example/tally/tally/score/QuestionScore", name := "recall", desc := "()D" } : Jvm.MethodName) prog_51_method_4_code (1 : Nat) (Option.some Jvm.ClassFile.FieldType.double)).before args0 about1 = true := code_word (m := ⟨4, 2⟩) (meth := k4m2) (c := k4c2) (by decide +kernel) rfl rfl rfl (by decide +kernel)
set_option maxRecDepth 65536 in
theorem w_c6 : (Jvm.Cond.code ({ cls := "com/example/tally/tally/score/QuestionScore", name := "precision", desc := "()D" } : Jvm.MethodName) prog_51_method_3_code (1 : Nat) (Option.some Jvm.ClassFile.FieldType.double)).before args0 about1 = true := code_word (m := ⟨4, 1⟩) (meth := k4m1) (c := k4c1) (by decide +kernel) rfl rfl rfl (by decide +kernel)
def codes1 : List Jvm.Cond := [Jvm.Cond.code x code maxLocals ret, Jvm.Cond.code ({ cls := "java/lang/Math", name := "min", desc := "(II)I" } : Jvm.MethodName) jdk_29_method_69_code (2 : Nat) (Option.some Jvm.ClassFile.FieldType.int), Jvm.Cond.code ({ cls := "com/example/tally/tally/score/QuestionScore", name := "<init>", desc := "(III)V" } : Jvm.MethodName) prog_51_method_1_code (4 : Nat) (Option.none : Option Jvm.ClassFile.FieldType), Jvm.Cond.code ({ cls := "java/lang/Record", name := "<init>", desc := "()V" } : Jvm.MethodName) jdk_30_method_1_code (1 : Nat) (Option.none : Option Jvm.ClassFile.FieldType), Jvm.Cond.code ({ cls := "java/lang/Object", name := "<init>", desc := "()V" } : Jvm.MethodName) object_method_1_code (1 : Nat) (Option.none : Option Jvm.ClassFile.FieldType), Jvm.Cond.code ({ cls := "com/example/tally/tally/score/QuestionScore", name := "recall", desc := "()D" } : Jvm.MethodName) prog_51_method_4_code (1 : Nat) (Option.some Jvm.ClassFile.FieldType.double), Jvm.Cond.code ({ cls := "com/example/tally/tally/score/QuestionScore", name := "precision", desc := "()D" } : Jvm.MethodName) prog_51_method_3_code (1 : Nat) (Option.some Jvm.ClassFile.FieldType.double)]
set_option maxRecDepth 65536 in
theorem codes_eq : words1.filter isCode = codes1 := rfl
theorem w_codes : ∀ c ∈ words1.filter isCode, c.before args0 about1 = true := by
  rw [codes_eq]
  intro c hc
  simp only [codes1, List.mem_cons, List.not_mem_nil, or_false] at hc
  rcases hc with rfl | rfl | rfl | rfl | rfl | rfl | rfl
  · exact w_c0
  · exact w_c1
  · exact w_c2
  · exact w_c3
  · exact w_c4
  · exact w_c5
  · exact w_c6
set_option maxRecDepth 65536 in
theorem w_t1 : (words1.take 24).all (fun c => isCode c || c.before args0 about1) = true := by decide +kernel
set_option maxRecDepth 65536 in
theorem w_t2 : (words1.drop 24).all (fun c => isCode c || c.before args0 about1) = true := by decide +kernel
theorem w_tables : (allAtoms (Jvm.Cond.code x code maxLocals ret :: tables_1)).before args0 about1 = true := by
  rw [allAtoms_all]
  show words1.all (fun c => c.before args0 about1) = true
  refine all_split ?_ w_codes
  rw [← List.take_append_drop 24 words1, List.all_append, w_t1, w_t2]
  rfl
set_option maxRecDepth 65536 in
theorem w_case : (Jvm.Cond.and given_1 narrow_1).before args0 about1 = true := by decide +kernel
theorem w_applies : (headSpec (Jvm.Cond.code x code maxLocals ret :: tables_1) room_1).applies x e0.platform about1 = true :=
  (Spec.applies_iff w_frames).mpr ⟨w_running, w_runnable, w_alone, w_named, w_hears, w_ripe, w_room, w_tables⟩
theorem atStart : AtStart classFile x code maxLocals ret World_1 tables_1 room_1 Calls_1 rest_1 Pre_1 launch0 p0 e0 about1 theMethod args0 below0 :=
  ⟨lists_1, trivial, launch0.admits_env _ _ _, launch0.least_env, fairChoices_fair.cas, fairChoices_fair.clock, w_frames, w_args, w_heap, w_applies, trivial, trivial, w_case⟩
end start1
theorem witness_1 : WitnessClaimed_1 := ⟨start1.p0, start1.e0, start1.about1, start1.theMethod, start1.args0, start1.below0, start1.atStart⟩
end Jvm.Pilot.@@N@@
