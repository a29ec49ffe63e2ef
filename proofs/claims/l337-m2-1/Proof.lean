import JvmDerived
import JvmDerived.Pilot.@@N@@Statement
import JvmDerived.Pilot.@@N@@Code
set_option linter.unusedVariables false
set_option linter.unusedSimpArgs false
@@BLOCK:NumsL.lean.txt@@
namespace Jvm.RoadKit
open Sem ClassFile Op Lib Jvm.Stand Jvm.Free Jvm.LawKit
section OwnSteps
variable {tb : Tables} [Ours tb] {e : Env} {below : List Frame} {T target : State} {m : MethodId} {c : Code} {g : JFrame}
theorem own_dloadN (h : At T m c below) (hx : tb.exec = Jvm.exec) (hg : g.method = m) {k : Fin 4} {v : UInt64} (hd : decode c.code g.pc = .ok (.dload_n k, 1)) (hl : g.locals[k.val]? = some (.val (.double v)))
    (hr : Steps tb e below (T.setTop { g with pc := g.pc + 1, stack := .double v :: g.stack }) target) : Steps tb e below (T.setTop g) target := by
  subst hg
  jvm_step h [h.top, hx, hd, hl]
  exact hr
theorem own_dload (h : At T m c below) (hx : tb.exec = Jvm.exec) (hg : g.method = m) {k : Nat} {v : UInt64} (hd : decode c.code g.pc = .ok (.dload k, 2)) (hl : g.locals[k]? = some (.val (.double v)))
    (hr : Steps tb e below (T.setTop { g with pc := g.pc + 2, stack := .double v :: g.stack }) target) : Steps tb e below (T.setTop g) target := by
  subst hg
  jvm_step h [h.top, hx, hd, hl]
  exact hr
theorem own_dstoreN (h : At T m c below) (hx : tb.exec = Jvm.exec) (hg : g.method = m) {k : Fin 4} {x : UInt64} {rest : List Value} {l' : Array Slot} (hd : decode c.code g.pc = .ok (.dstore_n k, 1)) (hs : g.stack = .double x :: rest) (hl : storeLocals g.locals k.val (.double x) = some l')
    (hr : Steps tb e below (T.setTop { g with pc := g.pc + 1, stack := rest, locals := l' }) target) : Steps tb e below (T.setTop g) target := by
  subst hg
  jvm_step h [h.top, hx, hd, hs, hl]
  exact hr
theorem own_dstore (h : At T m c below) (hx : tb.exec = Jvm.exec) (hg : g.method = m) {k : Nat} {x : UInt64} {rest : List Value} {l' : Array Slot} (hd : decode c.code g.pc = .ok (.dstore k, 2)) (hs : g.stack = .double x :: rest) (hl : storeLocals g.locals k (.double x) = some l')
    (hr : Steps tb e below (T.setTop { g with pc := g.pc + 2, stack := rest, locals := l' }) target) : Steps tb e below (T.setTop g) target := by
  subst hg
  jvm_step h [h.top, hx, hd, hs, hl]
  exact hr
theorem own_i2d (h : At T m c below) (hx : tb.exec = Jvm.exec) (hg : g.method = m) {x : Int32} {rest : List Value} (hd : decode c.code g.pc = .ok (.i2d, 1)) (hs : g.stack = .int x :: rest)
    (hr : Steps tb e below (T.setTop { g with pc := g.pc + 1, stack := .double (FP.i2d x) :: rest }) target) : Steps tb e below (T.setTop g) target := by
  subst hg
  jvm_step h [h.top, hx, hd, hs]
  exact hr
theorem own_l2d (h : At T m c below) (hx : tb.exec = Jvm.exec) (hg : g.method = m) {x : Int64} {rest : List Value} (hd : decode c.code g.pc = .ok (.l2d, 1)) (hs : g.stack = .long x :: rest)
    (hr : Steps tb e below (T.setTop { g with pc := g.pc + 1, stack := .double (FP.l2d x) :: rest }) target) : Steps tb e below (T.setTop g) target := by
  subst hg
  jvm_step h [h.top, hx, hd, hs]
  exact hr
theorem own_d2l (h : At T m c below) (hx : tb.exec = Jvm.exec) (hg : g.method = m) {x : UInt64} {rest : List Value} (hd : decode c.code g.pc = .ok (.d2l, 1)) (hs : g.stack = .double x :: rest)
    (hr : Steps tb e below (T.setTop { g with pc := g.pc + 1, stack := .long (FP.d2l x) :: rest }) target) : Steps tb e below (T.setTop g) target := by
  subst hg
  jvm_step h [h.top, hx, hd, hs]
  exact hr
theorem own_d2i (h : At T m c below) (hx : tb.exec = Jvm.exec) (hg : g.method = m) {x : UInt64} {rest : List Value} (hd : decode c.code g.pc = .ok (.d2i, 1)) (hs : g.stack = .double x :: rest)
    (hr : Steps tb e below (T.setTop { g with pc := g.pc + 1, stack := .int (FP.d2i x) :: rest }) target) : Steps tb e below (T.setTop g) target := by
  subst hg
  jvm_step h [h.top, hx, hd, hs]
  exact hr
theorem own_dneg (h : At T m c below) (hx : tb.exec = Jvm.exec) (hg : g.method = m) {x : UInt64} {rest : List Value} (hd : decode c.code g.pc = .ok (.dneg, 1)) (hs : g.stack = .double x :: rest)
    (hr : Steps tb e below (T.setTop { g with pc := g.pc + 1, stack := .double (FP.dneg x) :: rest }) target) : Steps tb e below (T.setTop g) target := by
  subst hg
  jvm_step h [h.top, hx, hd, hs]
  exact hr
theorem own_dcmp (h : At T m c below) (hx : tb.exec = Jvm.exec) (hg : g.method = m) {op : CmpOp} {x y : UInt64} {rest : List Value} (hd : decode c.code g.pc = .ok (.dcmp op, 1)) (hs : g.stack = .double y :: .double x :: rest)
    (hr : Steps tb e below (T.setTop { g with pc := g.pc + 1, stack := .int (cmpValue (FP.dcmp x y) op) :: rest }) target) : Steps tb e below (T.setTop g) target := by
  subst hg
  jvm_step h [h.top, hx, hd, hs]
  exact hr
theorem own_dconst0 (h : At T m c below) (hx : tb.exec = Jvm.exec) (hg : g.method = m) (hd : decode c.code g.pc = .ok (.dconst 0, 1))
    (hr : Steps tb e below (T.setTop { g with pc := g.pc + 1, stack := .double (0 : UInt64) :: g.stack }) target) : Steps tb e below (T.setTop g) target := by
  subst hg
  jvm_step h [h.top, hx, hd]
  exact hr
theorem own_dconst1 (h : At T m c below) (hx : tb.exec = Jvm.exec) (hg : g.method = m) (hd : decode c.code g.pc = .ok (.dconst 1, 1))
    (hr : Steps tb e below (T.setTop { g with pc := g.pc + 1, stack := .double (4607182418800017408 : UInt64) :: g.stack }) target) : Steps tb e below (T.setTop g) target := by
  subst hg
  jvm_step h [h.top, hx, hd]
  exact hr
/-- no NaN, as the steps' law asks it -/
abbrev OwnNum (x : UInt64) : Prop := x &&& 0x7fffffffffffffff ≤ 0x7ff0000000000000
theorem own_dadd (h : At T m c below) (hx : tb.exec = Jvm.exec) (hg : g.method = m) {x y : UInt64} {rest : List Value} (hd : decode c.code g.pc = .ok (.dadd, 1)) (hs : g.stack = .double y :: .double x :: rest) (hn : OwnNum (FP.dadd x y))
    (hr : Steps tb e below (T.setTop { g with pc := g.pc + 1, stack := .double (FP.dadd x y) :: rest }) target) : Steps tb e below (T.setTop g) target := by
  subst hg
  obtain ⟨gm, gpc, gl, gs, gk, ge, gr⟩ := g
  cases hs
  jvm_step h [h.top, hx, hd, Op.dadd.at_number h.top hn]
  exact hr
theorem own_dsub (h : At T m c below) (hx : tb.exec = Jvm.exec) (hg : g.method = m) {x y : UInt64} {rest : List Value} (hd : decode c.code g.pc = .ok (.dsub, 1)) (hs : g.stack = .double y :: .double x :: rest) (hn : OwnNum (FP.dsub x y))
    (hr : Steps tb e below (T.setTop { g with pc := g.pc + 1, stack := .double (FP.dsub x y) :: rest }) target) : Steps tb e below (T.setTop g) target := by
  subst hg
  obtain ⟨gm, gpc, gl, gs, gk, ge, gr⟩ := g
  cases hs
  jvm_step h [h.top, hx, hd, Op.dsub.at_number h.top hn]
  exact hr
theorem own_dmul (h : At T m c below) (hx : tb.exec = Jvm.exec) (hg : g.method = m) {x y : UInt64} {rest : List Value} (hd : decode c.code g.pc = .ok (.dmul, 1)) (hs : g.stack = .double y :: .double x :: rest) (hn : OwnNum (FP.dmul x y))
    (hr : Steps tb e below (T.setTop { g with pc := g.pc + 1, stack := .double (FP.dmul x y) :: rest }) target) : Steps tb e below (T.setTop g) target := by
  subst hg
  obtain ⟨gm, gpc, gl, gs, gk, ge, gr⟩ := g
  cases hs
  jvm_step h [h.top, hx, hd, Op.dmul.at_number h.top hn]
  exact hr
theorem own_ddiv (h : At T m c below) (hx : tb.exec = Jvm.exec) (hg : g.method = m) {x y : UInt64} {rest : List Value} (hd : decode c.code g.pc = .ok (.ddiv, 1)) (hs : g.stack = .double y :: .double x :: rest) (hn : OwnNum (FP.ddiv x y))
    (hr : Steps tb e below (T.setTop { g with pc := g.pc + 1, stack := .double (FP.ddiv x y) :: rest }) target) : Steps tb e below (T.setTop g) target := by
  subst hg
  obtain ⟨gm, gpc, gl, gs, gk, ge, gr⟩ := g
  cases hs
  jvm_step h [h.top, hx, hd, Op.ddiv.at_number h.top hn]
  exact hr
end OwnSteps
/-- the run from S ends by a return, with what Q says of its value, the heap and the places written -/
def Go (tb : Tables) (e : Env) (below : List Frame) (s : State) (k n : Nat) (Q : Option Value → Heap → List Loc → Prop) (S : State) : Prop :=
  ∃ s₂ o, Steps tb e below S s₂ ∧ s₂.status = .running ∧ Ended s₂ below o ∧ ∃ v L, o = .returned v ∧ Q v s₂.heap L ∧ FrameEnd s o s₂ L k n
theorem Go.adv {tb : Tables} {e : Env} {below : List Frame} {s : State} {k n : Nat} {Q : Option Value → Heap → List Loc → Prop} {S S' : State} (h : ∀ t, Steps tb e below S' t → Steps tb e below S t) (g : Go tb e below s k n Q S') : Go tb e below s k n Q S := by
  obtain ⟨s₂, o, h1, h2⟩ := g
  exact ⟨s₂, o, h _ h1, h2⟩
theorem Go.tr {tb : Tables} {e : Env} {below : List Frame} {s : State} {k n : Nat} {Q : Option Value → Heap → List Loc → Prop} {S S' : State} (h : Steps tb e below S S') (g : Go tb e below s k n Q S') : Go tb e below s k n Q S := by
  obtain ⟨s₂, o, h1, h2⟩ := g
  exact ⟨s₂, o, h.trans h1, h2⟩
theorem Go.start {tb : Tables} {e : Env} {below : List Frame} {s : State} {k n : Nat} {Q : Option Value → Heap → List Loc → Prop} {T : State} {g g' : JFrame} (q : g = g') (h : Go tb e below s k n Q (T.setTop g')) :
    ∃ s₂ o, Steps tb e below (T.setTop g) s₂ ∧ s₂.status = .running ∧ Ended s₂ below o ∧ ∃ v L, o = .returned v ∧ Q v s₂.heap L ∧ FrameEnd s o s₂ L k n := by
  subst q; exact h
theorem own_hide {p : Program} {l : Launch} {e : Env} {R : Room} {s : State} {m : MethodId} {args : Array Value} {below : List Frame} {meth : Method} {c : Code} {T : State} {L : List Loc} {k n a : Nat} (X : Stand p l e R s m args below meth c T L k n) (N : Fr a L) : ∃ L', Stand p l e R s m args below meth c T L' k n ∧ Fr a L' := ⟨L, X, N⟩
theorem own_staKeep0 {Z : State} {h h' : Heap} {C n d : String} {w : Value} (F : Sta Z h C n d w) (K : Keep h h' []) : Sta Z h' C n d w := by
  obtain ⟨cf, i, k, f, st, cell, h1, h2, h3, h4, h5, h6, h7⟩ := F
  exact ⟨cf, i, k, f, st, cell, h1, h2, h3, h4, K.2.1 st cell h5 nin0, h6, h7⟩
theorem own_staKeep {Z : State} {h h' : Heap} {C n d D : String} {w : Value} {a : Addr} (F : Sta Z h C n d w) (K : Keep h h' [a]) (E : Exa Z h a D) : Sta Z h' C n d w := by
  obtain ⟨cf, i, k, f, st, cell, h1, h2, h3, h4, h5, h6, h7⟩ := F
  obtain ⟨c2, k2, e1, -, -, e4, -⟩ := E
  refine ⟨cf, i, k, f, st, cell, h1, h2, h3, h4, K.2.1 st cell h5 fun hm => ?_, h6, h7⟩
  cases List.mem_singleton.mp hm
  cases h5.symm.trans e1
  rw [h6] at e4; cases e4
section OwnRet
variable {p : Program} {l : Launch} {e : Env} {R : Room} {s : State} {m : MethodId} {args : Array Value} {below : List Frame} {meth : Method} {c : Code} {T : State} {locs : List Loc} {cells slots : Nat}
theorem Go.ret (X : Stand p l e R s m args below meth c T locs cells slots) {v : Option Value} (hv : meth.sig.returnType = none → v = none) (hlk : meth.locks = false) {k n : Nat} {Q : Option Value → Heap → List Loc → Prop} {S : State}
    (hs : ∀ fs, (∀ (f : JFrame) (acts : List Action), f.method = m → f.locked = none → f.entered = [] → (doReturn e (T.setTop f) acts v).1 = T.setFrames fs) → Steps p.tables e below S (T.setFrames fs))
    (hQ : Q v T.heap locs) (hk : cells ≤ k) (hn : slots ≤ n) : Go p.tables e below s k n Q S := by
  obtain ⟨fs, hr, hrun, hended, hW, hsame⟩ := X.leave (v := v) hv hlk
  exact ⟨_, _, hs fs hr, hrun, hended, _, _, rfl, hQ, ⟨_, rfl⟩, hW, hsame.mono hk hn⟩
/-- the same, where String constants may have been made: the wide frame -/
def GoW (tb : Tables) (e : Env) (below : List Frame) (s : State) (k n : Nat) (Q : Option Value → Heap → List Loc → Prop) (S : State) : Prop :=
  ∃ s₂ o, Steps tb e below S s₂ ∧ s₂.status = .running ∧ Ended s₂ below o ∧ ∃ v L, o = .returned v ∧ Q v s₂.heap L ∧ ReturnedEndW s o s₂ L k n
theorem GoW.adv {tb : Tables} {e : Env} {below : List Frame} {s : State} {k n : Nat} {Q : Option Value → Heap → List Loc → Prop} {S S' : State} (h : ∀ t, Steps tb e below S' t → Steps tb e below S t) (g : GoW tb e below s k n Q S') : GoW tb e below s k n Q S := by
  obtain ⟨s₂, o, h1, h2⟩ := g
  exact ⟨s₂, o, h _ h1, h2⟩
theorem GoW.tr {tb : Tables} {e : Env} {below : List Frame} {s : State} {k n : Nat} {Q : Option Value → Heap → List Loc → Prop} {S S' : State} (h : Steps tb e below S S') (g : GoW tb e below s k n Q S') : GoW tb e below s k n Q S := by
  obtain ⟨s₂, o, h1, h2⟩ := g
  exact ⟨s₂, o, h.trans h1, h2⟩
theorem GoW.start {tb : Tables} {e : Env} {below : List Frame} {s : State} {k n : Nat} {Q : Option Value → Heap → List Loc → Prop} {T : State} {g g' : JFrame} (q : g = g') (h : GoW tb e below s k n Q (T.setTop g')) :
    ∃ s₂ o, Steps tb e below (T.setTop g) s₂ ∧ s₂.status = .running ∧ Ended s₂ below o ∧ ∃ v L, o = .returned v ∧ Q v s₂.heap L ∧ ReturnedEndW s o s₂ L k n := by
  subst q; exact h
theorem GoW.ret {vm : Vm} (X : Stand p l e R (s.setVm vm) m args below meth c T locs cells slots) {kk : Nat} (hS : s.Since vm kk) (hkk : kk ≤ T.heap.size) {v : Option Value} (hv : meth.sig.returnType = none → v = none) (hlk : meth.locks = false) {k n : Nat} {Q : Option Value → Heap → List Loc → Prop} {S : State}
    (hs : ∀ fs, (∀ (f : JFrame) (acts : List Action), f.method = m → f.locked = none → f.entered = [] → (doReturn e (T.setTop f) acts v).1 = T.setFrames fs) → Steps p.tables e below S (T.setFrames fs))
    (hQ : Q v T.heap locs) (hk : cells ≤ k) (hn : slots ≤ n) : GoW p.tables e below s k n Q S := by
  obtain ⟨fs, hr, hrun, hended, h1, h2, h3, h4⟩ := X.leaveW hS hkk (v := v) hv hlk
  exact ⟨_, _, hs fs hr, hrun, hended, _, _, rfl, hQ, h1, h2, h3, h4.mono hk hn⟩
end OwnRet
end Jvm.RoadKit
namespace Jvm.Own
open Jvm.FP.Core
/-- a datum times 2^k -/
def sh (k : Int) : Datum → Datum
  | .nan => .nan
  | .inf s => .inf s
  | .fin s c q => .fin s c (q + k)
/-- the double a is i / 2^k -/
def Dy (k : Nat) (i : Int) (a : UInt64) : Prop := Whole i (sh k (val64 a))
theorem whole_shape {i : Int} {d : Datum} (h : Whole i d) : ∃ s c q, d = .fin s c q := by
  cases d with
  | nan => exact h.elim
  | inf => exact h.elim
  | fin s c q => exact ⟨s, c, q, rfl⟩
theorem sh_shape {k : Int} {i : Int} {d : Datum} (h : Whole i (sh k d)) : ∃ s c q, d = .fin s c q := by
  cases d with
  | nan => exact h.elim
  | inf => exact h.elim
  | fin s c q => exact ⟨s, c, q, rfl⟩
theorem units_sh (c : Nat) (q e k : Int) : inUnits c (q + k) (e + k) = inUnits c q e := by
  show c * 2 ^ (q + k - (e + k)).toNat = c * 2 ^ (q - e).toNat
  rw [show q + k - (e + k) = q - e by omega]
theorem sum_sh (k : Int) (s : Bool) (c : Nat) (q : Int) (t : Bool) (d : Nat) (r : Int) : exactSum (.fin s c (q + k)) (.fin t d (r + k)) = sh k (exactSum (.fin s c q) (.fin t d r)) := by
  have hm : min (q + k) (r + k) = min q r + k := by omega
  have hu : sumUnits s c (q + k) t d (r + k) (min q r + k) = sumUnits s c q t d r (min q r) := by
    show signed s (inUnits c (q + k) (min q r + k)) + signed t (inUnits d (r + k) (min q r + k)) = signed s (inUnits c q (min q r)) + signed t (inUnits d r (min q r))
    rw [units_sh, units_sh]
  show Datum.fin (sumSign s t (sumUnits s c (q + k) t d (r + k) (min (q + k) (r + k)))) (sumUnits s c (q + k) t d (r + k) (min (q + k) (r + k))).natAbs (min (q + k) (r + k)) = Datum.fin (sumSign s t (sumUnits s c q t d r (min q r))) (sumUnits s c q t d r (min q r)).natAbs (min q r + k)
  rw [hm, hu]
theorem round_sh {k : Nat} (hk : k ≤ 900) {i : Int} (hi : i.natAbs ≤ 2 ^ 53) {d : Datum} (h : Whole i (sh k d)) : Whole i (sh k (round b64 d)) := by
  obtain ⟨s, c, q, rfl⟩ := sh_shape h
  have h' : Whole i (.fin s c (q + k)) := h
  by_cases h0 : i = 0
  · have hc : c = 0 := (whole_zero h').mpr h0
    subst hc
    subst h0
    have e1 : round b64 (.fin s 0 q) = .fin s 0 b64.qmin := (if_pos rfl : roundRatio b64 s 0 1 q = _)
    rw [e1]
    show signed s (0 * 2 ^ (b64.qmin + k).toNat) = 0 * _
    rw [Nat.zero_mul, Int.zero_mul]
    exact signed_zero s
  · obtain ⟨c0, q0, hfit, hv⟩ := natFit good_b64 wide_b64 s (n := i.natAbs) (show _ ≤ 2 ^ 53 from hi)
    have hs := whole_sign h' h0
    have hn := whole_natAbs h'
    have hW : Whole i (.fin s i.natAbs 0) := by rw [hs]; exact whole_ofInt i
    have e1 : round b64 (.fin s i.natAbs 0) = .fin s c0 q0 := roundRatio_exact good_b64 (by decide) hfit hv
    have hW2 := whole_round good_b64 wide_b64 (show _ ≤ 2 ^ 53 from hi) hW
    rw [e1] at hW2
    have hq : -100 ≤ q0 := by
      refine Int.not_lt.mp fun hlt => ?_
      have p1 : (q0 - 0).toNat = 0 := by omega
      have p2 : 2 ^ 101 ≤ 2 ^ (0 - q0).toNat := Nat.pow_le_pow_right (by decide) (by omega)
      have p3 : 1 * 2 ^ (0 - q0).toNat ≤ i.natAbs * 2 ^ (0 - q0).toNat := Nat.mul_le_mul_right _ (by omega)
      have p4 : c0 < 2 ^ 53 := hfit.1
      rw [hv, p1, Nat.pow_zero, Nat.mul_one, Nat.mul_one, Nat.one_mul] at p3
      have p5 : (2 : Nat) ^ 53 ≤ 2 ^ 101 := Nat.pow_le_pow_right (by decide) (by decide)
      exact absurd (Nat.lt_of_le_of_lt (Nat.le_trans p2 p3) p4) (Nat.not_lt.mpr p5)
    have hfit' : Jvm.FP.Core.fits b64 (.fin s c0 (q0 - k)) := by
      obtain ⟨f1, f2, f3, f4⟩ := hfit
      refine ⟨f1, ?_, by omega, Or.inr ?_⟩
      · rw [qmin_b64]; omega
      · rcases f4 with f4 | f4
        · rw [qmin_b64] at f4; omega
        · exact f4
    have e2 : round b64 (.fin s c q) = .fin s c0 (q0 - k) := by
      show roundRatio b64 s c 1 q = _
      rw [roundRatio_congr (A' := i.natAbs) (B' := 1) (e' := -(k : Int)) (by decide) (by decide) (by
        rw [show q - -(k : Int) = q + k by omega, show -(k : Int) - q = -(q + k) by omega, Nat.mul_one, Nat.mul_one]; exact hn)]
      exact roundRatio_exact good_b64 (by decide) hfit' (by
        rw [show -(k : Int) - (q0 - k) = 0 - q0 by omega, show q0 - k - -(k : Int) = q0 - 0 by omega]; exact hv)
    rw [e2]
    show Whole i (.fin s c0 (q0 - k + k))
    rw [Int.sub_add_cancel]
    exact hW2
theorem Dy.of {i : Int} {a : UInt64} (h : DInt i a) : Dy 0 i a := by
  have h1 : Whole i (val64 a) := h
  obtain ⟨s, c, q, e⟩ := whole_shape h1
  show Whole i (sh 0 (val64 a))
  rw [e] at h1 ⊢
  show Whole i (.fin s c (q + 0))
  rw [Int.add_zero]; exact h1
theorem Dy.int {i : Int} {a : UInt64} (h : Dy 0 i a) : DInt i a := by
  have h1 : Whole i (sh 0 (val64 a)) := h
  obtain ⟨s, c, q, e⟩ := sh_shape h1
  show Whole i (val64 a)
  rw [e] at h1 ⊢
  have h2 : Whole i (.fin s c (q + 0)) := h1
  rw [Int.add_zero] at h2; exact h2
theorem Dy.fin {k : Nat} {i : Int} {a : UInt64} (h : Dy k i a) : DFin a := sh_shape h
theorem Dy.add {k : Nat} {i j : Int} {a b : UInt64} (ha : Dy k i a) (hb : Dy k j b) (hk : k ≤ 900) (h : (i + j).natAbs ≤ 2 ^ 53) : Dy k (i + j) (dadd a b) := by
  show Whole _ (sh k (val64 (dadd a b)))
  rw [val64_dadd]
  refine round_sh hk h ?_
  have ha' : Whole i (sh k (val64 a)) := ha
  have hb' : Whole j (sh k (val64 b)) := hb
  obtain ⟨s, c, q, e1⟩ := sh_shape ha'
  obtain ⟨t, d, r, e2⟩ := sh_shape hb'
  rw [e1] at ha' ⊢
  rw [e2] at hb' ⊢
  rw [← sum_sh]
  exact whole_sum ha' hb'
theorem Dy.sub {k : Nat} {i j : Int} {a b : UInt64} (ha : Dy k i a) (hb : Dy k j b) (hk : k ≤ 900) (h : (i - j).natAbs ≤ 2 ^ 53) : Dy k (i - j) (dsub a b) := by
  show Whole _ (sh k (val64 (dsub a b)))
  rw [val64_dsub]
  refine round_sh hk h ?_
  have ha' : Whole i (sh k (val64 a)) := ha
  have hb' : Whole j (sh k (val64 b)) := hb
  obtain ⟨s, c, q, e1⟩ := sh_shape ha'
  obtain ⟨t, d, r, e2⟩ := sh_shape hb'
  rw [e1] at ha' ⊢
  rw [e2] at hb' ⊢
  show Whole (i - j) (sh k (exactSum (.fin s c q) (.fin (!t) d r)))
  rw [← sum_sh]
  exact whole_sum ha' (whole_negate hb')
theorem Dy.mul {k n : Nat} {i j : Int} {a b : UInt64} (ha : Dy k i a) (hb : Dy n j b) (hk : k + n ≤ 900) (h : (i * j).natAbs ≤ 2 ^ 53) : Dy (k + n) (i * j) (dmul a b) := by
  show Whole _ (sh ((k + n : Nat) : Int) (val64 (dmul a b)))
  rw [val64_dmul]
  refine round_sh hk h ?_
  have ha' : Whole i (sh k (val64 a)) := ha
  have hb' : Whole j (sh n (val64 b)) := hb
  obtain ⟨s, c, q, e1⟩ := sh_shape ha'
  obtain ⟨t, d, r, e2⟩ := sh_shape hb'
  rw [e1] at ha' ⊢
  rw [e2] at hb' ⊢
  have hp : Whole (i * j) (.fin (s != t) (c * d) ((q + k) + (r + n))) := whole_product ha' hb'
  show Whole (i * j) (.fin (s != t) (c * d) (q + r + ((k + n : Nat) : Int)))
  rw [show q + r + ((k + n : Nat) : Int) = (q + k) + (r + n) by omega]
  exact hp
theorem Dy.cmp {k : Nat} {i j : Int} {a b : UInt64} (ha : Dy k i a) (hb : Dy k j b) : dcmp a b = some (compare i j) := by
  have ha' : Whole i (sh k (val64 a)) := ha
  have hb' : Whole j (sh k (val64 b)) := hb
  show order (val64 a) (val64 b) = _
  obtain ⟨s, c, q, e1⟩ := sh_shape ha'
  obtain ⟨t, d, r, e2⟩ := sh_shape hb'
  rw [e1] at ha' ⊢
  rw [e2] at hb' ⊢
  rw [← order_whole ha' hb']
  show some (compare (signed s (inUnits c q (min q r))) (signed t (inUnits d r (min q r)))) = some (compare (signed s (inUnits c (q + k) (min (q + k) (r + k)))) (signed t (inUnits d (r + k) (min (q + k) (r + k)))))
  rw [show min (q + (k : Int)) (r + k) = min q r + k by omega, units_sh, units_sh]
theorem whole_up {i : Int} {s : Bool} {c : Nat} {q : Int} (n : Nat) (h : Whole i (.fin s c q)) : Whole (i * ((2 ^ n : Nat) : Int)) (.fin s c (q + n)) := by
  have h1 : signed s (c * 2 ^ q.toNat) = i * ((2 ^ (-q).toNat : Nat) : Int) := h
  show signed s (c * 2 ^ (q + n).toNat) = i * ((2 ^ n : Nat) : Int) * ((2 ^ (-(q + n)).toNat : Nat) : Int)
  have p2 : ((2 ^ (-q).toNat : Nat) : Int) ≠ 0 := by
    have := Nat.two_pow_pos (-q).toNat; omega
  refine Int.eq_of_mul_eq_mul_right p2 ?_
  have hx : (q + n).toNat + (-q).toNat = q.toNat + (n + (-(q + n)).toNat) := by omega
  rw [← signed_mul, Nat.mul_assoc, ← Nat.pow_add, hx, Nat.pow_add, ← Nat.mul_assoc, signed_mul, h1, Nat.pow_add, Int.natCast_mul]
  ac_rfl
theorem Dy.up {k : Nat} {i : Int} {a : UInt64} (n : Nat) (h : Dy k i a) : Dy (k + n) (i * ((2 ^ n : Nat) : Int)) a := by
  have h1 : Whole i (sh k (val64 a)) := h
  obtain ⟨s, c, q, e⟩ := sh_shape h1
  show Whole _ (sh ((k + n : Nat) : Int) (val64 a))
  rw [e] at h1 ⊢
  have h2 : Whole i (.fin s c (q + k)) := h1
  have h3 := whole_up n h2
  show Whole _ (.fin s c (q + ((k + n : Nat) : Int)))
  rw [show q + ((k + n : Nat) : Int) = q + k + n by omega]
  exact h3
/-- divided by 2^n -/
theorem Dy.div2 {k n : Nat} {i : Int} {a b : UInt64} {mm : Nat} {r : Int} (h : Dy k i a) (hb : val64 b = .fin false (2 ^ mm) r) (hr : r + mm = n) (hk : k + n ≤ 900) (hi : i.natAbs ≤ 2 ^ 53) : Dy (k + n) i (ddiv a b) := by
  have h1 : Whole i (sh k (val64 a)) := h
  obtain ⟨s, c, q, e⟩ := sh_shape h1
  show Whole _ (sh ((k + n : Nat) : Int) (val64 (ddiv a b)))
  rw [val64_ddiv, hb]
  rw [e] at h1 ⊢
  have hp : 0 < 2 ^ mm := Nat.two_pow_pos mm
  have e1 : quotient b64 (.fin s c q) (.fin false (2 ^ mm) r) = round b64 (.fin s c (q - n)) := by
    show (if 2 ^ mm = 0 then _ else roundRatio b64 (s != false) c (2 ^ mm) (q - r)) = roundRatio b64 s c 1 (q - n)
    rw [if_neg (by omega), show (s != false) = s by cases s <;> rfl]
    refine roundRatio_congr hp (by decide) ?_
    rw [show (q - r - (q - (n : Int))).toNat = mm by omega, show (q - (n : Int) - (q - r)).toNat = 0 by omega, Nat.pow_zero, Nat.mul_one, Nat.mul_one]
  rw [e1]
  refine round_sh hk hi ?_
  have h2 : Whole i (.fin s c (q + k)) := h1
  show Whole i (.fin s c (q - n + ((k + n : Nat) : Int)))
  rw [show q - (n : Int) + ((k + n : Nat) : Int) = q + k by omega]
  exact h2
/-- the quotient of two whole numbers, as a rounded ratio -/
theorem div_ratio {i j : Int} {a b : UInt64} (ha : DInt i a) (hb : DInt j b) (hi : 0 ≤ i) (hj : 0 < j) : ∃ s, val64 (ddiv a b) = roundRatio b64 s i.natAbs j.natAbs 0 ∧ (0 < i → s = false) := by
  have ha' : Whole i (val64 a) := ha
  have hb' : Whole j (val64 b) := hb
  obtain ⟨s, c, q, e1⟩ := whole_shape ha'
  obtain ⟨t, d, r, e2⟩ := whole_shape hb'
  rw [val64_ddiv]
  rw [e1] at ha' ⊢
  rw [e2] at hb' ⊢
  have hd : d ≠ 0 := fun h => by have := (whole_zero hb').mp h; omega
  have ht : t = false := by rw [whole_sign hb' (by omega)]; exact decide_eq_false (by omega)
  have h1 := whole_natAbs ha'
  have h2 := whole_natAbs hb'
  refine ⟨s, ?_, fun h => by rw [whole_sign ha' (by omega)]; exact decide_eq_false (by omega)⟩
  subst ht
  show (if d = 0 then _ else roundRatio b64 (s != false) c d (q - r)) = _
  rw [if_neg hd, show (s != false) = s by cases s <;> rfl]
  refine roundRatio_congr (by omega) (by omega) ?_
  have hx : (q - r - 0).toNat + (-q).toNat + r.toNat = (0 - (q - r)).toNat + q.toNat + (-r).toNat := by omega
  generalize (q - r - 0).toNat = u at hx ⊢
  generalize (0 - (q - r)).toNat = v at hx ⊢
  generalize q.toNat = a1 at hx h1
  generalize (-q).toNat = a2 at hx h1
  generalize r.toNat = b1 at hx h2
  generalize (-r).toNat = b2 at hx h2
  generalize i.natAbs = I at h1 ⊢
  generalize j.natAbs = J at h2 ⊢
  refine Nat.eq_of_mul_eq_mul_right (Nat.two_pow_pos (a1 + b2)) ?_
  calc c * J * 2 ^ u * 2 ^ (a1 + b2) = (c * 2 ^ a1) * (J * 2 ^ b2) * 2 ^ u := by rw [Nat.pow_add]; ac_rfl
    _ = (I * 2 ^ a2) * (d * 2 ^ b1) * 2 ^ u := by rw [h1, ← h2]
    _ = I * d * 2 ^ (u + a2 + b1) := by simp only [Nat.pow_add]; ac_rfl
    _ = I * d * 2 ^ (v + a1 + b2) := by rw [hx]
    _ = I * d * 2 ^ v * 2 ^ (a1 + b2) := by simp only [Nat.pow_add]; ac_rfl
theorem units0 (A : Nat) : inUnits A 0 b64.qmin = A * one64 := by
  show A * 2 ^ (0 - b64.qmin).toNat = A * 2 ^ 1074
  have h1 : (0 - b64.qmin).toNat = 1074 := by decide
  rw [h1]
theorem ratio_le {s : Bool} {A B : Nat} (hB : 0 < B) {V : UInt64} (hV : DFin V) (h : A * one64 ≤ zmag b64 (val64 V) * B) : zmag b64 (roundRatio b64 s A B 0) ≤ zmag b64 (val64 V) := by
  refine zmag_roundRatio_le good_b64 hB (val64_fits V) hV.ne_nan (Int.le_refl _) (by rw [qmin_b64]; decide) ?_
  rw [units0, Int.sub_self]
  show A * one64 ≤ zmag b64 (val64 V) * 1 * B
  rw [Nat.mul_one]; exact h
theorem ratio_ge {s : Bool} {A B : Nat} (hB : 0 < B) {V : UInt64} (h : zmag b64 (val64 V) * B ≤ A * one64) : zmag b64 (val64 V) ≤ zmag b64 (roundRatio b64 s A B 0) := by
  refine zmag_roundRatio_ge good_b64 hB (val64_fits V) (Int.le_refl _) (by rw [qmin_b64]; decide) ?_
  rw [units0, Int.sub_self]
  show zmag b64 (val64 V) * 1 * B ≤ A * one64
  rw [Nat.mul_one]; exact h
/-- 1, the number next below it, and 2^-53, in units -/
theorem z_one : zmag b64 (val64 4607182418800017408) = 2 ^ 53 * 2 ^ 1021 := by decide +kernel
theorem z_pred : zmag b64 (val64 4607182418800017407) = (2 ^ 53 - 1) * 2 ^ 1021 := by decide +kernel
theorem z_tiny : zmag b64 (val64 4368491638549381120) = 2 ^ 1021 := by decide +kernel
theorem f_one : DFin 4607182418800017408 := (fin_bits _).mpr (by decide +kernel)
theorem f_pred : DFin 4607182418800017407 := (fin_bits _).mpr (by decide +kernel)
theorem one_split : one64 = 2 ^ 53 * 2 ^ 1021 := by
  show 2 ^ 1074 = _
  rw [← Nat.pow_add]
theorem zv_one : zval b64 (val64 4607182418800017408) = ((2 ^ 53 * 2 ^ 1021 : Nat) : Int) := by decide +kernel
theorem ratio_one {s : Bool} {A B : Nat} (hB : 0 < B) (h : A ≤ B) : zmag b64 (roundRatio b64 s A B 0) ≤ 2 ^ 53 * 2 ^ 1021 := by
  rw [← z_one]
  refine ratio_le hB f_one ?_
  rw [z_one, ← one_split, Nat.mul_comm]
  exact Nat.mul_le_mul_left _ h
theorem ratio_eq {s : Bool} {B : Nat} (hB : 0 < B) : zmag b64 (roundRatio b64 s B B 0) = 2 ^ 53 * 2 ^ 1021 := by
  refine Nat.le_antisymm (ratio_one hB (Nat.le_refl _)) ?_
  rw [← z_one]
  refine ratio_ge hB ?_
  rw [z_one, ← one_split, Nat.mul_comm]
  exact Nat.le_refl _
theorem ratio_lt {s : Bool} {A B : Nat} (h : A < B) (hB : B ≤ 2 ^ 53) : zmag b64 (roundRatio b64 s A B 0) < 2 ^ 53 * 2 ^ 1021 := by
  have h1 : zmag b64 (roundRatio b64 s A B 0) ≤ zmag b64 (val64 4607182418800017407) := by
    refine ratio_le (by omega) f_pred ?_
    rw [z_pred, one_split]
    have h2 : A * 2 ^ 53 ≤ (2 ^ 53 - 1) * B := by omega
    calc A * (2 ^ 53 * 2 ^ 1021) = A * 2 ^ 53 * 2 ^ 1021 := by rw [Nat.mul_assoc]
      _ ≤ (2 ^ 53 - 1) * B * 2 ^ 1021 := Nat.mul_le_mul_right _ h2
      _ = (2 ^ 53 - 1) * 2 ^ 1021 * B := Nat.mul_right_comm _ _ _
  rw [z_pred] at h1
  refine Nat.lt_of_le_of_lt h1 ?_
  exact Nat.mul_lt_mul_of_pos_right (by decide) (Nat.two_pow_pos _)
theorem ratio_pos {s : Bool} {A B : Nat} (hA : 0 < A) (hB : 0 < B) (h : B ≤ 2 ^ 53) : 0 < zmag b64 (roundRatio b64 s A B 0) := by
  have h1 : zmag b64 (val64 4368491638549381120) ≤ zmag b64 (roundRatio b64 s A B 0) := by
    refine ratio_ge hB ?_
    rw [z_tiny, one_split]
    have h2 : B ≤ A * 2 ^ 53 := Nat.le_trans h (Nat.le_mul_of_pos_left _ hA)
    calc 2 ^ 1021 * B = B * 2 ^ 1021 := Nat.mul_comm _ _
      _ ≤ A * 2 ^ 53 * 2 ^ 1021 := Nat.mul_le_mul_right _ h2
      _ = A * (2 ^ 53 * 2 ^ 1021) := by rw [Nat.mul_assoc]
  rw [z_tiny] at h1
  exact Nat.lt_of_lt_of_le (Nat.two_pow_pos _) h1
theorem ratio_zero {s : Bool} {B : Nat} : zmag b64 (roundRatio b64 s 0 B 0) = 0 := by
  have e1 : roundRatio b64 s 0 B 0 = .fin s 0 b64.qmin := if_pos rfl
  rw [e1]
  show 0 * _ = 0
  exact Nat.zero_mul _
theorem ratio_ne_nan {s : Bool} {A B : Nat} {e : Int} : roundRatio b64 s A B e ≠ .nan := roundRatio_ne_nan _ _ _ _ _
theorem zv0 : zval b64 (val64 0) = 0 := zval64_zero
theorem nn0 : val64 0 ≠ .nan := by rw [val64_zero]; exact Datum.noConfusion
theorem nn1 : val64 4607182418800017408 ≠ .nan := f_one.ne_nan
/-- a quotient of two whole numbers i ≤ j stands to 1 and to 0 as i stands to j and to 0 -/
theorem div_cmp {i j : Int} {a b : UInt64} (ha : DInt i a) (hb : DInt j b) (hi : 0 ≤ i) (hij : i ≤ j) (hj : 0 < j) (hJ : j ≤ 2 ^ 53) :
    dcmp (ddiv a b) 4607182418800017408 = some (if i = j then .eq else .lt) ∧ dcmp (ddiv a b) 0 = some (if i = 0 then .eq else .gt) ∧ dcmp 0 (ddiv a b) = some (if i = 0 then .eq else .lt) := by
  obtain ⟨s, hv, hs⟩ := div_ratio ha hb hi hj
  have nn : val64 (ddiv a b) ≠ .nan := by rw [hv]; exact ratio_ne_nan
  have hB : 0 < j.natAbs := by omega
  have hz : zval b64 (val64 (ddiv a b)) = ((zmag b64 (roundRatio b64 s i.natAbs j.natAbs 0) : Nat) : Int) := by
    rw [hv]
    show signed (sgn (roundRatio b64 s i.natAbs j.natAbs 0)) _ = _
    rw [sgn_roundRatio]
    by_cases h0 : 0 < i
    · rw [hs h0]; rfl
    · rw [show i.natAbs = 0 by omega, ratio_zero]; exact signed_zero s
  have hlt : ¬ i = j → zmag b64 (roundRatio b64 s i.natAbs j.natAbs 0) < 2 ^ 53 * 2 ^ 1021 := fun h => ratio_lt (by omega) (by omega)
  have heq : i = j → zmag b64 (roundRatio b64 s i.natAbs j.natAbs 0) = 2 ^ 53 * 2 ^ 1021 := fun h => by rw [h]; exact ratio_eq hB
  have hp : ¬ i = 0 → 0 < zmag b64 (roundRatio b64 s i.natAbs j.natAbs 0) := fun h => ratio_pos (by omega) hB (by omega)
  have hzero : i = 0 → zmag b64 (roundRatio b64 s i.natAbs j.natAbs 0) = 0 := fun h => by rw [show i.natAbs = 0 by omega]; exact ratio_zero
  generalize zmag b64 (roundRatio b64 s i.natAbs j.natAbs 0) = w at *
  have z1 := zv_one
  generalize 2 ^ 53 * 2 ^ 1021 = o1 at *
  refine ⟨?_, ?_, ?_⟩
  · by_cases h : i = j
    · rw [if_pos h]; exact dcmp_eq.mpr ⟨nn, nn1, by rw [hz, z1, heq h]⟩
    · rw [if_neg h]; exact dcmp_lt.mpr ⟨nn, nn1, by rw [hz, z1]; have := hlt h; omega⟩
  · by_cases h : i = 0
    · rw [if_pos h]; exact dcmp_eq.mpr ⟨nn, nn0, by rw [hz, zv0, hzero h]; rfl⟩
    · rw [if_neg h]; exact dcmp_gt.mpr ⟨nn, nn0, by rw [hz, zv0]; have := hp h; omega⟩
  · by_cases h : i = 0
    · rw [if_pos h]; exact dcmp_eq.mpr ⟨nn0, nn, by rw [hz, zv0, hzero h]; rfl⟩
    · rw [if_neg h]; exact dcmp_lt.mpr ⟨nn0, nn, by rw [hz, zv0]; have := hp h; omega⟩
/-- two quotients of one ratio compare as equal -/
theorem div_same {i j i' j' : Int} {a b a' b' : UInt64} (ha : DInt i a) (hb : DInt j b) (ha' : DInt i' a') (hb' : DInt j' b') (hi : 0 ≤ i) (hj : 0 < j) (hi' : 0 ≤ i') (hj' : 0 < j') (h : i * j' = i' * j) :
    dcmp (ddiv a b) (ddiv a' b') = some .eq := by
  obtain ⟨s, hv, hs⟩ := div_ratio ha hb hi hj
  obtain ⟨s', hv', hs'⟩ := div_ratio ha' hb' hi' hj'
  have nn : val64 (ddiv a b) ≠ .nan := by rw [hv]; exact ratio_ne_nan
  have nn' : val64 (ddiv a' b') ≠ .nan := by rw [hv']; exact ratio_ne_nan
  refine dcmp_eq.mpr ⟨nn, nn', ?_⟩
  rw [hv, hv']
  by_cases h0 : i = 0
  · have h1 : i' = 0 := by
      rw [h0, Int.zero_mul] at h
      rcases Int.mul_eq_zero.mp h.symm with h | h
      · exact h
      · omega
    rw [h0, h1]
    have e1 : ∀ (t : Bool) (B : Nat), zval b64 (roundRatio b64 t 0 B 0) = 0 := fun t B => by
      show signed _ (zmag b64 (roundRatio b64 t 0 B 0)) = 0
      rw [ratio_zero]; exact signed_zero _
    exact (e1 _ _).trans (e1 _ _).symm
  · have h1 : 0 < i' := by
      rcases Int.lt_or_eq_of_le hi' with h2 | h2
      · exact h2
      · exfalso
        rw [← h2, Int.zero_mul] at h
        rcases Int.mul_eq_zero.mp h with h | h <;> omega
    rw [hs (by omega), hs' h1]
    congr 1
    refine roundRatio_congr (by omega) (by omega) ?_
    have := congrArg Int.natAbs h
    rw [Int.natAbs_mul, Int.natAbs_mul] at this
    rw [this]
/-- a quotient that is whole -/
theorem div_int {i j k : Int} {a b : UInt64} (ha : DInt i a) (hb : DInt j b) (hi : 0 < i) (hj : 0 < j) (h : i = k * j) (hk : k.natAbs ≤ 2 ^ 53) : DInt k (ddiv a b) := by
  obtain ⟨s, hv, hs⟩ := div_ratio ha hb (by omega) hj
  obtain rfl := hs hi
  have hk0 : 0 < k := by
    refine Int.not_le.mp fun hn => ?_
    have := Int.mul_nonneg (show 0 ≤ -k by omega) (Int.le_of_lt hj)
    rw [Int.neg_mul] at this
    omega
  obtain ⟨c, q, hfit, hq⟩ := natFit good_b64 wide_b64 false (n := k.natAbs) (show _ ≤ 2 ^ 53 from hk)
  show Whole k (val64 (ddiv a b))
  rw [hv]
  have hn : i.natAbs = k.natAbs * j.natAbs := by rw [h, Int.natAbs_mul]
  have e1 : roundRatio b64 false i.natAbs j.natAbs 0 = .fin false c q := roundRatio_exact good_b64 (by omega) hfit (by
    rw [hn, Nat.mul_right_comm, hq]; rw [Nat.mul_one]; ac_rfl)
  have e2 : round b64 (.fin false k.natAbs 0) = .fin false c q := roundRatio_exact good_b64 (by decide) hfit hq
  have hW : Whole k (.fin false k.natAbs 0) := by
    have := whole_ofInt k
    have e3 : ofInt k = .fin false k.natAbs 0 := by
      show Datum.fin (decide (k < 0)) k.natAbs 0 = _
      rw [decide_eq_false (by omega)]
    rw [e3] at this; exact this
  have := whole_round good_b64 wide_b64 (show _ ≤ 2 ^ 53 from hk) hW
  rw [e2] at this
  rw [e1]; exact this
/-- no NaN, as the steps ask it -/
theorem num_of {x : UInt64} (h : DFin x) : x &&& 0x7fffffffffffffff ≤ 0x7ff0000000000000 := by
  have h1 := (fin_bits x).mp h
  rw [UInt64.le_iff_toNat_le, mask_toNat]
  show x.toNat % 2 ^ 63 ≤ 9218868437227405312
  omega
theorem num_nan {x : UInt64} (h : dIsNaN x = false) : x &&& 0x7fffffffffffffff ≤ 0x7ff0000000000000 := by
  have h1 := (ne_nan x).mp ((notNaN_iff x).mp h)
  rw [UInt64.le_iff_toNat_le, mask_toNat]
  show x.toNat % 2 ^ 63 ≤ 9218868437227405312
  exact h1
theorem cv_eq {x y : UInt64} {op : ClassFile.CmpOp} (h : dcmp x y = some .eq) : Jvm.Op.cmpValue (Jvm.FP.dcmp x y) op = 0 := by
  show Jvm.Op.cmpValue (dcmp x y) op = 0
  rw [h]; rfl
theorem cv_lt {x y : UInt64} {op : ClassFile.CmpOp} (h : dcmp x y = some .lt) : Jvm.Op.cmpValue (Jvm.FP.dcmp x y) op = -1 := by
  show Jvm.Op.cmpValue (dcmp x y) op = -1
  rw [h]; rfl
theorem cv_gt {x y : UInt64} {op : ClassFile.CmpOp} (h : dcmp x y = some .gt) : Jvm.Op.cmpValue (Jvm.FP.dcmp x y) op = 1 := by
  show Jvm.Op.cmpValue (dcmp x y) op = 1
  rw [h]; rfl
end Jvm.Own
namespace Jvm.Pilot.@@N@@
open Jvm Jvm.ClassFile Sem Op Lib Jvm.Free Jvm.Stand Jvm.LawKit Jvm.RoadKit Bundle Jvm.Pilot.@@N@@.Jvm.D

theorem own_lc_gt {x y : Int64} (h : y < x) : (0 : Int32) < lcmpW x y := by
  show (0 : Int32) < if x > y then 1 else if x = y then 0 else -1
  rw [if_pos h]; decide
theorem own_lc_ngt {x y : Int64} (h : ¬ y < x) : ¬ ((0 : Int32) < lcmpW x y) := by
  show ¬ ((0 : Int32) < if x > y then 1 else if x = y then 0 else -1)
  rw [if_neg h]
  by_cases q : x = y
  · rw [if_pos q]; decide
  · rw [if_neg q]; decide
theorem own_lc_eq {x y : Int64} (h : x = y) : lcmpW x y = (0 : Int32) := by
  subst h
  show (if x > x then (1 : Int32) else if x = x then 0 else -1) = 0
  rw [if_neg (by rw [gt_iff_lt, Int64.lt_iff_toInt_lt]; omega), if_pos rfl]
def own_shift (x : Int64) : Int64 := if (20000000 : Int64) < x then x - 20000000 else 0
theorem own_shift_a {x : Int64} (h : (20000000 : Int64) < x) : own_shift x = x - 20000000 := if_pos h
theorem own_shift_b {x : Int64} (h : ¬ (20000000 : Int64) < x) : own_shift x = 0 := if_neg h
theorem own_back (x t : Int64) : (x + t) - x = t := by rw [Int64.add_comm, Int64.add_sub_cancel]
theorem own_e9 : FP.Core.DInt 1000000000 4741671816366391296 := by
  have h : FP.Core.val64 4741671816366391296 = .fin false 8388608000000000 (-23) := by decide +kernel
  show FP.Core.Whole 1000000000 (FP.Core.val64 4741671816366391296)
  rw [h]
  show FP.Core.signed false (8388608000000000 * 2 ^ (-23 : Int).toNat) = 1000000000 * ((2 ^ (-(-23 : Int)).toNat : Nat) : Int)
  decide +kernel
theorem own_i64 (n : Int64) (h : n.toInt.natAbs ≤ 2 ^ 53) : FP.Core.DInt n.toInt (FP.l2d n) := FP.Core.l2d_int h
/-- the whole schedule: n = 10^9 / r, exactly -/
theorem own_npr {r n : Int64} (h : r.toInt * n.toInt = 1000000000) (hr : 0 < r.toInt) : OwnNum (FP.ddiv (4741671816366391296 : UInt64) (FP.l2d r)) ∧ FP.Core.DInt n.toInt (FP.ddiv (4741671816366391296 : UInt64) (FP.l2d r)) ∧ 0 < n.toInt ∧ n.toInt ≤ 1000000000 := by
  have hn : 0 < n.toInt := by
    refine Int.not_le.mp fun q => ?_
    have := Int.mul_nonneg (Int.le_of_lt hr) (show 0 ≤ -n.toInt by omega)
    rw [Int.mul_neg] at this; omega
  have hn2 : n.toInt ≤ 1000000000 := by
    rw [← h]
    have := Int.mul_le_mul_of_nonneg_right (show 1 ≤ r.toInt by omega) (Int.le_of_lt hn)
    rw [Int.one_mul] at this; exact this
  have hr2 : r.toInt ≤ 1000000000 := by
    rw [← h]
    have := Int.mul_le_mul_of_nonneg_left (show 1 ≤ n.toInt by omega) (Int.le_of_lt hr)
    rw [Int.mul_one] at this; exact this
  have D := Own.div_int own_e9 (own_i64 r (by omega)) (by decide) hr (k := n.toInt) (by rw [Int.mul_comm]; exact h.symm) (by omega)
  exact ⟨Own.num_of (Own.Dy.of D).fin, D, hn, hn2⟩
theorem own_turn {n : Int64} {x : UInt64} (t : Int64) (D : FP.Core.DInt n.toInt x) (h0 : 0 < n.toInt) (h1 : n.toInt ≤ 1000000000) (ht : 0 ≤ t.toInt ∧ t.toInt ≤ 3) : OwnNum (FP.dmul (FP.l2d t) x) ∧ FP.d2l (FP.dmul (FP.l2d t) x) = t * n := by
  have hb : 0 ≤ t.toInt * n.toInt ∧ t.toInt * n.toInt ≤ 3000000000 := by
    generalize t.toInt = tv at *
    have : tv = 0 ∨ tv = 1 ∨ tv = 2 ∨ tv = 3 := by omega
    rcases this with rfl | rfl | rfl | rfl <;> omega
  have D2 := FP.Core.dmul_int (own_i64 t (by omega)) D (by omega)
  have e : (t * n).toInt = t.toInt * n.toInt := Kit.i64_mul (by omega) (by omega)
  rw [← e] at D2
  exact ⟨Own.num_of (Own.Dy.of D2).fin, FP.Core.d2l_int D2⟩
theorem pn1 : plainName "com/example/ballast/ballast/Pacer" = true := by first | (simp [plainName, overriddenIn]; done) | decide +kernel
theorem d1_0 : decode prog_11_method_1_code 0 = .ok (.aload_n 0, 1) := by decide +kernel
theorem d1_1 : decode prog_11_method_1_code 1 = .ok (.invokespecial 1, 3) := by decide +kernel
theorem d1_4 : decode prog_11_method_1_code 4 = .ok (.aload_n 0, 1) := by decide +kernel
theorem d1_5 : decode prog_11_method_1_code 5 = .ok (.lload_n 1, 1) := by decide +kernel
theorem d1_6 : decode prog_11_method_1_code 6 = .ok (.putfield 7, 3) := by decide +kernel
theorem d1_9 : decode prog_11_method_1_code 9 = .ok (.aload_n 0, 1) := by decide +kernel
theorem d1_10 : decode prog_11_method_1_code 10 = .ok (.ldc2_w 13, 3) := by decide +kernel
theorem d1_13 : decode prog_11_method_1_code 13 = .ok (.lload_n 1, 1) := by decide +kernel
theorem d1_14 : decode prog_11_method_1_code 14 = .ok (.l2d, 1) := by decide +kernel
theorem d1_15 : decode prog_11_method_1_code 15 = .ok (.ddiv, 1) := by decide +kernel
theorem d1_16 : decode prog_11_method_1_code 16 = .ok (.putfield 15, 3) := by decide +kernel
theorem d1_19 : decode prog_11_method_1_code 19 = .ok (.aload_n 0, 1) := by decide +kernel
theorem d1_20 : decode prog_11_method_1_code 20 = .ok (.lload_n 3, 1) := by decide +kernel
theorem d1_21 : decode prog_11_method_1_code 21 = .ok (.putfield 19, 3) := by decide +kernel
theorem d1_24 : decode prog_11_method_1_code 24 = .ok (.aload_n 0, 1) := by decide +kernel
theorem d1_25 : decode prog_11_method_1_code 25 = .ok (.lload_n 3, 1) := by decide +kernel
theorem d1_26 : decode prog_11_method_1_code 26 = .ok (.putfield 22, 3) := by decide +kernel
theorem d1_29 : decode prog_11_method_1_code 29 = .ok (.return_, 1) := by decide +kernel
theorem ef_rm_init (m : MethodId) (x0 : Addr) (x1 : Int64) (x2 : Int64) : entryFrame m #[(.ref x0), (.long x1), (.long x2)] 5 = mkF m 0 #[.val (.ref x0), .val (.long x1), .second, .val (.long x2), .second] [] := by first | (simp [entryFrame, mkF, argsToLocals, Value.category]; done) | rfl
def Q_rm_init (Z : State) (a1 : Addr) (q1 : Int64) (q2 : Int64) (u_perSecond : Value) (u_nanosPerRecord : Value) (u_origin : Value) (u_windowStart : Value) (u_taken : Value) (u_windowTaken : Value) (h0 : Heap) (n0 : Nat) (v : Option Value) (h : Heap) (L : List Loc) : Prop := v = none ∧ Fr n0 L ∧ Keep h0 h [a1] ∧ Exa Z h a1 "com/example/ballast/ballast/Pacer" ∧ Fld Z h a1 "com/example/ballast/ballast/Pacer" "perSecond" "J" (.long q1) ∧ Fld Z h a1 "com/example/ballast/ballast/Pacer" "nanosPerRecord" "D" (.double (FP.ddiv (4741671816366391296 : UInt64) (FP.l2d q1))) ∧ Fld Z h a1 "com/example/ballast/ballast/Pacer" "origin" "J" (.long q2) ∧ Fld Z h a1 "com/example/ballast/ballast/Pacer" "windowStart" "J" (.long q2) ∧ Fld Z h a1 "com/example/ballast/ballast/Pacer" "taken" "J" u_taken ∧ Fld Z h a1 "com/example/ballast/ballast/Pacer" "windowTaken" "J" u_windowTaken
set_option maxRecDepth 65536 in
set_option maxHeartbeats 40000000 in
theorem rm_init (l : Launch) (Z : State) (a0 : Array Value) (hw : ∀ d ∈ tables_1, d.before a0 Z = true) (ws : List Jvm.Cond) (a1 : Addr) (q1 : Int64) (q2 : Int64) (u_perSecond : Value) (u_nanosPerRecord : Value) (u_origin : Value) (u_windowStart : Value) (u_taken : Value) (u_windowTaken : Value) (h0 : Heap) (n0 : Nat) (Z0 : n0 ≤ h0.size) (E_a1 : Exa Z h0 a1 "com/example/ballast/ballast/Pacer") (g_a1 : n0 ≤ a1) (F_perSecond_a1 : Fld Z h0 a1 "com/example/ballast/ballast/Pacer" "perSecond" "J" u_perSecond) (F_nanosPerRecord_a1 : Fld Z h0 a1 "com/example/ballast/ballast/Pacer" "nanosPerRecord" "D" u_nanosPerRecord) (F_origin_a1 : Fld Z h0 a1 "com/example/ballast/ballast/Pacer" "origin" "J" u_origin) (F_windowStart_a1 : Fld Z h0 a1 "com/example/ballast/ballast/Pacer" "windowStart" "J" u_windowStart) (F_taken_a1 : Fld Z h0 a1 "com/example/ballast/ballast/Pacer" "taken" "J" u_taken) (F_windowTaken_a1 : Fld Z h0 a1 "com/example/ballast/ballast/Pacer" "windowTaken" "J" u_windowTaken) (hN : OwnNum (FP.ddiv (4741671816366391296 : UInt64) (FP.l2d q1))) :
    MetFree l (⟨"com/example/ballast/ballast/Pacer", "<init>", "(JJ)V"⟩ : MethodName) (head1 (Jvm.Cond.code (⟨"com/example/ballast/ballast/Pacer", "<init>", "(JJ)V"⟩ : MethodName) prog_11_method_1_code 5 none :: ws) ({ frames := 1, cells := 0, slots := 0, locals := 12 } : Room)) (fun a U => a = #[(.ref a1), (.long q1), (.long q2)] ∧ Z.Warmed39 U.vm ∧ U.heap = h0) (fun _ _ _ _ _ => True) (fun _ U o U' => ∃ v L, o = .returned v ∧ Q_rm_init Z a1 q1 q2 u_perSecond u_nanosPerRecord u_origin u_windowStart u_taken u_windowTaken h0 n0 v U'.heap L ∧ FrameEnd U o U' L ({ frames := 1, cells := 0, slots := 0, locals := 12 } : Room).cells ({ frames := 1, cells := 0, slots := 0, locals := 12 } : Room).slots) := by
  refine MetFree.of_bodySF (plainFor_of_name pn1) hisR ?_
  intro p e s m args below meth c s₁ Bd hml0 hP hK
  obtain ⟨rfl, hZ, hh⟩ := hP
  have hx := Bd.exec
  have hby := Bd.bytes
  have hml : c.maxLocals = 5 := hml0
  have hown : s.vm.findClass "com/example/ballast/ballast/Pacer" = some m.cls := findClass_of_methodNamed Bd.named
  have hnm := (name_of_methodNamed Bd.named Bd.method).1
  have X0 : Stand p l e ({ frames := 1, cells := 0, slots := 0, locals := 12 } : Room) s m #[(.ref a1), (.long q1), (.long q2)] below meth c s₁ [] 0 0 := Stand.of_body Bd
  have e0 : s₁.heap = h0 := by rw [← hh, Bd.state]; rfl
  have N0 := Fr.nil n0
  refine Go.start (Q := Q_rm_init Z a1 q1 q2 u_perSecond u_nanosPerRecord u_origin u_windowStart u_taken u_windowTaken h0 n0) (ef_rm_init m a1 q1 q2) ?_
  have sg1 : ∀ t, Steps p.tables e below (s₁.setTop (mkF m 1 #[.val (.ref a1), .val (.long q1), .second, .val (.long q2), .second] [(.ref a1)])) t → Steps p.tables e below (s₁.setTop (mkF m 0 #[.val (.ref a1), .val (.long q1), .second, .val (.long q2), .second] [])) t := by
    intro t kt
    show Steps p.tables e below (s₁.setTop (mkF m 0 #[.val (.ref a1), .val (.long q1), .second, .val (.long q2), .second] [])) _
    refine XS.aloadN X0.here hx rfl (hb hby d1_0) rfl rfl ?_
    exact kt
  refine Go.adv sg1 ?_
  obtain ⟨T2, X2, e2, st2⟩ := initO X0 hx hZ hown (hw _ (List.mem_of_getElem? (i := 26) rfl)) (hw _ (List.mem_of_getElem? (i := 27) rfl)) (hw _ (List.mem_of_getElem? (i := 28) rfl)) e0 (g := (mkF m 1 #[.val (.ref a1), .val (.long q1), .second, .val (.long q2), .second] [(.ref a1)])) rfl (by rw [hml]; rfl) rfl (hb hby d1_1) (by decide) (W := 0) (by show 2 * 0 + _ ≤ _; exact Nat.le_of_eq rfl) (by decide)
  refine Go.adv st2 ?_
  show Go p.tables e below s _ _ _ (T2.setTop (mkF m 4 #[.val (.ref a1), .val (.long q1), .second, .val (.long q2), .second] []))
  have sg3 : ∀ t, Steps p.tables e below (T2.setTop (mkF m 6 #[.val (.ref a1), .val (.long q1), .second, .val (.long q2), .second] [(.long q1), (.ref a1)])) t → Steps p.tables e below (T2.setTop (mkF m 4 #[.val (.ref a1), .val (.long q1), .second, .val (.long q2), .second] [])) t := by
    intro t kt
    show Steps p.tables e below (T2.setTop (mkF m 4 #[.val (.ref a1), .val (.long q1), .second, .val (.long q2), .second] [])) _
    refine XS.aloadN X2.here hx rfl (hb hby d1_4) rfl rfl ?_
    show Steps p.tables e below (T2.setTop (mkF m 5 #[.val (.ref a1), .val (.long q1), .second, .val (.long q2), .second] [(.ref a1)])) _
    refine XS.lloadN X2.here hx rfl (hb hby d1_5) rfl ?_
    exact kt
  refine Go.adv sg3 ?_
  obtain ⟨T4, h4, X4, e4, W4, st4⟩ := putF X2 hx hZ hown (host := "") (Or.inl (hw _ (List.mem_of_getElem? (i := 29) rfl))) Via.refl e2 F_perSecond_a1 E_a1 (Or.inr ⟨(hw _ (List.mem_of_getElem? (i := 30) rfl)), rfl, hnm⟩) (hw _ (List.mem_of_getElem? (i := 21) rfl)) (ty := .long) (by decide) rfl rfl (g := (mkF m 6 #[.val (.ref a1), .val (.long q1), .second, .val (.long q2), .second] [(.long q1), (.ref a1)])) rfl rfl (hb hby d1_6)
  have Fw4 := F_perSecond_a1.same W4
  have K4 : Keep h0 h4 [a1] := (Keep.refl h0 [a1]).wr W4 (Or.inl (List.mem_of_getElem? (i := 0) rfl))
  have Z4 : n0 ≤ h4.size := Nat.le_trans Z0 (Keep.of_wr W4).1
  have N4 := Fr.snoc X4 N0 g_a1
  refine Go.adv st4 ?_
  show Go p.tables e below s _ _ _ (T4.setTop (mkF m 9 #[.val (.ref a1), .val (.long q1), .second, .val (.long q2), .second] []))
  have sg5 : ∀ t, Steps p.tables e below (T4.setTop (mkF m 16 #[.val (.ref a1), .val (.long q1), .second, .val (.long q2), .second] [(.double (FP.ddiv (4741671816366391296 : UInt64) (FP.l2d q1))), (.ref a1)])) t → Steps p.tables e below (T4.setTop (mkF m 9 #[.val (.ref a1), .val (.long q1), .second, .val (.long q2), .second] [])) t := by
    intro t kt
    show Steps p.tables e below (T4.setTop (mkF m 9 #[.val (.ref a1), .val (.long q1), .second, .val (.long q2), .second] [])) _
    refine XS.aloadN X4.here hx rfl (hb hby d1_9) rfl rfl ?_
    show Steps p.tables e below (T4.setTop (mkF m 10 #[.val (.ref a1), .val (.long q1), .second, .val (.long q2), .second] [(.ref a1)])) _
    refine X4.ldc2DoubleC hx hown (mvT hZ (hw _ (List.mem_of_getElem? (i := 31) rfl))) (g := (mkF m 10 #[.val (.ref a1), .val (.long q1), .second, .val (.long q2), .second] [(.ref a1)])) rfl (hb hby d1_10) _ ?_
    show Steps p.tables e below (T4.setTop (mkF m 13 #[.val (.ref a1), .val (.long q1), .second, .val (.long q2), .second] [(.double (4741671816366391296 : UInt64)), (.ref a1)])) _
    refine XS.lloadN X4.here hx rfl (hb hby d1_13) rfl ?_
    show Steps p.tables e below (T4.setTop (mkF m 14 #[.val (.ref a1), .val (.long q1), .second, .val (.long q2), .second] [(.long q1), (.double (4741671816366391296 : UInt64)), (.ref a1)])) _
    refine own_l2d X4.here hx rfl (hb hby d1_14) rfl ?_
    show Steps p.tables e below (T4.setTop (mkF m 15 #[.val (.ref a1), .val (.long q1), .second, .val (.long q2), .second] [(.double (FP.l2d q1)), (.double (4741671816366391296 : UInt64)), (.ref a1)])) _
    refine own_ddiv X4.here hx rfl (hb hby d1_15) rfl hN ?_
    exact kt
  refine Go.adv sg5 ?_
  have f6 := (F_nanosPerRecord_a1.other W4 (Or.inr (slot_ne (Or.inr (hw _ (List.mem_of_getElem? (i := 33) rfl))) (Or.inr (hw _ (List.mem_of_getElem? (i := 30) rfl))) (by decide) (t := .double) (t' := .long) (by decide) (by decide))))
  have f7 := (E_a1.wr W4)
  obtain ⟨T8, h8, X8, e8, W8, st8⟩ := putF X4 hx hZ hown (host := "") (Or.inl (hw _ (List.mem_of_getElem? (i := 32) rfl))) Via.refl e4 f6 f7 (Or.inr ⟨(hw _ (List.mem_of_getElem? (i := 33) rfl)), rfl, hnm⟩) (hw _ (List.mem_of_getElem? (i := 21) rfl)) (ty := .double) (by decide) rfl rfl (g := (mkF m 16 #[.val (.ref a1), .val (.long q1), .second, .val (.long q2), .second] [(.double (FP.ddiv (4741671816366391296 : UInt64) (FP.l2d q1))), (.ref a1)])) rfl rfl (hb hby d1_16)
  have Fw8 := f6.same W8
  have K8 : Keep h0 h8 [a1] := K4.wr W8 (Or.inl (List.mem_of_getElem? (i := 0) rfl))
  have Z8 : n0 ≤ h8.size := Nat.le_trans Z4 (Keep.of_wr W8).1
  have N8 := Fr.snoc X8 N4 g_a1
  refine Go.adv st8 ?_
  show Go p.tables e below s _ _ _ (T8.setTop (mkF m 19 #[.val (.ref a1), .val (.long q1), .second, .val (.long q2), .second] []))
  have sg9 : ∀ t, Steps p.tables e below (T8.setTop (mkF m 21 #[.val (.ref a1), .val (.long q1), .second, .val (.long q2), .second] [(.long q2), (.ref a1)])) t → Steps p.tables e below (T8.setTop (mkF m 19 #[.val (.ref a1), .val (.long q1), .second, .val (.long q2), .second] [])) t := by
    intro t kt
    show Steps p.tables e below (T8.setTop (mkF m 19 #[.val (.ref a1), .val (.long q1), .second, .val (.long q2), .second] [])) _
    refine XS.aloadN X8.here hx rfl (hb hby d1_19) rfl rfl ?_
    show Steps p.tables e below (T8.setTop (mkF m 20 #[.val (.ref a1), .val (.long q1), .second, .val (.long q2), .second] [(.ref a1)])) _
    refine XS.lloadN X8.here hx rfl (hb hby d1_20) rfl ?_
    exact kt
  refine Go.adv sg9 ?_
  have f10 := ((F_origin_a1.other W4 (Or.inr (slot_ne (Or.inl (hw _ (List.mem_of_getElem? (i := 35) rfl))) (Or.inr (hw _ (List.mem_of_getElem? (i := 30) rfl))) (by decide) (t := .long) (t' := .long) (by decide) (by decide)))).other W8 (Or.inr (slot_ne (Or.inl (hw _ (List.mem_of_getElem? (i := 35) rfl))) (Or.inr (hw _ (List.mem_of_getElem? (i := 33) rfl))) (by decide) (t := .long) (t' := .double) (by decide) (by decide))))
  have f11 := (f7.wr W8)
  obtain ⟨T12, h12, X12, e12, W12, st12⟩ := putF X8 hx hZ hown (host := "") (Or.inl (hw _ (List.mem_of_getElem? (i := 34) rfl))) Via.refl e8 f10 f11 (Or.inl (hw _ (List.mem_of_getElem? (i := 35) rfl))) (hw _ (List.mem_of_getElem? (i := 21) rfl)) (ty := .long) (by decide) rfl rfl (g := (mkF m 21 #[.val (.ref a1), .val (.long q1), .second, .val (.long q2), .second] [(.long q2), (.ref a1)])) rfl rfl (hb hby d1_21)
  have Fw12 := f10.same W12
  have K12 : Keep h0 h12 [a1] := K8.wr W12 (Or.inl (List.mem_of_getElem? (i := 0) rfl))
  have Z12 : n0 ≤ h12.size := Nat.le_trans Z8 (Keep.of_wr W12).1
  have N12 := Fr.snoc X12 N8 g_a1
  refine Go.adv st12 ?_
  show Go p.tables e below s _ _ _ (T12.setTop (mkF m 24 #[.val (.ref a1), .val (.long q1), .second, .val (.long q2), .second] []))
  have sg13 : ∀ t, Steps p.tables e below (T12.setTop (mkF m 26 #[.val (.ref a1), .val (.long q1), .second, .val (.long q2), .second] [(.long q2), (.ref a1)])) t → Steps p.tables e below (T12.setTop (mkF m 24 #[.val (.ref a1), .val (.long q1), .second, .val (.long q2), .second] [])) t := by
    intro t kt
    show Steps p.tables e below (T12.setTop (mkF m 24 #[.val (.ref a1), .val (.long q1), .second, .val (.long q2), .second] [])) _
    refine XS.aloadN X12.here hx rfl (hb hby d1_24) rfl rfl ?_
    show Steps p.tables e below (T12.setTop (mkF m 25 #[.val (.ref a1), .val (.long q1), .second, .val (.long q2), .second] [(.ref a1)])) _
    refine XS.lloadN X12.here hx rfl (hb hby d1_25) rfl ?_
    exact kt
  refine Go.adv sg13 ?_
  have f14 := (((F_windowStart_a1.other W4 (Or.inr (slot_ne (Or.inl (hw _ (List.mem_of_getElem? (i := 37) rfl))) (Or.inr (hw _ (List.mem_of_getElem? (i := 30) rfl))) (by decide) (t := .long) (t' := .long) (by decide) (by decide)))).other W8 (Or.inr (slot_ne (Or.inl (hw _ (List.mem_of_getElem? (i := 37) rfl))) (Or.inr (hw _ (List.mem_of_getElem? (i := 33) rfl))) (by decide) (t := .long) (t' := .double) (by decide) (by decide)))).other W12 (Or.inr (slot_ne (Or.inl (hw _ (List.mem_of_getElem? (i := 37) rfl))) (Or.inl (hw _ (List.mem_of_getElem? (i := 35) rfl))) (by decide) (t := .long) (t' := .long) (by decide) (by decide))))
  have f15 := (f11.wr W12)
  obtain ⟨T16, h16, X16, e16, W16, st16⟩ := putF X12 hx hZ hown (host := "") (Or.inl (hw _ (List.mem_of_getElem? (i := 36) rfl))) Via.refl e12 f14 f15 (Or.inl (hw _ (List.mem_of_getElem? (i := 37) rfl))) (hw _ (List.mem_of_getElem? (i := 21) rfl)) (ty := .long) (by decide) rfl rfl (g := (mkF m 26 #[.val (.ref a1), .val (.long q1), .second, .val (.long q2), .second] [(.long q2), (.ref a1)])) rfl rfl (hb hby d1_26)
  have Fw16 := f14.same W16
  have K16 : Keep h0 h16 [a1] := K12.wr W16 (Or.inl (List.mem_of_getElem? (i := 0) rfl))
  have Z16 : n0 ≤ h16.size := Nat.le_trans Z12 (Keep.of_wr W16).1
  have N16 := Fr.snoc X16 N12 g_a1
  refine Go.adv st16 ?_
  show Go p.tables e below s _ _ _ (T16.setTop (mkF m 29 #[.val (.ref a1), .val (.long q1), .second, .val (.long q2), .second] []))
  refine Go.ret (v := none) X16 (fun _ => rfl) Bd.notSynchronized (fun fs hr => X16.returnOut hx Bd.returns (hb hby d1_29) hr) ?_ (by decide) (by decide)
  show Q_rm_init Z a1 q1 q2 u_perSecond u_nanosPerRecord u_origin u_windowStart u_taken u_windowTaken h0 n0 none T16.heap _
  rw [e16]
  have f17 := (f15.wr W16)
  have f18 := (((Fw4.other W8 (Or.inr (slot_ne (Or.inr (hw _ (List.mem_of_getElem? (i := 30) rfl))) (Or.inr (hw _ (List.mem_of_getElem? (i := 33) rfl))) (by decide) (t := .long) (t' := .double) (by decide) (by decide)))).other W12 (Or.inr (slot_ne (Or.inr (hw _ (List.mem_of_getElem? (i := 30) rfl))) (Or.inl (hw _ (List.mem_of_getElem? (i := 35) rfl))) (by decide) (t := .long) (t' := .long) (by decide) (by decide)))).other W16 (Or.inr (slot_ne (Or.inr (hw _ (List.mem_of_getElem? (i := 30) rfl))) (Or.inl (hw _ (List.mem_of_getElem? (i := 37) rfl))) (by decide) (t := .long) (t' := .long) (by decide) (by decide))))
  have f19 := ((Fw8.other W12 (Or.inr (slot_ne (Or.inr (hw _ (List.mem_of_getElem? (i := 33) rfl))) (Or.inl (hw _ (List.mem_of_getElem? (i := 35) rfl))) (by decide) (t := .double) (t' := .long) (by decide) (by decide)))).other W16 (Or.inr (slot_ne (Or.inr (hw _ (List.mem_of_getElem? (i := 33) rfl))) (Or.inl (hw _ (List.mem_of_getElem? (i := 37) rfl))) (by decide) (t := .double) (t' := .long) (by decide) (by decide))))
  have f20 := (Fw12.other W16 (Or.inr (slot_ne (Or.inl (hw _ (List.mem_of_getElem? (i := 35) rfl))) (Or.inl (hw _ (List.mem_of_getElem? (i := 37) rfl))) (by decide) (t := .long) (t' := .long) (by decide) (by decide))))
  have f21 := ((((F_taken_a1.other W4 (Or.inr (slot_ne (Or.inl (hw _ (List.mem_of_getElem? (i := 49) rfl))) (Or.inr (hw _ (List.mem_of_getElem? (i := 30) rfl))) (by decide) (t := .long) (t' := .long) (by decide) (by decide)))).other W8 (Or.inr (slot_ne (Or.inl (hw _ (List.mem_of_getElem? (i := 49) rfl))) (Or.inr (hw _ (List.mem_of_getElem? (i := 33) rfl))) (by decide) (t := .long) (t' := .double) (by decide) (by decide)))).other W12 (Or.inr (slot_ne (Or.inl (hw _ (List.mem_of_getElem? (i := 49) rfl))) (Or.inl (hw _ (List.mem_of_getElem? (i := 35) rfl))) (by decide) (t := .long) (t' := .long) (by decide) (by decide)))).other W16 (Or.inr (slot_ne (Or.inl (hw _ (List.mem_of_getElem? (i := 49) rfl))) (Or.inl (hw _ (List.mem_of_getElem? (i := 37) rfl))) (by decide) (t := .long) (t' := .long) (by decide) (by decide))))
  have f22 := ((((F_windowTaken_a1.other W4 (Or.inr (slot_ne (Or.inl (hw _ (List.mem_of_getElem? (i := 52) rfl))) (Or.inr (hw _ (List.mem_of_getElem? (i := 30) rfl))) (by decide) (t := .long) (t' := .long) (by decide) (by decide)))).other W8 (Or.inr (slot_ne (Or.inl (hw _ (List.mem_of_getElem? (i := 52) rfl))) (Or.inr (hw _ (List.mem_of_getElem? (i := 33) rfl))) (by decide) (t := .long) (t' := .double) (by decide) (by decide)))).other W12 (Or.inr (slot_ne (Or.inl (hw _ (List.mem_of_getElem? (i := 52) rfl))) (Or.inl (hw _ (List.mem_of_getElem? (i := 35) rfl))) (by decide) (t := .long) (t' := .long) (by decide) (by decide)))).other W16 (Or.inr (slot_ne (Or.inl (hw _ (List.mem_of_getElem? (i := 52) rfl))) (Or.inl (hw _ (List.mem_of_getElem? (i := 37) rfl))) (by decide) (t := .long) (t' := .long) (by decide) (by decide))))
  exact ⟨rfl, N16, K16, f17, f18, f19, f20, Fw16, f21, f22⟩
theorem pn4 : plainName "com/example/ballast/ballast/Pacer" = true := by first | (simp [plainName, overriddenIn]; done) | decide +kernel
theorem d4_0 : decode prog_11_method_2_code 0 = .ok (.aload_n 0, 1) := by decide +kernel
theorem d4_1 : decode prog_11_method_2_code 1 = .ok (.getfield 19, 3) := by decide +kernel
theorem d4_4 : decode prog_11_method_2_code 4 = .ok (.aload_n 0, 1) := by decide +kernel
theorem d4_5 : decode prog_11_method_2_code 5 = .ok (.getfield 25, 3) := by decide +kernel
theorem d4_8 : decode prog_11_method_2_code 8 = .ok (.l2d, 1) := by decide +kernel
theorem d4_9 : decode prog_11_method_2_code 9 = .ok (.aload_n 0, 1) := by decide +kernel
theorem d4_10 : decode prog_11_method_2_code 10 = .ok (.getfield 15, 3) := by decide +kernel
theorem d4_13 : decode prog_11_method_2_code 13 = .ok (.dmul, 1) := by decide +kernel
theorem d4_14 : decode prog_11_method_2_code 14 = .ok (.d2l, 1) := by decide +kernel
theorem d4_15 : decode prog_11_method_2_code 15 = .ok (.ladd, 1) := by decide +kernel
theorem d4_16 : decode prog_11_method_2_code 16 = .ok (.lreturn, 1) := by decide +kernel
theorem ef_rm_due (m : MethodId) (x0 : Addr) : entryFrame m #[(.ref x0)] 1 = mkF m 0 #[.val (.ref x0)] [] := by first | (simp [entryFrame, mkF, argsToLocals, Value.category]; done) | rfl
def Q_rm_due (Z : State) (a1 : Addr) (org : Int64) (tk : Int64) (npr : UInt64) (dd : Int64) (h0 : Heap) (n0 : Nat) (v : Option Value) (h : Heap) (L : List Loc) : Prop := v = some (.long (org + dd)) ∧ Fr n0 L ∧ h = h0
set_option maxRecDepth 65536 in
set_option maxHeartbeats 40000000 in
theorem rm_due (l : Launch) (Z : State) (a0 : Array Value) (hw : ∀ d ∈ tables_1, d.before a0 Z = true) (ws : List Jvm.Cond) (a1 : Addr) (org : Int64) (tk : Int64) (npr : UInt64) (dd : Int64) (h0 : Heap) (n0 : Nat) (Z0 : n0 ≤ h0.size) (F_origin_a1 : Fld Z h0 a1 "com/example/ballast/ballast/Pacer" "origin" "J" (.long org)) (F_taken_a1 : Fld Z h0 a1 "com/example/ballast/ballast/Pacer" "taken" "J" (.long tk)) (F_nanosPerRecord_a1 : Fld Z h0 a1 "com/example/ballast/ballast/Pacer" "nanosPerRecord" "D" (.double npr)) (hN : OwnNum (FP.dmul (FP.l2d tk) npr)) (hD : FP.d2l (FP.dmul (FP.l2d tk) npr) = dd) :
    MetFree l (⟨"com/example/ballast/ballast/Pacer", "due", "()J"⟩ : MethodName) (head1 (Jvm.Cond.code (⟨"com/example/ballast/ballast/Pacer", "due", "()J"⟩ : MethodName) prog_11_method_2_code 1 (some .long) :: ws) ({ frames := 0, cells := 0, slots := 0, locals := 0 } : Room)) (fun a U => a = #[(.ref a1)] ∧ Z.Warmed39 U.vm ∧ U.heap = h0) (fun _ _ _ _ _ => True) (fun _ U o U' => ∃ v L, o = .returned v ∧ Q_rm_due Z a1 org tk npr dd h0 n0 v U'.heap L ∧ FrameEnd U o U' L ({ frames := 0, cells := 0, slots := 0, locals := 0 } : Room).cells ({ frames := 0, cells := 0, slots := 0, locals := 0 } : Room).slots) := by
  refine MetFree.of_bodySF (plainFor_of_name pn4) hisR ?_
  intro p e s m args below meth c s₁ Bd hml0 hP hK
  obtain ⟨rfl, hZ, hh⟩ := hP
  have hx := Bd.exec
  have hby := Bd.bytes
  have hml : c.maxLocals = 1 := hml0
  have hown : s.vm.findClass "com/example/ballast/ballast/Pacer" = some m.cls := findClass_of_methodNamed Bd.named
  have hnm := (name_of_methodNamed Bd.named Bd.method).1
  have X0 : Stand p l e ({ frames := 0, cells := 0, slots := 0, locals := 0 } : Room) s m #[(.ref a1)] below meth c s₁ [] 0 0 := Stand.of_body Bd
  have e0 : s₁.heap = h0 := by rw [← hh, Bd.state]; rfl
  have N0 := Fr.nil n0
  refine Go.start (Q := Q_rm_due Z a1 org tk npr dd h0 n0) (ef_rm_due m a1) ?_
  have sg1 : ∀ t, Steps p.tables e below (s₁.setTop (mkF m 1 #[.val (.ref a1)] [(.ref a1)])) t → Steps p.tables e below (s₁.setTop (mkF m 0 #[.val (.ref a1)] [])) t := by
    intro t kt
    show Steps p.tables e below (s₁.setTop (mkF m 0 #[.val (.ref a1)] [])) _
    refine XS.aloadN X0.here hx rfl (hb hby d4_0) rfl rfl ?_
    exact kt
  refine Go.adv sg1 ?_
  obtain ⟨T2, X2, e2, st2⟩ := getF X0 hx hZ hown (host := "") (Or.inl (hw _ (List.mem_of_getElem? (i := 34) rfl))) Via.refl e0 F_origin_a1 (g := (mkF m 1 #[.val (.ref a1)] [(.ref a1)])) rfl rfl (hb hby d4_1)
  refine Go.adv st2 ?_
  show Go p.tables e below s _ _ _ (T2.setTop (mkF m 4 #[.val (.ref a1)] [(.long org)]))
  have sg3 : ∀ t, Steps p.tables e below (T2.setTop (mkF m 5 #[.val (.ref a1)] [(.ref a1), (.long org)])) t → Steps p.tables e below (T2.setTop (mkF m 4 #[.val (.ref a1)] [(.long org)])) t := by
    intro t kt
    show Steps p.tables e below (T2.setTop (mkF m 4 #[.val (.ref a1)] [(.long org)])) _
    refine XS.aloadN X2.here hx rfl (hb hby d4_4) rfl rfl ?_
    exact kt
  refine Go.adv sg3 ?_
  obtain ⟨T4, X4, e4, st4⟩ := getF X2 hx hZ hown (host := "") (Or.inl (hw _ (List.mem_of_getElem? (i := 48) rfl))) Via.refl e2 F_taken_a1 (g := (mkF m 5 #[.val (.ref a1)] [(.ref a1), (.long org)])) rfl rfl (hb hby d4_5)
  refine Go.adv st4 ?_
  show Go p.tables e below s _ _ _ (T4.setTop (mkF m 8 #[.val (.ref a1)] [(.long tk), (.long org)]))
  have sg5 : ∀ t, Steps p.tables e below (T4.setTop (mkF m 10 #[.val (.ref a1)] [(.ref a1), (.double (FP.l2d tk)), (.long org)])) t → Steps p.tables e below (T4.setTop (mkF m 8 #[.val (.ref a1)] [(.long tk), (.long org)])) t := by
    intro t kt
    show Steps p.tables e below (T4.setTop (mkF m 8 #[.val (.ref a1)] [(.long tk), (.long org)])) _
    refine own_l2d X4.here hx rfl (hb hby d4_8) rfl ?_
    show Steps p.tables e below (T4.setTop (mkF m 9 #[.val (.ref a1)] [(.double (FP.l2d tk)), (.long org)])) _
    refine XS.aloadN X4.here hx rfl (hb hby d4_9) rfl rfl ?_
    exact kt
  refine Go.adv sg5 ?_
  obtain ⟨T6, X6, e6, st6⟩ := getF X4 hx hZ hown (host := "") (Or.inl (hw _ (List.mem_of_getElem? (i := 32) rfl))) Via.refl e4 F_nanosPerRecord_a1 (g := (mkF m 10 #[.val (.ref a1)] [(.ref a1), (.double (FP.l2d tk)), (.long org)])) rfl rfl (hb hby d4_10)
  refine Go.adv st6 ?_
  show Go p.tables e below s _ _ _ (T6.setTop (mkF m 13 #[.val (.ref a1)] [(.double npr), (.double (FP.l2d tk)), (.long org)]))
  have sg7 : ∀ t, Steps p.tables e below (T6.setTop (mkF m 16 #[.val (.ref a1)] [(.long (org + (FP.d2l (FP.dmul (FP.l2d tk) npr))))])) t → Steps p.tables e below (T6.setTop (mkF m 13 #[.val (.ref a1)] [(.double npr), (.double (FP.l2d tk)), (.long org)])) t := by
    intro t kt
    show Steps p.tables e below (T6.setTop (mkF m 13 #[.val (.ref a1)] [(.double npr), (.double (FP.l2d tk)), (.long org)])) _
    refine own_dmul X6.here hx rfl (hb hby d4_13) rfl hN ?_
    show Steps p.tables e below (T6.setTop (mkF m 14 #[.val (.ref a1)] [(.double (FP.dmul (FP.l2d tk) npr)), (.long org)])) _
    refine own_d2l X6.here hx rfl (hb hby d4_14) rfl ?_
    show Steps p.tables e below (T6.setTop (mkF m 15 #[.val (.ref a1)] [(.long (FP.d2l (FP.dmul (FP.l2d tk) npr))), (.long org)])) _
    refine XS.ladd X6.here hx rfl (hb hby d4_15) rfl ?_
    exact kt
  refine Go.adv sg7 ?_
  refine Go.ret (v := (some (.long (org + (FP.d2l (FP.dmul (FP.l2d tk) npr)))))) X6 (fun h => by rw [Bd.returns] at h; cases h) Bd.notSynchronized (fun fs hr => retOut X6 hx Bd.returns rfl (Or.inr (Or.inl ⟨rfl, rfl, _, rfl⟩)) (hb hby d4_16) hr) ?_ (by decide) (by decide)
  show Q_rm_due Z a1 org tk npr dd h0 n0 (some (.long (org + (FP.d2l (FP.dmul (FP.l2d tk) npr))))) T6.heap _
  rw [e6]
  exact ⟨congrArg (fun z => some (Value.long (org + z))) hD, N0, rfl⟩
theorem pn3 : plainName "com/example/ballast/ballast/Pacer" = true := by first | (simp [plainName, overriddenIn]; done) | decide +kernel
theorem d3_0 : decode prog_11_method_3_code 0 = .ok (.lload_n 1, 1) := by decide +kernel
theorem d3_1 : decode prog_11_method_3_code 1 = .ok (.aload_n 0, 1) := by decide +kernel
theorem d3_2 : decode prog_11_method_3_code 2 = .ok (.invokevirtual 28, 3) := by decide +kernel
theorem pd_ocJ : parseMethodDescriptor "()J" = some ⟨[], some .long⟩ := by decide +kernel
theorem d3_5 : decode prog_11_method_3_code 5 = .ok (.lsub, 1) := by decide +kernel
theorem d3_6 : decode prog_11_method_3_code 6 = .ok (.lstore_n 3, 1) := by decide +kernel
theorem d3_7 : decode prog_11_method_3_code 7 = .ok (.lload_n 3, 1) := by decide +kernel
theorem d3_8 : decode prog_11_method_3_code 8 = .ok (.ldc2_w 32, 3) := by decide +kernel
theorem d3_11 : decode prog_11_method_3_code 11 = .ok (.lcmp, 1) := by decide +kernel
theorem d3_12 : decode prog_11_method_3_code 12 = .ok (.ifCond .le 17, 3) := by decide +kernel
theorem d3_15 : decode prog_11_method_3_code 15 = .ok (.aload_n 0, 1) := by decide +kernel
theorem d3_16 : decode prog_11_method_3_code 16 = .ok (.dup, 1) := by decide +kernel
theorem d3_17 : decode prog_11_method_3_code 17 = .ok (.getfield 19, 3) := by decide +kernel
theorem d3_20 : decode prog_11_method_3_code 20 = .ok (.lload_n 3, 1) := by decide +kernel
theorem d3_21 : decode prog_11_method_3_code 21 = .ok (.ldc2_w 32, 3) := by decide +kernel
theorem d3_24 : decode prog_11_method_3_code 24 = .ok (.lsub, 1) := by decide +kernel
theorem d3_25 : decode prog_11_method_3_code 25 = .ok (.ladd, 1) := by decide +kernel
theorem d3_26 : decode prog_11_method_3_code 26 = .ok (.putfield 19, 3) := by decide +kernel
theorem d3_29 : decode prog_11_method_3_code 29 = .ok (.aload_n 0, 1) := by decide +kernel
theorem d3_30 : decode prog_11_method_3_code 30 = .ok (.dup, 1) := by decide +kernel
theorem d3_31 : decode prog_11_method_3_code 31 = .ok (.getfield 25, 3) := by decide +kernel
theorem d3_34 : decode prog_11_method_3_code 34 = .ok (.lconst 1, 1) := by decide +kernel
theorem d3_35 : decode prog_11_method_3_code 35 = .ok (.ladd, 1) := by decide +kernel
theorem d3_36 : decode prog_11_method_3_code 36 = .ok (.putfield 25, 3) := by decide +kernel
theorem d3_39 : decode prog_11_method_3_code 39 = .ok (.aload_n 0, 1) := by decide +kernel
theorem d3_40 : decode prog_11_method_3_code 40 = .ok (.dup, 1) := by decide +kernel
theorem d3_41 : decode prog_11_method_3_code 41 = .ok (.getfield 34, 3) := by decide +kernel
theorem d3_44 : decode prog_11_method_3_code 44 = .ok (.lconst 1, 1) := by decide +kernel
theorem d3_45 : decode prog_11_method_3_code 45 = .ok (.ladd, 1) := by decide +kernel
theorem d3_46 : decode prog_11_method_3_code 46 = .ok (.putfield 34, 3) := by decide +kernel
theorem d3_49 : decode prog_11_method_3_code 49 = .ok (.return_, 1) := by decide +kernel
theorem ef_rm_take (m : MethodId) (x0 : Addr) (x1 : Int64) : entryFrame m #[(.ref x0), (.long x1)] 5 = mkF m 0 #[.val (.ref x0), .val (.long x1), .second, .unset, .unset] [] := by first | (simp [entryFrame, mkF, argsToLocals, Value.category]; done) | rfl
def Q_rm_take (Z : State) (a1 : Addr) (q1 : Int64) (org : Int64) (tk : Int64) (wt : Int64) (npr : UInt64) (dd : Int64) (lg : Int64) (h0 : Heap) (n0 : Nat) (v : Option Value) (h : Heap) (L : List Loc) : Prop := v = none ∧ Fr n0 L ∧ Keep h0 h [a1] ∧ Exa Z h a1 "com/example/ballast/ballast/Pacer" ∧ Fld Z h a1 "com/example/ballast/ballast/Pacer" "origin" "J" (.long (org + (own_shift lg))) ∧ Fld Z h a1 "com/example/ballast/ballast/Pacer" "taken" "J" (.long (tk + (1 : Int64))) ∧ Fld Z h a1 "com/example/ballast/ballast/Pacer" "windowTaken" "J" (.long (wt + (1 : Int64))) ∧ Fld Z h a1 "com/example/ballast/ballast/Pacer" "nanosPerRecord" "D" (.double npr)
set_option maxRecDepth 65536 in
set_option maxHeartbeats 40000000 in
theorem rm_take (l : Launch) (Z : State) (a0 : Array Value) (hw : ∀ d ∈ tables_1, d.before a0 Z = true) (ws : List Jvm.Cond) (a1 : Addr) (q1 : Int64) (org : Int64) (tk : Int64) (wt : Int64) (npr : UInt64) (dd : Int64) (lg : Int64) (h0 : Heap) (n0 : Nat) (Z0 : n0 ≤ h0.size) (E_a1 : Exa Z h0 a1 "com/example/ballast/ballast/Pacer") (g_a1 : n0 ≤ a1) (F_origin_a1 : Fld Z h0 a1 "com/example/ballast/ballast/Pacer" "origin" "J" (.long org)) (F_taken_a1 : Fld Z h0 a1 "com/example/ballast/ballast/Pacer" "taken" "J" (.long tk)) (F_windowTaken_a1 : Fld Z h0 a1 "com/example/ballast/ballast/Pacer" "windowTaken" "J" (.long wt)) (F_nanosPerRecord_a1 : Fld Z h0 a1 "com/example/ballast/ballast/Pacer" "nanosPerRecord" "D" (.double npr)) (hN : OwnNum (FP.dmul (FP.l2d tk) npr)) (hD : FP.d2l (FP.dmul (FP.l2d tk) npr) = dd) (hL : (q1 - (org + dd)) = lg) :
    MetFree l (⟨"com/example/ballast/ballast/Pacer", "take", "(J)V"⟩ : MethodName) (head1 (Jvm.Cond.code (⟨"com/example/ballast/ballast/Pacer", "take", "(J)V"⟩ : MethodName) prog_11_method_3_code 5 none :: ws) ({ frames := 1, cells := 0, slots := 0, locals := 14 } : Room)) (fun a U => a = #[(.ref a1), (.long q1)] ∧ Z.Warmed39 U.vm ∧ U.heap = h0) (fun _ _ _ _ _ => True) (fun _ U o U' => ∃ v L, o = .returned v ∧ Q_rm_take Z a1 q1 org tk wt npr dd lg h0 n0 v U'.heap L ∧ FrameEnd U o U' L ({ frames := 1, cells := 0, slots := 0, locals := 14 } : Room).cells ({ frames := 1, cells := 0, slots := 0, locals := 14 } : Room).slots) := by
  refine MetFree.of_bodySF (plainFor_of_name pn3) hisR ?_
  intro p e s m args below meth c s₁ Bd hml0 hP hK
  obtain ⟨rfl, hZ, hh⟩ := hP
  have hx := Bd.exec
  have hby := Bd.bytes
  have hml : c.maxLocals = 5 := hml0
  have hown : s.vm.findClass "com/example/ballast/ballast/Pacer" = some m.cls := findClass_of_methodNamed Bd.named
  have hnm := (name_of_methodNamed Bd.named Bd.method).1
  have X0 : Stand p l e ({ frames := 1, cells := 0, slots := 0, locals := 14 } : Room) s m #[(.ref a1), (.long q1)] below meth c s₁ [] 0 0 := Stand.of_body Bd
  have e0 : s₁.heap = h0 := by rw [← hh, Bd.state]; rfl
  have N0 := Fr.nil n0
  refine Go.start (Q := Q_rm_take Z a1 q1 org tk wt npr dd lg h0 n0) (ef_rm_take m a1 q1) ?_
  have sg1 : ∀ t, Steps p.tables e below (s₁.setTop (mkF m 2 #[.val (.ref a1), .val (.long q1), .second, .unset, .unset] [(.ref a1), (.long q1)])) t → Steps p.tables e below (s₁.setTop (mkF m 0 #[.val (.ref a1), .val (.long q1), .second, .unset, .unset] [])) t := by
    intro t kt
    show Steps p.tables e below (s₁.setTop (mkF m 0 #[.val (.ref a1), .val (.long q1), .second, .unset, .unset] [])) _
    refine XS.lloadN X0.here hx rfl (hb hby d3_0) rfl ?_
    show Steps p.tables e below (s₁.setTop (mkF m 1 #[.val (.ref a1), .val (.long q1), .second, .unset, .unset] [(.long q1)])) _
    refine XS.aloadN X0.here hx rfl (hb hby d3_1) rfl rfl ?_
    exact kt
  refine Go.adv sg1 ?_
  obtain ⟨cq2, kq2, q2a, q2b, q2c⟩ := isOf hZ e0 E_a1
  obtain ⟨_, _, ⟨T2, L2, k2, n2⟩, -, X2, ⟨Lc2, hQ2, l2, y2, z2⟩, st2⟩ := X0.virtualBack hx (y := (⟨"com/example/ballast/ballast/Pacer", "due", "()J"⟩ : MethodName)) (z := (⟨"com/example/ballast/ballast/Pacer", "due", "()J"⟩ : MethodName)) hown (mvT hZ (hw _ (List.mem_of_getElem? (i := 43) rfl))) (mvT hZ (hw _ (List.mem_of_getElem? (i := 44) rfl))) (notFace_of_selects (args := #[]) (mvT hZ (hw _ (List.mem_of_getElem? (i := 46) rfl)))) (mvT hZ (hw _ (List.mem_of_getElem? (i := 46) rfl))) (mvT hZ (hw _ (List.mem_of_getElem? (i := 45) rfl))) (by decide) (backOf (W := 2) (rm_due l Z a0 hw [] a1 org tk npr dd h0 n0 Z0 F_origin_a1 F_taken_a1 F_nanosPerRecord_a1 hN hD) hZ (hw _ (List.mem_of_getElem? (i := 47) rfl)) (hw _ (List.mem_of_getElem? (i := 22) rfl)) (by decide) (by decide)) q2a q2c (g := (mkF m 2 #[.val (.ref a1), .val (.long q1), .second, .unset, .unset] [(.ref a1), (.long q1)])) rfl (by rw [hml]; rfl) (Steps.refl _) (argsL := []) (rest := [(.long q1)]) (lenOf pd_ocJ rfl) rfl (by show 2 * 0 + _ ≤ _; exact Nat.le_of_eq rfl) (hb hby d3_2) (fun _ _ => ⟨rfl, e0, (by decide : 0 + 0 ≤ _), (by decide : 0 + 0 ≤ _)⟩)
  dsimp only [Pt.U, Pt.locs, Pt.cells, Pt.slots] at X2 l2 y2 z2 st2 hQ2
  subst l2 y2 z2
  obtain ⟨rfl, N2q, e2⟩ := hQ2
  have N2 := Fr.app N0 N2q
  refine Go.tr st2 ?_
  show Go p.tables e below s _ _ _ (T2.setTop (mkF m 5 #[.val (.ref a1), .val (.long q1), .second, .unset, .unset] [(.long (org + dd)), (.long q1)]))
  have sg3 : ∀ t, Steps p.tables e below (T2.setTop (mkF m 6 #[.val (.ref a1), .val (.long q1), .second, .unset, .unset] [(.long (q1 - (org + dd)))])) t → Steps p.tables e below (T2.setTop (mkF m 5 #[.val (.ref a1), .val (.long q1), .second, .unset, .unset] [(.long (org + dd)), (.long q1)])) t := by
    intro t kt
    show Steps p.tables e below (T2.setTop (mkF m 5 #[.val (.ref a1), .val (.long q1), .second, .unset, .unset] [(.long (org + dd)), (.long q1)])) _
    refine XS.lsub X2.here hx rfl (hb hby d3_5) rfl ?_
    exact kt
  refine Go.adv sg3 ?_
  rw [hL]
  show Go p.tables e below s _ _ _ (T2.setTop (mkF m 6 #[.val (.ref a1), .val (.long q1), .second, .unset, .unset] [(.long lg)]))
  by_cases hc : (20000000 : Int64) < lg
  · have sg4 : ∀ t, Steps p.tables e below (T2.setTop (mkF m 17 #[.val (.ref a1), .val (.long q1), .second, .val (.long lg), .second] [(.ref a1), (.ref a1)])) t → Steps p.tables e below (T2.setTop (mkF m 6 #[.val (.ref a1), .val (.long q1), .second, .unset, .unset] [(.long lg)])) t := by
      intro t kt
      show Steps p.tables e below (T2.setTop (mkF m 6 #[.val (.ref a1), .val (.long q1), .second, .unset, .unset] [(.long lg)])) _
      refine XS.lstoreN X2.here hx rfl (hb hby d3_6) rfl (l' := #[.val (.ref a1), .val (.long q1), .second, .val (.long lg), .second]) rfl ?_
      show Steps p.tables e below (T2.setTop (mkF m 7 #[.val (.ref a1), .val (.long q1), .second, .val (.long lg), .second] [])) _
      refine XS.lloadN X2.here hx rfl (hb hby d3_7) rfl ?_
      show Steps p.tables e below (T2.setTop (mkF m 8 #[.val (.ref a1), .val (.long q1), .second, .val (.long lg), .second] [(.long lg)])) _
      refine X2.ldc2Long hx hown (mvT hZ (hw _ (List.mem_of_getElem? (i := 50) rfl))) (g := (mkF m 8 #[.val (.ref a1), .val (.long q1), .second, .val (.long lg), .second] [(.long lg)])) rfl (hb hby d3_8) _ ?_
      show Steps p.tables e below (T2.setTop (mkF m 11 #[.val (.ref a1), .val (.long q1), .second, .val (.long lg), .second] [(.long (20000000 : Int64)), (.long lg)])) _
      refine XS.lcmp X2.here hx rfl (hb hby d3_11) rfl ?_
      show Steps p.tables e below (T2.setTop (mkF m 12 #[.val (.ref a1), .val (.long q1), .second, .val (.long lg), .second] [(.int (lcmpW lg (20000000 : Int64)))])) _
      refine XS.ifNo X2.here hx rfl (hb hby d3_12) rfl ((if0 _ _).trans (tlt (own_lc_gt hc : (0 : Int32) < (lcmpW lg (20000000 : Int64)))).2.2.2) ?_
      show Steps p.tables e below (T2.setTop (mkF m 15 #[.val (.ref a1), .val (.long q1), .second, .val (.long lg), .second] [])) _
      refine XS.aloadN X2.here hx rfl (hb hby d3_15) rfl rfl ?_
      show Steps p.tables e below (T2.setTop (mkF m 16 #[.val (.ref a1), .val (.long q1), .second, .val (.long lg), .second] [(.ref a1)])) _
      refine XS.dup X2.here hx rfl (hb hby d3_16) rfl rfl ?_
      exact kt
    refine Go.adv sg4 ?_
    obtain ⟨T5, X5, e5, st5⟩ := getF X2 hx hZ hown (host := "") (Or.inl (hw _ (List.mem_of_getElem? (i := 34) rfl))) Via.refl e2 F_origin_a1 (g := (mkF m 17 #[.val (.ref a1), .val (.long q1), .second, .val (.long lg), .second] [(.ref a1), (.ref a1)])) rfl rfl (hb hby d3_17)
    refine Go.adv st5 ?_
    show Go p.tables e below s _ _ _ (T5.setTop (mkF m 20 #[.val (.ref a1), .val (.long q1), .second, .val (.long lg), .second] [(.long org), (.ref a1)]))
    have sg6 : ∀ t, Steps p.tables e below (T5.setTop (mkF m 26 #[.val (.ref a1), .val (.long q1), .second, .val (.long lg), .second] [(.long (org + (lg - (20000000 : Int64)))), (.ref a1)])) t → Steps p.tables e below (T5.setTop (mkF m 20 #[.val (.ref a1), .val (.long q1), .second, .val (.long lg), .second] [(.long org), (.ref a1)])) t := by
      intro t kt
      show Steps p.tables e below (T5.setTop (mkF m 20 #[.val (.ref a1), .val (.long q1), .second, .val (.long lg), .second] [(.long org), (.ref a1)])) _
      refine XS.lloadN X5.here hx rfl (hb hby d3_20) rfl ?_
      show Steps p.tables e below (T5.setTop (mkF m 21 #[.val (.ref a1), .val (.long q1), .second, .val (.long lg), .second] [(.long lg), (.long org), (.ref a1)])) _
      refine X5.ldc2Long hx hown (mvT hZ (hw _ (List.mem_of_getElem? (i := 50) rfl))) (g := (mkF m 21 #[.val (.ref a1), .val (.long q1), .second, .val (.long lg), .second] [(.long lg), (.long org), (.ref a1)])) rfl (hb hby d3_21) _ ?_
      show Steps p.tables e below (T5.setTop (mkF m 24 #[.val (.ref a1), .val (.long q1), .second, .val (.long lg), .second] [(.long (20000000 : Int64)), (.long lg), (.long org), (.ref a1)])) _
      refine XS.lsub X5.here hx rfl (hb hby d3_24) rfl ?_
      show Steps p.tables e below (T5.setTop (mkF m 25 #[.val (.ref a1), .val (.long q1), .second, .val (.long lg), .second] [(.long (lg - (20000000 : Int64))), (.long org), (.ref a1)])) _
      refine XS.ladd X5.here hx rfl (hb hby d3_25) rfl ?_
      exact kt
    refine Go.adv sg6 ?_
    obtain ⟨T7, h7, X7, e7, W7, st7⟩ := putF X5 hx hZ hown (host := "") (Or.inl (hw _ (List.mem_of_getElem? (i := 34) rfl))) Via.refl e5 F_origin_a1 E_a1 (Or.inl (hw _ (List.mem_of_getElem? (i := 35) rfl))) (hw _ (List.mem_of_getElem? (i := 21) rfl)) (ty := .long) (by decide) rfl rfl (g := (mkF m 26 #[.val (.ref a1), .val (.long q1), .second, .val (.long lg), .second] [(.long (org + (lg - (20000000 : Int64)))), (.ref a1)])) rfl rfl (hb hby d3_26)
    have Fw7 := F_origin_a1.same W7
    have K7 : Keep h0 h7 [a1] := (Keep.refl h0 [a1]).wr W7 (Or.inl (List.mem_of_getElem? (i := 0) rfl))
    have Z7 : n0 ≤ h7.size := Nat.le_trans Z0 (Keep.of_wr W7).1
    have N7 := Fr.snoc X7 N2 g_a1
    refine Go.adv st7 ?_
    show Go p.tables e below s _ _ _ (T7.setTop (mkF m 29 #[.val (.ref a1), .val (.long q1), .second, .val (.long lg), .second] []))
    have sg8 : ∀ t, Steps p.tables e below (T7.setTop (mkF m 31 #[.val (.ref a1), .val (.long q1), .second, .val (.long lg), .second] [(.ref a1), (.ref a1)])) t → Steps p.tables e below (T7.setTop (mkF m 29 #[.val (.ref a1), .val (.long q1), .second, .val (.long lg), .second] [])) t := by
      intro t kt
      show Steps p.tables e below (T7.setTop (mkF m 29 #[.val (.ref a1), .val (.long q1), .second, .val (.long lg), .second] [])) _
      refine XS.aloadN X7.here hx rfl (hb hby d3_29) rfl rfl ?_
      show Steps p.tables e below (T7.setTop (mkF m 30 #[.val (.ref a1), .val (.long q1), .second, .val (.long lg), .second] [(.ref a1)])) _
      refine XS.dup X7.here hx rfl (hb hby d3_30) rfl rfl ?_
      exact kt
    refine Go.adv sg8 ?_
    have f9 := (F_taken_a1.other W7 (Or.inr (slot_ne (Or.inl (hw _ (List.mem_of_getElem? (i := 49) rfl))) (Or.inl (hw _ (List.mem_of_getElem? (i := 35) rfl))) (by decide) (t := .long) (t' := .long) (by decide) (by decide))))
    obtain ⟨T10, X10, e10, st10⟩ := getF X7 hx hZ hown (host := "") (Or.inl (hw _ (List.mem_of_getElem? (i := 48) rfl))) Via.refl e7 f9 (g := (mkF m 31 #[.val (.ref a1), .val (.long q1), .second, .val (.long lg), .second] [(.ref a1), (.ref a1)])) rfl rfl (hb hby d3_31)
    refine Go.adv st10 ?_
    show Go p.tables e below s _ _ _ (T10.setTop (mkF m 34 #[.val (.ref a1), .val (.long q1), .second, .val (.long lg), .second] [(.long tk), (.ref a1)]))
    have sg11 : ∀ t, Steps p.tables e below (T10.setTop (mkF m 36 #[.val (.ref a1), .val (.long q1), .second, .val (.long lg), .second] [(.long (tk + (1 : Int64))), (.ref a1)])) t → Steps p.tables e below (T10.setTop (mkF m 34 #[.val (.ref a1), .val (.long q1), .second, .val (.long lg), .second] [(.long tk), (.ref a1)])) t := by
      intro t kt
      show Steps p.tables e below (T10.setTop (mkF m 34 #[.val (.ref a1), .val (.long q1), .second, .val (.long lg), .second] [(.long tk), (.ref a1)])) _
      refine XS.lconst X10.here hx rfl (hb hby d3_34) ?_
      show Steps p.tables e below (T10.setTop (mkF m 35 #[.val (.ref a1), .val (.long q1), .second, .val (.long lg), .second] [(.long (1 : Int64)), (.long tk), (.ref a1)])) _
      refine XS.ladd X10.here hx rfl (hb hby d3_35) rfl ?_
      exact kt
    refine Go.adv sg11 ?_
    have f12 := (E_a1.wr W7)
    obtain ⟨T13, h13, X13, e13, W13, st13⟩ := putF X10 hx hZ hown (host := "") (Or.inl (hw _ (List.mem_of_getElem? (i := 48) rfl))) Via.refl e10 f9 f12 (Or.inl (hw _ (List.mem_of_getElem? (i := 49) rfl))) (hw _ (List.mem_of_getElem? (i := 21) rfl)) (ty := .long) (by decide) rfl rfl (g := (mkF m 36 #[.val (.ref a1), .val (.long q1), .second, .val (.long lg), .second] [(.long (tk + (1 : Int64))), (.ref a1)])) rfl rfl (hb hby d3_36)
    have Fw13 := f9.same W13
    have K13 : Keep h0 h13 [a1] := K7.wr W13 (Or.inl (List.mem_of_getElem? (i := 0) rfl))
    have Z13 : n0 ≤ h13.size := Nat.le_trans Z7 (Keep.of_wr W13).1
    have N13 := Fr.snoc X13 N7 g_a1
    refine Go.adv st13 ?_
    show Go p.tables e below s _ _ _ (T13.setTop (mkF m 39 #[.val (.ref a1), .val (.long q1), .second, .val (.long lg), .second] []))
    have sg14 : ∀ t, Steps p.tables e below (T13.setTop (mkF m 41 #[.val (.ref a1), .val (.long q1), .second, .val (.long lg), .second] [(.ref a1), (.ref a1)])) t → Steps p.tables e below (T13.setTop (mkF m 39 #[.val (.ref a1), .val (.long q1), .second, .val (.long lg), .second] [])) t := by
      intro t kt
      show Steps p.tables e below (T13.setTop (mkF m 39 #[.val (.ref a1), .val (.long q1), .second, .val (.long lg), .second] [])) _
      refine XS.aloadN X13.here hx rfl (hb hby d3_39) rfl rfl ?_
      show Steps p.tables e below (T13.setTop (mkF m 40 #[.val (.ref a1), .val (.long q1), .second, .val (.long lg), .second] [(.ref a1)])) _
      refine XS.dup X13.here hx rfl (hb hby d3_40) rfl rfl ?_
      exact kt
    refine Go.adv sg14 ?_
    have f15 := ((F_windowTaken_a1.other W7 (Or.inr (slot_ne (Or.inl (hw _ (List.mem_of_getElem? (i := 52) rfl))) (Or.inl (hw _ (List.mem_of_getElem? (i := 35) rfl))) (by decide) (t := .long) (t' := .long) (by decide) (by decide)))).other W13 (Or.inr (slot_ne (Or.inl (hw _ (List.mem_of_getElem? (i := 52) rfl))) (Or.inl (hw _ (List.mem_of_getElem? (i := 49) rfl))) (by decide) (t := .long) (t' := .long) (by decide) (by decide))))
    obtain ⟨T16, X16, e16, st16⟩ := getF X13 hx hZ hown (host := "") (Or.inl (hw _ (List.mem_of_getElem? (i := 51) rfl))) Via.refl e13 f15 (g := (mkF m 41 #[.val (.ref a1), .val (.long q1), .second, .val (.long lg), .second] [(.ref a1), (.ref a1)])) rfl rfl (hb hby d3_41)
    refine Go.adv st16 ?_
    show Go p.tables e below s _ _ _ (T16.setTop (mkF m 44 #[.val (.ref a1), .val (.long q1), .second, .val (.long lg), .second] [(.long wt), (.ref a1)]))
    have sg17 : ∀ t, Steps p.tables e below (T16.setTop (mkF m 46 #[.val (.ref a1), .val (.long q1), .second, .val (.long lg), .second] [(.long (wt + (1 : Int64))), (.ref a1)])) t → Steps p.tables e below (T16.setTop (mkF m 44 #[.val (.ref a1), .val (.long q1), .second, .val (.long lg), .second] [(.long wt), (.ref a1)])) t := by
      intro t kt
      show Steps p.tables e below (T16.setTop (mkF m 44 #[.val (.ref a1), .val (.long q1), .second, .val (.long lg), .second] [(.long wt), (.ref a1)])) _
      refine XS.lconst X16.here hx rfl (hb hby d3_44) ?_
      show Steps p.tables e below (T16.setTop (mkF m 45 #[.val (.ref a1), .val (.long q1), .second, .val (.long lg), .second] [(.long (1 : Int64)), (.long wt), (.ref a1)])) _
      refine XS.ladd X16.here hx rfl (hb hby d3_45) rfl ?_
      exact kt
    refine Go.adv sg17 ?_
    have f18 := (f12.wr W13)
    obtain ⟨T19, h19, X19, e19, W19, st19⟩ := putF X16 hx hZ hown (host := "") (Or.inl (hw _ (List.mem_of_getElem? (i := 51) rfl))) Via.refl e16 f15 f18 (Or.inl (hw _ (List.mem_of_getElem? (i := 52) rfl))) (hw _ (List.mem_of_getElem? (i := 21) rfl)) (ty := .long) (by decide) rfl rfl (g := (mkF m 46 #[.val (.ref a1), .val (.long q1), .second, .val (.long lg), .second] [(.long (wt + (1 : Int64))), (.ref a1)])) rfl rfl (hb hby d3_46)
    have Fw19 := f15.same W19
    have K19 : Keep h0 h19 [a1] := K13.wr W19 (Or.inl (List.mem_of_getElem? (i := 0) rfl))
    have Z19 : n0 ≤ h19.size := Nat.le_trans Z13 (Keep.of_wr W19).1
    have N19 := Fr.snoc X19 N13 g_a1
    refine Go.adv st19 ?_
    show Go p.tables e below s _ _ _ (T19.setTop (mkF m 49 #[.val (.ref a1), .val (.long q1), .second, .val (.long lg), .second] []))
    refine Go.ret (v := none) X19 (fun _ => rfl) Bd.notSynchronized (fun fs hr => X19.returnOut hx Bd.returns (hb hby d3_49) hr) ?_ (by decide) (by decide)
    show Q_rm_take Z a1 q1 org tk wt npr dd lg h0 n0 none T19.heap _
    rw [e19]
    have f20 := (f18.wr W19)
    have f21 := ((Fw7.other W13 (Or.inr (slot_ne (Or.inl (hw _ (List.mem_of_getElem? (i := 35) rfl))) (Or.inl (hw _ (List.mem_of_getElem? (i := 49) rfl))) (by decide) (t := .long) (t' := .long) (by decide) (by decide)))).other W19 (Or.inr (slot_ne (Or.inl (hw _ (List.mem_of_getElem? (i := 35) rfl))) (Or.inl (hw _ (List.mem_of_getElem? (i := 52) rfl))) (by decide) (t := .long) (t' := .long) (by decide) (by decide))))
    have f22 := (Fw13.other W19 (Or.inr (slot_ne (Or.inl (hw _ (List.mem_of_getElem? (i := 49) rfl))) (Or.inl (hw _ (List.mem_of_getElem? (i := 52) rfl))) (by decide) (t := .long) (t' := .long) (by decide) (by decide))))
    have f23 := (((F_nanosPerRecord_a1.other W7 (Or.inr (slot_ne (Or.inr (hw _ (List.mem_of_getElem? (i := 33) rfl))) (Or.inl (hw _ (List.mem_of_getElem? (i := 35) rfl))) (by decide) (t := .double) (t' := .long) (by decide) (by decide)))).other W13 (Or.inr (slot_ne (Or.inr (hw _ (List.mem_of_getElem? (i := 33) rfl))) (Or.inl (hw _ (List.mem_of_getElem? (i := 49) rfl))) (by decide) (t := .double) (t' := .long) (by decide) (by decide)))).other W19 (Or.inr (slot_ne (Or.inr (hw _ (List.mem_of_getElem? (i := 33) rfl))) (Or.inl (hw _ (List.mem_of_getElem? (i := 52) rfl))) (by decide) (t := .double) (t' := .long) (by decide) (by decide))))
    exact ⟨rfl, N19, K19, f20, (by rw [own_shift_a hc]; exact f21), f22, Fw19, f23⟩
  · have sg24 : ∀ t, Steps p.tables e below (T2.setTop (mkF m 31 #[.val (.ref a1), .val (.long q1), .second, .val (.long lg), .second] [(.ref a1), (.ref a1)])) t → Steps p.tables e below (T2.setTop (mkF m 6 #[.val (.ref a1), .val (.long q1), .second, .unset, .unset] [(.long lg)])) t := by
      intro t kt
      show Steps p.tables e below (T2.setTop (mkF m 6 #[.val (.ref a1), .val (.long q1), .second, .unset, .unset] [(.long lg)])) _
      refine XS.lstoreN X2.here hx rfl (hb hby d3_6) rfl (l' := #[.val (.ref a1), .val (.long q1), .second, .val (.long lg), .second]) rfl ?_
      show Steps p.tables e below (T2.setTop (mkF m 7 #[.val (.ref a1), .val (.long q1), .second, .val (.long lg), .second] [])) _
      refine XS.lloadN X2.here hx rfl (hb hby d3_7) rfl ?_
      show Steps p.tables e below (T2.setTop (mkF m 8 #[.val (.ref a1), .val (.long q1), .second, .val (.long lg), .second] [(.long lg)])) _
      refine X2.ldc2Long hx hown (mvT hZ (hw _ (List.mem_of_getElem? (i := 50) rfl))) (g := (mkF m 8 #[.val (.ref a1), .val (.long q1), .second, .val (.long lg), .second] [(.long lg)])) rfl (hb hby d3_8) _ ?_
      show Steps p.tables e below (T2.setTop (mkF m 11 #[.val (.ref a1), .val (.long q1), .second, .val (.long lg), .second] [(.long (20000000 : Int64)), (.long lg)])) _
      refine XS.lcmp X2.here hx rfl (hb hby d3_11) rfl ?_
      show Steps p.tables e below (T2.setTop (mkF m 12 #[.val (.ref a1), .val (.long q1), .second, .val (.long lg), .second] [(.int (lcmpW lg (20000000 : Int64)))])) _
      refine XS.ifYes X2.here hx rfl (pc0 := 12) (pc' := 29) rfl (hb hby d3_12) rfl ((if0 _ _).trans (flt (own_lc_ngt hc : ¬ ((0 : Int32) < (lcmpW lg (20000000 : Int64))))).2.2.2) (by decide) (by decide) ?_
      show Steps p.tables e below (T2.setTop (mkF m 29 #[.val (.ref a1), .val (.long q1), .second, .val (.long lg), .second] [])) _
      refine XS.aloadN X2.here hx rfl (hb hby d3_29) rfl rfl ?_
      show Steps p.tables e below (T2.setTop (mkF m 30 #[.val (.ref a1), .val (.long q1), .second, .val (.long lg), .second] [(.ref a1)])) _
      refine XS.dup X2.here hx rfl (hb hby d3_30) rfl rfl ?_
      exact kt
    refine Go.adv sg24 ?_
    obtain ⟨T25, X25, e25, st25⟩ := getF X2 hx hZ hown (host := "") (Or.inl (hw _ (List.mem_of_getElem? (i := 48) rfl))) Via.refl e2 F_taken_a1 (g := (mkF m 31 #[.val (.ref a1), .val (.long q1), .second, .val (.long lg), .second] [(.ref a1), (.ref a1)])) rfl rfl (hb hby d3_31)
    refine Go.adv st25 ?_
    show Go p.tables e below s _ _ _ (T25.setTop (mkF m 34 #[.val (.ref a1), .val (.long q1), .second, .val (.long lg), .second] [(.long tk), (.ref a1)]))
    have sg26 : ∀ t, Steps p.tables e below (T25.setTop (mkF m 36 #[.val (.ref a1), .val (.long q1), .second, .val (.long lg), .second] [(.long (tk + (1 : Int64))), (.ref a1)])) t → Steps p.tables e below (T25.setTop (mkF m 34 #[.val (.ref a1), .val (.long q1), .second, .val (.long lg), .second] [(.long tk), (.ref a1)])) t := by
      intro t kt
      show Steps p.tables e below (T25.setTop (mkF m 34 #[.val (.ref a1), .val (.long q1), .second, .val (.long lg), .second] [(.long tk), (.ref a1)])) _
      refine XS.lconst X25.here hx rfl (hb hby d3_34) ?_
      show Steps p.tables e below (T25.setTop (mkF m 35 #[.val (.ref a1), .val (.long q1), .second, .val (.long lg), .second] [(.long (1 : Int64)), (.long tk), (.ref a1)])) _
      refine XS.ladd X25.here hx rfl (hb hby d3_35) rfl ?_
      exact kt
    refine Go.adv sg26 ?_
    obtain ⟨T27, h27, X27, e27, W27, st27⟩ := putF X25 hx hZ hown (host := "") (Or.inl (hw _ (List.mem_of_getElem? (i := 48) rfl))) Via.refl e25 F_taken_a1 E_a1 (Or.inl (hw _ (List.mem_of_getElem? (i := 49) rfl))) (hw _ (List.mem_of_getElem? (i := 21) rfl)) (ty := .long) (by decide) rfl rfl (g := (mkF m 36 #[.val (.ref a1), .val (.long q1), .second, .val (.long lg), .second] [(.long (tk + (1 : Int64))), (.ref a1)])) rfl rfl (hb hby d3_36)
    have Fw27 := F_taken_a1.same W27
    have K27 : Keep h0 h27 [a1] := (Keep.refl h0 [a1]).wr W27 (Or.inl (List.mem_of_getElem? (i := 0) rfl))
    have Z27 : n0 ≤ h27.size := Nat.le_trans Z0 (Keep.of_wr W27).1
    have N27 := Fr.snoc X27 N2 g_a1
    refine Go.adv st27 ?_
    show Go p.tables e below s _ _ _ (T27.setTop (mkF m 39 #[.val (.ref a1), .val (.long q1), .second, .val (.long lg), .second] []))
    have sg28 : ∀ t, Steps p.tables e below (T27.setTop (mkF m 41 #[.val (.ref a1), .val (.long q1), .second, .val (.long lg), .second] [(.ref a1), (.ref a1)])) t → Steps p.tables e below (T27.setTop (mkF m 39 #[.val (.ref a1), .val (.long q1), .second, .val (.long lg), .second] [])) t := by
      intro t kt
      show Steps p.tables e below (T27.setTop (mkF m 39 #[.val (.ref a1), .val (.long q1), .second, .val (.long lg), .second] [])) _
      refine XS.aloadN X27.here hx rfl (hb hby d3_39) rfl rfl ?_
      show Steps p.tables e below (T27.setTop (mkF m 40 #[.val (.ref a1), .val (.long q1), .second, .val (.long lg), .second] [(.ref a1)])) _
      refine XS.dup X27.here hx rfl (hb hby d3_40) rfl rfl ?_
      exact kt
    refine Go.adv sg28 ?_
    have f29 := (F_windowTaken_a1.other W27 (Or.inr (slot_ne (Or.inl (hw _ (List.mem_of_getElem? (i := 52) rfl))) (Or.inl (hw _ (List.mem_of_getElem? (i := 49) rfl))) (by decide) (t := .long) (t' := .long) (by decide) (by decide))))
    obtain ⟨T30, X30, e30, st30⟩ := getF X27 hx hZ hown (host := "") (Or.inl (hw _ (List.mem_of_getElem? (i := 51) rfl))) Via.refl e27 f29 (g := (mkF m 41 #[.val (.ref a1), .val (.long q1), .second, .val (.long lg), .second] [(.ref a1), (.ref a1)])) rfl rfl (hb hby d3_41)
    refine Go.adv st30 ?_
    show Go p.tables e below s _ _ _ (T30.setTop (mkF m 44 #[.val (.ref a1), .val (.long q1), .second, .val (.long lg), .second] [(.long wt), (.ref a1)]))
    have sg31 : ∀ t, Steps p.tables e below (T30.setTop (mkF m 46 #[.val (.ref a1), .val (.long q1), .second, .val (.long lg), .second] [(.long (wt + (1 : Int64))), (.ref a1)])) t → Steps p.tables e below (T30.setTop (mkF m 44 #[.val (.ref a1), .val (.long q1), .second, .val (.long lg), .second] [(.long wt), (.ref a1)])) t := by
      intro t kt
      show Steps p.tables e below (T30.setTop (mkF m 44 #[.val (.ref a1), .val (.long q1), .second, .val (.long lg), .second] [(.long wt), (.ref a1)])) _
      refine XS.lconst X30.here hx rfl (hb hby d3_44) ?_
      show Steps p.tables e below (T30.setTop (mkF m 45 #[.val (.ref a1), .val (.long q1), .second, .val (.long lg), .second] [(.long (1 : Int64)), (.long wt), (.ref a1)])) _
      refine XS.ladd X30.here hx rfl (hb hby d3_45) rfl ?_
      exact kt
    refine Go.adv sg31 ?_
    have f32 := (E_a1.wr W27)
    obtain ⟨T33, h33, X33, e33, W33, st33⟩ := putF X30 hx hZ hown (host := "") (Or.inl (hw _ (List.mem_of_getElem? (i := 51) rfl))) Via.refl e30 f29 f32 (Or.inl (hw _ (List.mem_of_getElem? (i := 52) rfl))) (hw _ (List.mem_of_getElem? (i := 21) rfl)) (ty := .long) (by decide) rfl rfl (g := (mkF m 46 #[.val (.ref a1), .val (.long q1), .second, .val (.long lg), .second] [(.long (wt + (1 : Int64))), (.ref a1)])) rfl rfl (hb hby d3_46)
    have Fw33 := f29.same W33
    have K33 : Keep h0 h33 [a1] := K27.wr W33 (Or.inl (List.mem_of_getElem? (i := 0) rfl))
    have Z33 : n0 ≤ h33.size := Nat.le_trans Z27 (Keep.of_wr W33).1
    have N33 := Fr.snoc X33 N27 g_a1
    refine Go.adv st33 ?_
    show Go p.tables e below s _ _ _ (T33.setTop (mkF m 49 #[.val (.ref a1), .val (.long q1), .second, .val (.long lg), .second] []))
    refine Go.ret (v := none) X33 (fun _ => rfl) Bd.notSynchronized (fun fs hr => X33.returnOut hx Bd.returns (hb hby d3_49) hr) ?_ (by decide) (by decide)
    show Q_rm_take Z a1 q1 org tk wt npr dd lg h0 n0 none T33.heap _
    rw [e33]
    have f34 := (f32.wr W33)
    have f35 := ((F_origin_a1.other W27 (Or.inr (slot_ne (Or.inl (hw _ (List.mem_of_getElem? (i := 35) rfl))) (Or.inl (hw _ (List.mem_of_getElem? (i := 49) rfl))) (by decide) (t := .long) (t' := .long) (by decide) (by decide)))).other W33 (Or.inr (slot_ne (Or.inl (hw _ (List.mem_of_getElem? (i := 35) rfl))) (Or.inl (hw _ (List.mem_of_getElem? (i := 52) rfl))) (by decide) (t := .long) (t' := .long) (by decide) (by decide))))
    have f36 := (Fw27.other W33 (Or.inr (slot_ne (Or.inl (hw _ (List.mem_of_getElem? (i := 49) rfl))) (Or.inl (hw _ (List.mem_of_getElem? (i := 52) rfl))) (by decide) (t := .long) (t' := .long) (by decide) (by decide))))
    have f37 := ((F_nanosPerRecord_a1.other W27 (Or.inr (slot_ne (Or.inr (hw _ (List.mem_of_getElem? (i := 33) rfl))) (Or.inl (hw _ (List.mem_of_getElem? (i := 49) rfl))) (by decide) (t := .double) (t' := .long) (by decide) (by decide)))).other W33 (Or.inr (slot_ne (Or.inr (hw _ (List.mem_of_getElem? (i := 33) rfl))) (Or.inl (hw _ (List.mem_of_getElem? (i := 52) rfl))) (by decide) (t := .double) (t' := .long) (by decide) (by decide))))
    exact ⟨rfl, N33, K33, f34, (by rw [own_shift_b hc, Int64.add_zero]; exact f35), f36, Fw33, f37⟩
theorem pn5 : plainName "com/example/ballast/ballast/PacerTakePinLaw" = true := by first | (simp [plainName, overriddenIn]; done) | decide +kernel
theorem d5_0 : decode method_2_code 0 = .ok (.lload_n 0, 1) := by decide +kernel
theorem d5_1 : decode method_2_code 1 = .ok (.ldc2_w 7, 3) := by decide +kernel
theorem d5_4 : decode method_2_code 4 = .ok (.lcmp, 1) := by decide +kernel
theorem d5_5 : decode method_2_code 5 = .ok (.ifCond .le 11, 3) := by decide +kernel
theorem d5_8 : decode method_2_code 8 = .ok (.lload_n 0, 1) := by decide +kernel
theorem d5_9 : decode method_2_code 9 = .ok (.ldc2_w 7, 3) := by decide +kernel
theorem d5_12 : decode method_2_code 12 = .ok (.lsub, 1) := by decide +kernel
theorem d5_13 : decode method_2_code 13 = .ok (.goto 4, 3) := by decide +kernel
theorem d5_17 : decode method_2_code 17 = .ok (.lreturn, 1) := by decide +kernel
theorem d5_16 : decode method_2_code 16 = .ok (.lconst 0, 1) := by decide +kernel
theorem ef_rm_shift (m : MethodId) (x0 : Int64) : entryFrame m #[(.long x0)] 2 = mkF m 0 #[.val (.long x0), .second] [] := by first | (simp [entryFrame, mkF, argsToLocals, Value.category]; done) | rfl
def Q_rm_shift (Z : State) (q1 : Int64) (h0 : Heap) (n0 : Nat) (v : Option Value) (h : Heap) (L : List Loc) : Prop := v = some (.long (own_shift q1)) ∧ Fr n0 L ∧ h = h0
set_option maxRecDepth 65536 in
set_option maxHeartbeats 40000000 in
theorem rm_shift (l : Launch) (Z : State) (a0 : Array Value) (hw : ∀ d ∈ tables_1, d.before a0 Z = true) (ws : List Jvm.Cond) (q1 : Int64) (h0 : Heap) (n0 : Nat) (Z0 : n0 ≤ h0.size)  :
    MetFree l (⟨"com/example/ballast/ballast/PacerTakePinLaw", "shift", "(J)J"⟩ : MethodName) (head1 (Jvm.Cond.code (⟨"com/example/ballast/ballast/PacerTakePinLaw", "shift", "(J)J"⟩ : MethodName) method_2_code 2 (some .long) :: ws) ({ frames := 0, cells := 0, slots := 0, locals := 0 } : Room)) (fun a U => a = #[(.long q1)] ∧ Z.Warmed39 U.vm ∧ U.heap = h0) (fun _ _ _ _ _ => True) (fun _ U o U' => ∃ v L, o = .returned v ∧ Q_rm_shift Z q1 h0 n0 v U'.heap L ∧ FrameEnd U o U' L ({ frames := 0, cells := 0, slots := 0, locals := 0 } : Room).cells ({ frames := 0, cells := 0, slots := 0, locals := 0 } : Room).slots) := by
  refine MetFree.of_bodySF (plainFor_of_name pn5) hisR ?_
  intro p e s m args below meth c s₁ Bd hml0 hP hK
  obtain ⟨rfl, hZ, hh⟩ := hP
  have hx := Bd.exec
  have hby := Bd.bytes
  have hml : c.maxLocals = 2 := hml0
  have hown : s.vm.findClass "com/example/ballast/ballast/PacerTakePinLaw" = some m.cls := findClass_of_methodNamed Bd.named
  have hnm := (name_of_methodNamed Bd.named Bd.method).1
  have X0 : Stand p l e ({ frames := 0, cells := 0, slots := 0, locals := 0 } : Room) s m #[(.long q1)] below meth c s₁ [] 0 0 := Stand.of_body Bd
  have e0 : s₁.heap = h0 := by rw [← hh, Bd.state]; rfl
  have N0 := Fr.nil n0
  refine Go.start (Q := Q_rm_shift Z q1 h0 n0) (ef_rm_shift m q1) ?_
  by_cases hc : (20000000 : Int64) < q1
  · have sg1 : ∀ t, Steps p.tables e below (s₁.setTop (mkF m 17 #[.val (.long q1), .second] [(.long (q1 - (20000000 : Int64)))])) t → Steps p.tables e below (s₁.setTop (mkF m 0 #[.val (.long q1), .second] [])) t := by
      intro t kt
      show Steps p.tables e below (s₁.setTop (mkF m 0 #[.val (.long q1), .second] [])) _
      refine XS.lloadN X0.here hx rfl (hb hby d5_0) rfl ?_
      show Steps p.tables e below (s₁.setTop (mkF m 1 #[.val (.long q1), .second] [(.long q1)])) _
      refine X0.ldc2Long hx hown (mvT hZ (hw _ (List.mem_of_getElem? (i := 57) rfl))) (g := (mkF m 1 #[.val (.long q1), .second] [(.long q1)])) rfl (hb hby d5_1) _ ?_
      show Steps p.tables e below (s₁.setTop (mkF m 4 #[.val (.long q1), .second] [(.long (20000000 : Int64)), (.long q1)])) _
      refine XS.lcmp X0.here hx rfl (hb hby d5_4) rfl ?_
      show Steps p.tables e below (s₁.setTop (mkF m 5 #[.val (.long q1), .second] [(.int (lcmpW q1 (20000000 : Int64)))])) _
      refine XS.ifNo X0.here hx rfl (hb hby d5_5) rfl ((if0 _ _).trans (tlt (own_lc_gt hc : (0 : Int32) < (lcmpW q1 (20000000 : Int64)))).2.2.2) ?_
      show Steps p.tables e below (s₁.setTop (mkF m 8 #[.val (.long q1), .second] [])) _
      refine XS.lloadN X0.here hx rfl (hb hby d5_8) rfl ?_
      show Steps p.tables e below (s₁.setTop (mkF m 9 #[.val (.long q1), .second] [(.long q1)])) _
      refine X0.ldc2Long hx hown (mvT hZ (hw _ (List.mem_of_getElem? (i := 57) rfl))) (g := (mkF m 9 #[.val (.long q1), .second] [(.long q1)])) rfl (hb hby d5_9) _ ?_
      show Steps p.tables e below (s₁.setTop (mkF m 12 #[.val (.long q1), .second] [(.long (20000000 : Int64)), (.long q1)])) _
      refine XS.lsub X0.here hx rfl (hb hby d5_12) rfl ?_
      show Steps p.tables e below (s₁.setTop (mkF m 13 #[.val (.long q1), .second] [(.long (q1 - (20000000 : Int64)))])) _
      refine XS.goto X0.here hx rfl (pc0 := 13) (pc' := 17) rfl (hb hby d5_13) (by decide) (by decide) ?_
      exact kt
    refine Go.adv sg1 ?_
    refine Go.ret (v := (some (.long (q1 - (20000000 : Int64))))) X0 (fun h => by rw [Bd.returns] at h; cases h) Bd.notSynchronized (fun fs hr => retOut X0 hx Bd.returns rfl (Or.inr (Or.inl ⟨rfl, rfl, _, rfl⟩)) (hb hby d5_17) hr) ?_ (by decide) (by decide)
    show Q_rm_shift Z q1 h0 n0 (some (.long (q1 - (20000000 : Int64)))) s₁.heap _
    rw [e0]
    exact ⟨congrArg (fun z => some (Value.long z)) (own_shift_a hc).symm, N0, rfl⟩
  · have sg2 : ∀ t, Steps p.tables e below (s₁.setTop (mkF m 17 #[.val (.long q1), .second] [(.long (0 : Int64))])) t → Steps p.tables e below (s₁.setTop (mkF m 0 #[.val (.long q1), .second] [])) t := by
      intro t kt
      show Steps p.tables e below (s₁.setTop (mkF m 0 #[.val (.long q1), .second] [])) _
      refine XS.lloadN X0.here hx rfl (hb hby d5_0) rfl ?_
      show Steps p.tables e below (s₁.setTop (mkF m 1 #[.val (.long q1), .second] [(.long q1)])) _
      refine X0.ldc2Long hx hown (mvT hZ (hw _ (List.mem_of_getElem? (i := 57) rfl))) (g := (mkF m 1 #[.val (.long q1), .second] [(.long q1)])) rfl (hb hby d5_1) _ ?_
      show Steps p.tables e below (s₁.setTop (mkF m 4 #[.val (.long q1), .second] [(.long (20000000 : Int64)), (.long q1)])) _
      refine XS.lcmp X0.here hx rfl (hb hby d5_4) rfl ?_
      show Steps p.tables e below (s₁.setTop (mkF m 5 #[.val (.long q1), .second] [(.int (lcmpW q1 (20000000 : Int64)))])) _
      refine XS.ifYes X0.here hx rfl (pc0 := 5) (pc' := 16) rfl (hb hby d5_5) rfl ((if0 _ _).trans (flt (own_lc_ngt hc : ¬ ((0 : Int32) < (lcmpW q1 (20000000 : Int64))))).2.2.2) (by decide) (by decide) ?_
      show Steps p.tables e below (s₁.setTop (mkF m 16 #[.val (.long q1), .second] [])) _
      refine XS.lconst X0.here hx rfl (hb hby d5_16) ?_
      exact kt
    refine Go.adv sg2 ?_
    refine Go.ret (v := (some (.long (0 : Int64)))) X0 (fun h => by rw [Bd.returns] at h; cases h) Bd.notSynchronized (fun fs hr => retOut X0 hx Bd.returns rfl (Or.inr (Or.inl ⟨rfl, rfl, _, rfl⟩)) (hb hby d5_17) hr) ?_ (by decide) (by decide)
    show Q_rm_shift Z q1 h0 n0 (some (.long (0 : Int64))) s₁.heap _
    rw [e0]
    exact ⟨congrArg (fun z => some (Value.long z)) (own_shift_b hc).symm, N0, rfl⟩
def own_t2 : Nat → Int64
  | 0 => 1
  | 1 => 2
  | 2 => 4
  | 3 => 8
  | 4 => 16
  | 5 => 32
  | 6 => 64
  | 7 => 128
  | 8 => 256
  | _ => 512
def own_t5 : Nat → Int64
  | 0 => 1
  | 1 => 5
  | 2 => 25
  | 3 => 125
  | 4 => 625
  | 5 => 3125
  | 6 => 15625
  | 7 => 78125
  | 8 => 390625
  | _ => 1953125
theorem own_t2_at {k : Nat} (h : k < 10) : [(Value.long (1 : Int64)), (Value.long (2 : Int64)), (Value.long (4 : Int64)), (Value.long (8 : Int64)), (Value.long (16 : Int64)), (Value.long (32 : Int64)), (Value.long (64 : Int64)), (Value.long (128 : Int64)), (Value.long (256 : Int64)), (Value.long (512 : Int64))].getD k (Value.long (0 : Int64)) = Value.long (own_t2 k) := by
  match k, h with
  | 0, _ => rfl
  | 1, _ => rfl
  | 2, _ => rfl
  | 3, _ => rfl
  | 4, _ => rfl
  | 5, _ => rfl
  | 6, _ => rfl
  | 7, _ => rfl
  | 8, _ => rfl
  | 9, _ => rfl
  | k + 10, h => omega
theorem own_t5_at {k : Nat} (h : k < 10) : [(Value.long (1 : Int64)), (Value.long (5 : Int64)), (Value.long (25 : Int64)), (Value.long (125 : Int64)), (Value.long (625 : Int64)), (Value.long (3125 : Int64)), (Value.long (15625 : Int64)), (Value.long (78125 : Int64)), (Value.long (390625 : Int64)), (Value.long (1953125 : Int64))].getD k (Value.long (0 : Int64)) = Value.long (own_t5 k) := by
  match k, h with
  | 0, _ => rfl
  | 1, _ => rfl
  | 2, _ => rfl
  | 3, _ => rfl
  | 4, _ => rfl
  | 5, _ => rfl
  | 6, _ => rfl
  | 7, _ => rfl
  | 8, _ => rfl
  | 9, _ => rfl
  | k + 10, h => omega
theorem own_rate : ∀ k, k < 10 → ∀ j, j < 10 → ((own_t2 k * own_t5 j).toInt * ((1000000000 : Int64) / (own_t2 k * own_t5 j)).toInt = 1000000000 ∧ 0 < (own_t2 k * own_t5 j).toInt) := by decide +kernel
theorem own_idx (x : Int32) : ¬ ((x &&& (255 : Int32)) % (10 : Int32)) < 0 ∧ ((x &&& (255 : Int32)) % (10 : Int32)) < 10 := by
  have h1 : (x &&& (255 : Int32)).toInt = x.toInt % 2 ^ 8 := Kit.i32_mask x 255 (by decide) (by decide)
  have h2 := Kit.i32_rem_nonneg (x := x &&& (255 : Int32)) (y := 10) (by rw [h1]; omega)
  rw [Int32.lt_iff_toInt_lt, Int32.lt_iff_toInt_lt, h2, show (10 : Int32).toInt = 10 from rfl, show (0 : Int32).toInt = 0 from rfl]
  omega
theorem own_clamp {x : Int32} (h : ¬ x < 0 ∧ x < 10) : x.toNatClampNeg < 10 := by
  have h2 := h.2
  rw [Int32.lt_iff_toInt_lt, show (10 : Int32).toInt = 10 from rfl] at h2
  show x.toInt.toNat < 10
  omega
theorem pn0 : plainName "com/example/ballast/ballast/PacerTakePinLaw" = true := by first | (simp [plainName, overriddenIn]; done) | decide +kernel
theorem pd_oJJcV : parseMethodDescriptor "(JJ)V" = some ⟨[.long, .long], none⟩ := by decide +kernel
theorem pd_oJcV : parseMethodDescriptor "(J)V" = some ⟨[.long], none⟩ := by decide +kernel
theorem pd_oJcJ : parseMethodDescriptor "(J)J" = some ⟨[.long], some .long⟩ := by decide +kernel
theorem ef_rm0 (m : MethodId) (x0 : Int32) (x1 : Int64) (x2 : Int64) (x3 : Int64) (x4 : Int64) : entryFrame m #[(.int x0), (.long x1), (.long x2), (.long x3), (.long x4)] maxLocals = mkF m 0 #[.val (.int x0), .val (.long x1), .second, .val (.long x2), .second, .val (.long x3), .second, .val (.long x4), .second, .unset, .unset, .unset, .unset, .unset, .unset, .unset, .unset, .unset, .unset, .unset, .unset, .unset, .unset, .unset, .unset, .unset, .unset, .unset, .unset, .unset, .unset, .unset, .unset, .unset, .unset, .unset, .unset, .unset] [] := by first | (simp [entryFrame, mkF, argsToLocals, Value.category, maxLocals]; done) | rfl
def Q_rm0 (Z : State) (p1 : Int32) (j0 : Int64) (j1 : Int64) (j2 : Int64) (j3 : Int64) (h0 : Heap) (n0 : Nat) (v : Option Value) (h : Heap) (L : List Loc) : Prop := v = some (.int (1 : Int32)) ∧ Fr n0 L
set_option maxRecDepth 65536 in
set_option maxHeartbeats 40000000 in
theorem rm0 (l : Launch) (Z : State) (a0 : Array Value) (hw : ∀ d ∈ tables_1, d.before a0 Z = true) (ws : List Jvm.Cond) (p1 : Int32) (j0 : Int64) (j1 : Int64) (j2 : Int64) (j3 : Int64) (h0 : Heap) (n0 : Nat) (Z0 : n0 ≤ h0.size)  :
    MetFree l x (head1 (Jvm.Cond.code x code maxLocals ret :: ws) room_1) (fun a U => a = #[(.int p1), (.long j0), (.long j1), (.long j2), (.long j3)] ∧ Z.Warmed39 U.vm ∧ U.heap = h0) (fun _ _ _ _ _ => True) (fun _ U o U' => ∃ v L, o = .returned v ∧ Q_rm0 Z p1 j0 j1 j2 j3 h0 n0 v U'.heap L ∧ FrameEnd U o U' L room_1.cells room_1.slots) := by
  refine MetFree.of_bodySF (plainFor_of_name pn0) hisR ?_
  intro p e s m args below meth c s₁ Bd hml0 hP hK
  obtain ⟨rfl, hZ, hh⟩ := hP
  have hx := Bd.exec
  have hby := Bd.bytes
  have hml : c.maxLocals = 38 := hml0
  have hown : s.vm.findClass "com/example/ballast/ballast/PacerTakePinLaw" = some m.cls := findClass_of_methodNamed Bd.named
  have hnm := (name_of_methodNamed Bd.named Bd.method).1
  have X0 : Stand p l e room_1 s m #[(.int p1), (.long j0), (.long j1), (.long j2), (.long j3)] below meth c s₁ [] 0 0 := Stand.of_body Bd
  have e0 : s₁.heap = h0 := by rw [← hh, Bd.state]; rfl
  have N0 := Fr.nil n0
  refine Go.start (Q := Q_rm0 Z p1 j0 j1 j2 j3 h0 n0) (ef_rm0 m p1 j0 j1 j2 j3) ?_
  have sg1 : ∀ t, Steps p.tables e below (s₁.setTop (mkF m 2 #[.val (.int p1), .val (.long j0), .second, .val (.long j1), .second, .val (.long j2), .second, .val (.long j3), .second, .unset, .unset, .unset, .unset, .unset, .unset, .unset, .unset, .unset, .unset, .unset, .unset, .unset, .unset, .unset, .unset, .unset, .unset, .unset, .unset, .unset, .unset, .unset, .unset, .unset, .unset, .unset, .unset, .unset] [(.int (10 : Int32))])) t → Steps p.tables e below (s₁.setTop (mkF m 0 #[.val (.int p1), .val (.long j0), .second, .val (.long j1), .second, .val (.long j2), .second, .val (.long j3), .second, .unset, .unset, .unset, .unset, .unset, .unset, .unset, .unset, .unset, .unset, .unset, .unset, .unset, .unset, .unset, .unset, .unset, .unset, .unset, .unset, .unset, .unset, .unset, .unset, .unset, .unset, .unset, .unset, .unset] [])) t := by
    intro t kt
    show Steps p.tables e below (s₁.setTop (mkF m 0 #[.val (.int p1), .val (.long j0), .second, .val (.long j1), .second, .val (.long j2), .second, .val (.long j3), .second, .unset, .unset, .unset, .unset, .unset, .unset, .unset, .unset, .unset, .unset, .unset, .unset, .unset, .unset, .unset, .unset, .unset, .unset, .unset, .unset, .unset, .unset, .unset, .unset, .unset, .unset, .unset, .unset, .unset] [])) _
    refine XS.bipush X0.here hx rfl (hb hby at_0) ?_
    exact kt
  refine Go.adv sg1 ?_
  obtain ⟨T2, h2, k2, X2, e2, E2, A2, st2⟩ := newP X0 hx hZ (hw _ (List.mem_of_getElem? (i := 0) rfl)) e0 (g := (mkF m 2 #[.val (.int p1), .val (.long j0), .second, .val (.long j1), .second, .val (.long j2), .second, .val (.long j3), .second, .unset, .unset, .unset, .unset, .unset, .unset, .unset, .unset, .unset, .unset, .unset, .unset, .unset, .unset, .unset, .unset, .unset, .unset, .unset, .unset, .unset, .unset, .unset, .unset, .unset, .unset, .unset, .unset, .unset] [(.int (10 : Int32))])) rfl (hb hby at_2) rfl (by decide) (cap := 10) (by decide) (by decide) (by decide) (by decide)
  obtain ⟨b2, gb2⟩ : ∃ z, z = h0.size := ⟨_, rfl⟩
  rw [← gb2] at A2 st2
  have g_b2 : n0 ≤ b2 := Nat.le_trans Z0 (Nat.le_of_eq gb2.symm)
  have sz_b2 : h0.size ≤ b2 := Nat.le_trans (Keep.refl h0 []).1 (Nat.le_of_eq gb2.symm)
  have K2 : Keep h0 h2 [] := (Keep.refl h0 []).ext E2
  have Z2 : n0 ≤ h2.size := Nat.le_trans Z0 E2.1
  have V_b2 : Arv Z h2 b2 k2 .long (10 : Int32) [(.long (0 : Int64)), (.long (0 : Int64)), (.long (0 : Int64)), (.long (0 : Int64)), (.long (0 : Int64)), (.long (0 : Int64)), (.long (0 : Int64)), (.long (0 : Int64)), (.long (0 : Int64)), (.long (0 : Int64))] (.long (0 : Int64)) := (Arv.new A2 (by decide)).pad (pad_rep [] (.long (0 : Int64)) 10)
  refine Go.adv st2 ?_
  show Go p.tables e below s _ _ _ (T2.setTop (mkF m 4 #[.val (.int p1), .val (.long j0), .second, .val (.long j1), .second, .val (.long j2), .second, .val (.long j3), .second, .unset, .unset, .unset, .unset, .unset, .unset, .unset, .unset, .unset, .unset, .unset, .unset, .unset, .unset, .unset, .unset, .unset, .unset, .unset, .unset, .unset, .unset, .unset, .unset, .unset, .unset, .unset, .unset, .unset] [(.ref b2)]))
  have sg3 : ∀ t, Steps p.tables e below (T2.setTop (mkF m 7 #[.val (.int p1), .val (.long j0), .second, .val (.long j1), .second, .val (.long j2), .second, .val (.long j3), .second, .unset, .unset, .unset, .unset, .unset, .unset, .unset, .unset, .unset, .unset, .unset, .unset, .unset, .unset, .unset, .unset, .unset, .unset, .unset, .unset, .unset, .unset, .unset, .unset, .unset, .unset, .unset, .unset, .unset] [(.long (1 : Int64)), (.int (0 : Int32)), (.ref b2), (.ref b2)])) t → Steps p.tables e below (T2.setTop (mkF m 4 #[.val (.int p1), .val (.long j0), .second, .val (.long j1), .second, .val (.long j2), .second, .val (.long j3), .second, .unset, .unset, .unset, .unset, .unset, .unset, .unset, .unset, .unset, .unset, .unset, .unset, .unset, .unset, .unset, .unset, .unset, .unset, .unset, .unset, .unset, .unset, .unset, .unset, .unset, .unset, .unset, .unset, .unset] [(.ref b2)])) t := by
    intro t kt
    show Steps p.tables e below (T2.setTop (mkF m 4 #[.val (.int p1), .val (.long j0), .second, .val (.long j1), .second, .val (.long j2), .second, .val (.long j3), .second, .unset, .unset, .unset, .unset, .unset, .unset, .unset, .unset, .unset, .unset, .unset, .unset, .unset, .unset, .unset, .unset, .unset, .unset, .unset, .unset, .unset, .unset, .unset, .unset, .unset, .unset, .unset, .unset, .unset] [(.ref b2)])) _
    refine XS.dup X2.here hx rfl (hb hby at_4) rfl rfl ?_
    show Steps p.tables e below (T2.setTop (mkF m 5 #[.val (.int p1), .val (.long j0), .second, .val (.long j1), .second, .val (.long j2), .second, .val (.long j3), .second, .unset, .unset, .unset, .unset, .unset, .unset, .unset, .unset, .unset, .unset, .unset, .unset, .unset, .unset, .unset, .unset, .unset, .unset, .unset, .unset, .unset, .unset, .unset, .unset, .unset, .unset, .unset, .unset, .unset] [(.ref b2), (.ref b2)])) _
    refine XS.iconst X2.here hx rfl (hb hby at_5) ?_
    show Steps p.tables e below (T2.setTop (mkF m 6 #[.val (.int p1), .val (.long j0), .second, .val (.long j1), .second, .val (.long j2), .second, .val (.long j3), .second, .unset, .unset, .unset, .unset, .unset, .unset, .unset, .unset, .unset, .unset, .unset, .unset, .unset, .unset, .unset, .unset, .unset, .unset, .unset, .unset, .unset, .unset, .unset, .unset, .unset, .unset, .unset, .unset, .unset] [(.int (0 : Int32)), (.ref b2), (.ref b2)])) _
    refine XS.lconst X2.here hx rfl (hb hby at_6) ?_
    exact kt
  refine Go.adv sg3 ?_
  obtain ⟨cl_b2_7, Ar_b2_7, q_b2_7, S_b2_7, N_b2_7, H_b2_7, G_b2_7⟩ := V_b2
  have hin_b2_7 : ¬ ((0 : Int32) < 0 ∨ cl_b2_7.slots.size ≤ ((0 : Int32)).toNatClampNeg) := inb_of S_b2_7 ⟨by decide, by decide⟩
  obtain ⟨T4, h4, X4, e4, W4, st4⟩ := stJ X2 hx hZ e2 Ar_b2_7 (j := (0 : Int32)) hin_b2_7 (g := (mkF m 7 #[.val (.int p1), .val (.long j0), .second, .val (.long j1), .second, .val (.long j2), .second, .val (.long j3), .second, .unset, .unset, .unset, .unset, .unset, .unset, .unset, .unset, .unset, .unset, .unset, .unset, .unset, .unset, .unset, .unset, .unset, .unset, .unset, .unset, .unset, .unset, .unset, .unset, .unset, .unset, .unset, .unset, .unset] [(.long (1 : Int64)), (.int (0 : Int32)), (.ref b2), (.ref b2)])) rfl rfl (hb hby at_7)
  have V_b2_4 : Arv Z h4 b2 k2 .long (10 : Int32) [(.long (1 : Int64)), (.long (0 : Int64)), (.long (0 : Int64)), (.long (0 : Int64)), (.long (0 : Int64)), (.long (0 : Int64)), (.long (0 : Int64)), (.long (0 : Int64)), (.long (0 : Int64)), (.long (0 : Int64))] (.long (0 : Int64)) := Arv.set Ar_b2_7 q_b2_7 S_b2_7 N_b2_7 H_b2_7 G_b2_7 rfl W4 0 rfl (Nat.le_of_ble_eq_true rfl)
  have K4 : Keep h0 h4 [] := K2.wr W4 (Or.inr sz_b2)
  have Z4 : n0 ≤ h4.size := Nat.le_trans Z2 (Keep.of_wr W4).1
  have N4 := Fr.snoc X4 N0 g_b2
  refine Go.adv st4 ?_
  show Go p.tables e below s _ _ _ (T4.setTop (mkF m 8 #[.val (.int p1), .val (.long j0), .second, .val (.long j1), .second, .val (.long j2), .second, .val (.long j3), .second, .unset, .unset, .unset, .unset, .unset, .unset, .unset, .unset, .unset, .unset, .unset, .unset, .unset, .unset, .unset, .unset, .unset, .unset, .unset, .unset, .unset, .unset, .unset, .unset, .unset, .unset, .unset, .unset, .unset] [(.ref b2)]))
  have sg5 : ∀ t, Steps p.tables e below (T4.setTop (mkF m 13 #[.val (.int p1), .val (.long j0), .second, .val (.long j1), .second, .val (.long j2), .second, .val (.long j3), .second, .unset, .unset, .unset, .unset, .unset, .unset, .unset, .unset, .unset, .unset, .unset, .unset, .unset, .unset, .unset, .unset, .unset, .unset, .unset, .unset, .unset, .unset, .unset, .unset, .unset, .unset, .unset, .unset, .unset] [(.long (2 : Int64)), (.int (1 : Int32)), (.ref b2), (.ref b2)])) t → Steps p.tables e below (T4.setTop (mkF m 8 #[.val (.int p1), .val (.long j0), .second, .val (.long j1), .second, .val (.long j2), .second, .val (.long j3), .second, .unset, .unset, .unset, .unset, .unset, .unset, .unset, .unset, .unset, .unset, .unset, .unset, .unset, .unset, .unset, .unset, .unset, .unset, .unset, .unset, .unset, .unset, .unset, .unset, .unset, .unset, .unset, .unset, .unset] [(.ref b2)])) t := by
    intro t kt
    show Steps p.tables e below (T4.setTop (mkF m 8 #[.val (.int p1), .val (.long j0), .second, .val (.long j1), .second, .val (.long j2), .second, .val (.long j3), .second, .unset, .unset, .unset, .unset, .unset, .unset, .unset, .unset, .unset, .unset, .unset, .unset, .unset, .unset, .unset, .unset, .unset, .unset, .unset, .unset, .unset, .unset, .unset, .unset, .unset, .unset, .unset, .unset, .unset] [(.ref b2)])) _
    refine XS.dup X4.here hx rfl (hb hby at_8) rfl rfl ?_
    show Steps p.tables e below (T4.setTop (mkF m 9 #[.val (.int p1), .val (.long j0), .second, .val (.long j1), .second, .val (.long j2), .second, .val (.long j3), .second, .unset, .unset, .unset, .unset, .unset, .unset, .unset, .unset, .unset, .unset, .unset, .unset, .unset, .unset, .unset, .unset, .unset, .unset, .unset, .unset, .unset, .unset, .unset, .unset, .unset, .unset, .unset, .unset, .unset] [(.ref b2), (.ref b2)])) _
    refine XS.iconst X4.here hx rfl (hb hby at_9) ?_
    show Steps p.tables e below (T4.setTop (mkF m 10 #[.val (.int p1), .val (.long j0), .second, .val (.long j1), .second, .val (.long j2), .second, .val (.long j3), .second, .unset, .unset, .unset, .unset, .unset, .unset, .unset, .unset, .unset, .unset, .unset, .unset, .unset, .unset, .unset, .unset, .unset, .unset, .unset, .unset, .unset, .unset, .unset, .unset, .unset, .unset, .unset, .unset, .unset] [(.int (1 : Int32)), (.ref b2), (.ref b2)])) _
    refine X4.ldc2Long hx hown (mvT hZ (hw _ (List.mem_of_getElem? (i := 1) rfl))) (g := (mkF m 10 #[.val (.int p1), .val (.long j0), .second, .val (.long j1), .second, .val (.long j2), .second, .val (.long j3), .second, .unset, .unset, .unset, .unset, .unset, .unset, .unset, .unset, .unset, .unset, .unset, .unset, .unset, .unset, .unset, .unset, .unset, .unset, .unset, .unset, .unset, .unset, .unset, .unset, .unset, .unset, .unset, .unset, .unset] [(.int (1 : Int32)), (.ref b2), (.ref b2)])) rfl (hb hby at_10) _ ?_
    exact kt
  refine Go.adv sg5 ?_
  obtain ⟨cl_b2_13, Ar_b2_13, q_b2_13, S_b2_13, N_b2_13, H_b2_13, G_b2_13⟩ := V_b2_4
  have hin_b2_13 : ¬ ((1 : Int32) < 0 ∨ cl_b2_13.slots.size ≤ ((1 : Int32)).toNatClampNeg) := inb_of S_b2_13 ⟨by decide, by decide⟩
  obtain ⟨T6, h6, X6, e6, W6, st6⟩ := stJ X4 hx hZ e4 Ar_b2_13 (j := (1 : Int32)) hin_b2_13 (g := (mkF m 13 #[.val (.int p1), .val (.long j0), .second, .val (.long j1), .second, .val (.long j2), .second, .val (.long j3), .second, .unset, .unset, .unset, .unset, .unset, .unset, .unset, .unset, .unset, .unset, .unset, .unset, .unset, .unset, .unset, .unset, .unset, .unset, .unset, .unset, .unset, .unset, .unset, .unset, .unset, .unset, .unset, .unset, .unset] [(.long (2 : Int64)), (.int (1 : Int32)), (.ref b2), (.ref b2)])) rfl rfl (hb hby at_13)
  have V_b2_6 : Arv Z h6 b2 k2 .long (10 : Int32) [(.long (1 : Int64)), (.long (2 : Int64)), (.long (0 : Int64)), (.long (0 : Int64)), (.long (0 : Int64)), (.long (0 : Int64)), (.long (0 : Int64)), (.long (0 : Int64)), (.long (0 : Int64)), (.long (0 : Int64))] (.long (0 : Int64)) := Arv.set Ar_b2_13 q_b2_13 S_b2_13 N_b2_13 H_b2_13 G_b2_13 rfl W6 1 rfl (Nat.le_of_ble_eq_true rfl)
  have K6 : Keep h0 h6 [] := K4.wr W6 (Or.inr sz_b2)
  have Z6 : n0 ≤ h6.size := Nat.le_trans Z4 (Keep.of_wr W6).1
  have N6 := Fr.snoc X6 N4 g_b2
  refine Go.adv st6 ?_
  show Go p.tables e below s _ _ _ (T6.setTop (mkF m 14 #[.val (.int p1), .val (.long j0), .second, .val (.long j1), .second, .val (.long j2), .second, .val (.long j3), .second, .unset, .unset, .unset, .unset, .unset, .unset, .unset, .unset, .unset, .unset, .unset, .unset, .unset, .unset, .unset, .unset, .unset, .unset, .unset, .unset, .unset, .unset, .unset, .unset, .unset, .unset, .unset, .unset, .unset] [(.ref b2)]))
  have sg7 : ∀ t, Steps p.tables e below (T6.setTop (mkF m 19 #[.val (.int p1), .val (.long j0), .second, .val (.long j1), .second, .val (.long j2), .second, .val (.long j3), .second, .unset, .unset, .unset, .unset, .unset, .unset, .unset, .unset, .unset, .unset, .unset, .unset, .unset, .unset, .unset, .unset, .unset, .unset, .unset, .unset, .unset, .unset, .unset, .unset, .unset, .unset, .unset, .unset, .unset] [(.long (4 : Int64)), (.int (2 : Int32)), (.ref b2), (.ref b2)])) t → Steps p.tables e below (T6.setTop (mkF m 14 #[.val (.int p1), .val (.long j0), .second, .val (.long j1), .second, .val (.long j2), .second, .val (.long j3), .second, .unset, .unset, .unset, .unset, .unset, .unset, .unset, .unset, .unset, .unset, .unset, .unset, .unset, .unset, .unset, .unset, .unset, .unset, .unset, .unset, .unset, .unset, .unset, .unset, .unset, .unset, .unset, .unset, .unset] [(.ref b2)])) t := by
    intro t kt
    show Steps p.tables e below (T6.setTop (mkF m 14 #[.val (.int p1), .val (.long j0), .second, .val (.long j1), .second, .val (.long j2), .second, .val (.long j3), .second, .unset, .unset, .unset, .unset, .unset, .unset, .unset, .unset, .unset, .unset, .unset, .unset, .unset, .unset, .unset, .unset, .unset, .unset, .unset, .unset, .unset, .unset, .unset, .unset, .unset, .unset, .unset, .unset, .unset] [(.ref b2)])) _
    refine XS.dup X6.here hx rfl (hb hby at_14) rfl rfl ?_
    show Steps p.tables e below (T6.setTop (mkF m 15 #[.val (.int p1), .val (.long j0), .second, .val (.long j1), .second, .val (.long j2), .second, .val (.long j3), .second, .unset, .unset, .unset, .unset, .unset, .unset, .unset, .unset, .unset, .unset, .unset, .unset, .unset, .unset, .unset, .unset, .unset, .unset, .unset, .unset, .unset, .unset, .unset, .unset, .unset, .unset, .unset, .unset, .unset] [(.ref b2), (.ref b2)])) _
    refine XS.iconst X6.here hx rfl (hb hby at_15) ?_
    show Steps p.tables e below (T6.setTop (mkF m 16 #[.val (.int p1), .val (.long j0), .second, .val (.long j1), .second, .val (.long j2), .second, .val (.long j3), .second, .unset, .unset, .unset, .unset, .unset, .unset, .unset, .unset, .unset, .unset, .unset, .unset, .unset, .unset, .unset, .unset, .unset, .unset, .unset, .unset, .unset, .unset, .unset, .unset, .unset, .unset, .unset, .unset, .unset] [(.int (2 : Int32)), (.ref b2), (.ref b2)])) _
    refine X6.ldc2Long hx hown (mvT hZ (hw _ (List.mem_of_getElem? (i := 2) rfl))) (g := (mkF m 16 #[.val (.int p1), .val (.long j0), .second, .val (.long j1), .second, .val (.long j2), .second, .val (.long j3), .second, .unset, .unset, .unset, .unset, .unset, .unset, .unset, .unset, .unset, .unset, .unset, .unset, .unset, .unset, .unset, .unset, .unset, .unset, .unset, .unset, .unset, .unset, .unset, .unset, .unset, .unset, .unset, .unset, .unset] [(.int (2 : Int32)), (.ref b2), (.ref b2)])) rfl (hb hby at_16) _ ?_
    exact kt
  refine Go.adv sg7 ?_
  obtain ⟨cl_b2_19, Ar_b2_19, q_b2_19, S_b2_19, N_b2_19, H_b2_19, G_b2_19⟩ := V_b2_6
  have hin_b2_19 : ¬ ((2 : Int32) < 0 ∨ cl_b2_19.slots.size ≤ ((2 : Int32)).toNatClampNeg) := inb_of S_b2_19 ⟨by decide, by decide⟩
  obtain ⟨T8, h8, X8, e8, W8, st8⟩ := stJ X6 hx hZ e6 Ar_b2_19 (j := (2 : Int32)) hin_b2_19 (g := (mkF m 19 #[.val (.int p1), .val (.long j0), .second, .val (.long j1), .second, .val (.long j2), .second, .val (.long j3), .second, .unset, .unset, .unset, .unset, .unset, .unset, .unset, .unset, .unset, .unset, .unset, .unset, .unset, .unset, .unset, .unset, .unset, .unset, .unset, .unset, .unset, .unset, .unset, .unset, .unset, .unset, .unset, .unset, .unset] [(.long (4 : Int64)), (.int (2 : Int32)), (.ref b2), (.ref b2)])) rfl rfl (hb hby at_19)
  have V_b2_8 : Arv Z h8 b2 k2 .long (10 : Int32) [(.long (1 : Int64)), (.long (2 : Int64)), (.long (4 : Int64)), (.long (0 : Int64)), (.long (0 : Int64)), (.long (0 : Int64)), (.long (0 : Int64)), (.long (0 : Int64)), (.long (0 : Int64)), (.long (0 : Int64))] (.long (0 : Int64)) := Arv.set Ar_b2_19 q_b2_19 S_b2_19 N_b2_19 H_b2_19 G_b2_19 rfl W8 2 rfl (Nat.le_of_ble_eq_true rfl)
  have K8 : Keep h0 h8 [] := K6.wr W8 (Or.inr sz_b2)
  have Z8 : n0 ≤ h8.size := Nat.le_trans Z6 (Keep.of_wr W8).1
  have N8 := Fr.snoc X8 N6 g_b2
  refine Go.adv st8 ?_
  show Go p.tables e below s _ _ _ (T8.setTop (mkF m 20 #[.val (.int p1), .val (.long j0), .second, .val (.long j1), .second, .val (.long j2), .second, .val (.long j3), .second, .unset, .unset, .unset, .unset, .unset, .unset, .unset, .unset, .unset, .unset, .unset, .unset, .unset, .unset, .unset, .unset, .unset, .unset, .unset, .unset, .unset, .unset, .unset, .unset, .unset, .unset, .unset, .unset, .unset] [(.ref b2)]))
  have sg9 : ∀ t, Steps p.tables e below (T8.setTop (mkF m 25 #[.val (.int p1), .val (.long j0), .second, .val (.long j1), .second, .val (.long j2), .second, .val (.long j3), .second, .unset, .unset, .unset, .unset, .unset, .unset, .unset, .unset, .unset, .unset, .unset, .unset, .unset, .unset, .unset, .unset, .unset, .unset, .unset, .unset, .unset, .unset, .unset, .unset, .unset, .unset, .unset, .unset, .unset] [(.long (8 : Int64)), (.int (3 : Int32)), (.ref b2), (.ref b2)])) t → Steps p.tables e below (T8.setTop (mkF m 20 #[.val (.int p1), .val (.long j0), .second, .val (.long j1), .second, .val (.long j2), .second, .val (.long j3), .second, .unset, .unset, .unset, .unset, .unset, .unset, .unset, .unset, .unset, .unset, .unset, .unset, .unset, .unset, .unset, .unset, .unset, .unset, .unset, .unset, .unset, .unset, .unset, .unset, .unset, .unset, .unset, .unset, .unset] [(.ref b2)])) t := by
    intro t kt
    show Steps p.tables e below (T8.setTop (mkF m 20 #[.val (.int p1), .val (.long j0), .second, .val (.long j1), .second, .val (.long j2), .second, .val (.long j3), .second, .unset, .unset, .unset, .unset, .unset, .unset, .unset, .unset, .unset, .unset, .unset, .unset, .unset, .unset, .unset, .unset, .unset, .unset, .unset, .unset, .unset, .unset, .unset, .unset, .unset, .unset, .unset, .unset, .unset] [(.ref b2)])) _
    refine XS.dup X8.here hx rfl (hb hby at_20) rfl rfl ?_
    show Steps p.tables e below (T8.setTop (mkF m 21 #[.val (.int p1), .val (.long j0), .second, .val (.long j1), .second, .val (.long j2), .second, .val (.long j3), .second, .unset, .unset, .unset, .unset, .unset, .unset, .unset, .unset, .unset, .unset, .unset, .unset, .unset, .unset, .unset, .unset, .unset, .unset, .unset, .unset, .unset, .unset, .unset, .unset, .unset, .unset, .unset, .unset, .unset] [(.ref b2), (.ref b2)])) _
    refine XS.iconst X8.here hx rfl (hb hby at_21) ?_
    show Steps p.tables e below (T8.setTop (mkF m 22 #[.val (.int p1), .val (.long j0), .second, .val (.long j1), .second, .val (.long j2), .second, .val (.long j3), .second, .unset, .unset, .unset, .unset, .unset, .unset, .unset, .unset, .unset, .unset, .unset, .unset, .unset, .unset, .unset, .unset, .unset, .unset, .unset, .unset, .unset, .unset, .unset, .unset, .unset, .unset, .unset, .unset, .unset] [(.int (3 : Int32)), (.ref b2), (.ref b2)])) _
    refine X8.ldc2Long hx hown (mvT hZ (hw _ (List.mem_of_getElem? (i := 3) rfl))) (g := (mkF m 22 #[.val (.int p1), .val (.long j0), .second, .val (.long j1), .second, .val (.long j2), .second, .val (.long j3), .second, .unset, .unset, .unset, .unset, .unset, .unset, .unset, .unset, .unset, .unset, .unset, .unset, .unset, .unset, .unset, .unset, .unset, .unset, .unset, .unset, .unset, .unset, .unset, .unset, .unset, .unset, .unset, .unset, .unset] [(.int (3 : Int32)), (.ref b2), (.ref b2)])) rfl (hb hby at_22) _ ?_
    exact kt
  refine Go.adv sg9 ?_
  obtain ⟨cl_b2_25, Ar_b2_25, q_b2_25, S_b2_25, N_b2_25, H_b2_25, G_b2_25⟩ := V_b2_8
  have hin_b2_25 : ¬ ((3 : Int32) < 0 ∨ cl_b2_25.slots.size ≤ ((3 : Int32)).toNatClampNeg) := inb_of S_b2_25 ⟨by decide, by decide⟩
  obtain ⟨T10, h10, X10, e10, W10, st10⟩ := stJ X8 hx hZ e8 Ar_b2_25 (j := (3 : Int32)) hin_b2_25 (g := (mkF m 25 #[.val (.int p1), .val (.long j0), .second, .val (.long j1), .second, .val (.long j2), .second, .val (.long j3), .second, .unset, .unset, .unset, .unset, .unset, .unset, .unset, .unset, .unset, .unset, .unset, .unset, .unset, .unset, .unset, .unset, .unset, .unset, .unset, .unset, .unset, .unset, .unset, .unset, .unset, .unset, .unset, .unset, .unset] [(.long (8 : Int64)), (.int (3 : Int32)), (.ref b2), (.ref b2)])) rfl rfl (hb hby at_25)
  have V_b2_10 : Arv Z h10 b2 k2 .long (10 : Int32) [(.long (1 : Int64)), (.long (2 : Int64)), (.long (4 : Int64)), (.long (8 : Int64)), (.long (0 : Int64)), (.long (0 : Int64)), (.long (0 : Int64)), (.long (0 : Int64)), (.long (0 : Int64)), (.long (0 : Int64))] (.long (0 : Int64)) := Arv.set Ar_b2_25 q_b2_25 S_b2_25 N_b2_25 H_b2_25 G_b2_25 rfl W10 3 rfl (Nat.le_of_ble_eq_true rfl)
  have K10 : Keep h0 h10 [] := K8.wr W10 (Or.inr sz_b2)
  have Z10 : n0 ≤ h10.size := Nat.le_trans Z8 (Keep.of_wr W10).1
  have N10 := Fr.snoc X10 N8 g_b2
  refine Go.adv st10 ?_
  show Go p.tables e below s _ _ _ (T10.setTop (mkF m 26 #[.val (.int p1), .val (.long j0), .second, .val (.long j1), .second, .val (.long j2), .second, .val (.long j3), .second, .unset, .unset, .unset, .unset, .unset, .unset, .unset, .unset, .unset, .unset, .unset, .unset, .unset, .unset, .unset, .unset, .unset, .unset, .unset, .unset, .unset, .unset, .unset, .unset, .unset, .unset, .unset, .unset, .unset] [(.ref b2)]))
  have sg11 : ∀ t, Steps p.tables e below (T10.setTop (mkF m 31 #[.val (.int p1), .val (.long j0), .second, .val (.long j1), .second, .val (.long j2), .second, .val (.long j3), .second, .unset, .unset, .unset, .unset, .unset, .unset, .unset, .unset, .unset, .unset, .unset, .unset, .unset, .unset, .unset, .unset, .unset, .unset, .unset, .unset, .unset, .unset, .unset, .unset, .unset, .unset, .unset, .unset, .unset] [(.long (16 : Int64)), (.int (4 : Int32)), (.ref b2), (.ref b2)])) t → Steps p.tables e below (T10.setTop (mkF m 26 #[.val (.int p1), .val (.long j0), .second, .val (.long j1), .second, .val (.long j2), .second, .val (.long j3), .second, .unset, .unset, .unset, .unset, .unset, .unset, .unset, .unset, .unset, .unset, .unset, .unset, .unset, .unset, .unset, .unset, .unset, .unset, .unset, .unset, .unset, .unset, .unset, .unset, .unset, .unset, .unset, .unset, .unset] [(.ref b2)])) t := by
    intro t kt
    show Steps p.tables e below (T10.setTop (mkF m 26 #[.val (.int p1), .val (.long j0), .second, .val (.long j1), .second, .val (.long j2), .second, .val (.long j3), .second, .unset, .unset, .unset, .unset, .unset, .unset, .unset, .unset, .unset, .unset, .unset, .unset, .unset, .unset, .unset, .unset, .unset, .unset, .unset, .unset, .unset, .unset, .unset, .unset, .unset, .unset, .unset, .unset, .unset] [(.ref b2)])) _
    refine XS.dup X10.here hx rfl (hb hby at_26) rfl rfl ?_
    show Steps p.tables e below (T10.setTop (mkF m 27 #[.val (.int p1), .val (.long j0), .second, .val (.long j1), .second, .val (.long j2), .second, .val (.long j3), .second, .unset, .unset, .unset, .unset, .unset, .unset, .unset, .unset, .unset, .unset, .unset, .unset, .unset, .unset, .unset, .unset, .unset, .unset, .unset, .unset, .unset, .unset, .unset, .unset, .unset, .unset, .unset, .unset, .unset] [(.ref b2), (.ref b2)])) _
    refine XS.iconst X10.here hx rfl (hb hby at_27) ?_
    show Steps p.tables e below (T10.setTop (mkF m 28 #[.val (.int p1), .val (.long j0), .second, .val (.long j1), .second, .val (.long j2), .second, .val (.long j3), .second, .unset, .unset, .unset, .unset, .unset, .unset, .unset, .unset, .unset, .unset, .unset, .unset, .unset, .unset, .unset, .unset, .unset, .unset, .unset, .unset, .unset, .unset, .unset, .unset, .unset, .unset, .unset, .unset, .unset] [(.int (4 : Int32)), (.ref b2), (.ref b2)])) _
    refine X10.ldc2Long hx hown (mvT hZ (hw _ (List.mem_of_getElem? (i := 4) rfl))) (g := (mkF m 28 #[.val (.int p1), .val (.long j0), .second, .val (.long j1), .second, .val (.long j2), .second, .val (.long j3), .second, .unset, .unset, .unset, .unset, .unset, .unset, .unset, .unset, .unset, .unset, .unset, .unset, .unset, .unset, .unset, .unset, .unset, .unset, .unset, .unset, .unset, .unset, .unset, .unset, .unset, .unset, .unset, .unset, .unset] [(.int (4 : Int32)), (.ref b2), (.ref b2)])) rfl (hb hby at_28) _ ?_
    exact kt
  refine Go.adv sg11 ?_
  obtain ⟨cl_b2_31, Ar_b2_31, q_b2_31, S_b2_31, N_b2_31, H_b2_31, G_b2_31⟩ := V_b2_10
  have hin_b2_31 : ¬ ((4 : Int32) < 0 ∨ cl_b2_31.slots.size ≤ ((4 : Int32)).toNatClampNeg) := inb_of S_b2_31 ⟨by decide, by decide⟩
  obtain ⟨T12, h12, X12, e12, W12, st12⟩ := stJ X10 hx hZ e10 Ar_b2_31 (j := (4 : Int32)) hin_b2_31 (g := (mkF m 31 #[.val (.int p1), .val (.long j0), .second, .val (.long j1), .second, .val (.long j2), .second, .val (.long j3), .second, .unset, .unset, .unset, .unset, .unset, .unset, .unset, .unset, .unset, .unset, .unset, .unset, .unset, .unset, .unset, .unset, .unset, .unset, .unset, .unset, .unset, .unset, .unset, .unset, .unset, .unset, .unset, .unset, .unset] [(.long (16 : Int64)), (.int (4 : Int32)), (.ref b2), (.ref b2)])) rfl rfl (hb hby at_31)
  have V_b2_12 : Arv Z h12 b2 k2 .long (10 : Int32) [(.long (1 : Int64)), (.long (2 : Int64)), (.long (4 : Int64)), (.long (8 : Int64)), (.long (16 : Int64)), (.long (0 : Int64)), (.long (0 : Int64)), (.long (0 : Int64)), (.long (0 : Int64)), (.long (0 : Int64))] (.long (0 : Int64)) := Arv.set Ar_b2_31 q_b2_31 S_b2_31 N_b2_31 H_b2_31 G_b2_31 rfl W12 4 rfl (Nat.le_of_ble_eq_true rfl)
  have K12 : Keep h0 h12 [] := K10.wr W12 (Or.inr sz_b2)
  have Z12 : n0 ≤ h12.size := Nat.le_trans Z10 (Keep.of_wr W12).1
  have N12 := Fr.snoc X12 N10 g_b2
  refine Go.adv st12 ?_
  show Go p.tables e below s _ _ _ (T12.setTop (mkF m 32 #[.val (.int p1), .val (.long j0), .second, .val (.long j1), .second, .val (.long j2), .second, .val (.long j3), .second, .unset, .unset, .unset, .unset, .unset, .unset, .unset, .unset, .unset, .unset, .unset, .unset, .unset, .unset, .unset, .unset, .unset, .unset, .unset, .unset, .unset, .unset, .unset, .unset, .unset, .unset, .unset, .unset, .unset] [(.ref b2)]))
  have sg13 : ∀ t, Steps p.tables e below (T12.setTop (mkF m 37 #[.val (.int p1), .val (.long j0), .second, .val (.long j1), .second, .val (.long j2), .second, .val (.long j3), .second, .unset, .unset, .unset, .unset, .unset, .unset, .unset, .unset, .unset, .unset, .unset, .unset, .unset, .unset, .unset, .unset, .unset, .unset, .unset, .unset, .unset, .unset, .unset, .unset, .unset, .unset, .unset, .unset, .unset] [(.long (32 : Int64)), (.int (5 : Int32)), (.ref b2), (.ref b2)])) t → Steps p.tables e below (T12.setTop (mkF m 32 #[.val (.int p1), .val (.long j0), .second, .val (.long j1), .second, .val (.long j2), .second, .val (.long j3), .second, .unset, .unset, .unset, .unset, .unset, .unset, .unset, .unset, .unset, .unset, .unset, .unset, .unset, .unset, .unset, .unset, .unset, .unset, .unset, .unset, .unset, .unset, .unset, .unset, .unset, .unset, .unset, .unset, .unset] [(.ref b2)])) t := by
    intro t kt
    show Steps p.tables e below (T12.setTop (mkF m 32 #[.val (.int p1), .val (.long j0), .second, .val (.long j1), .second, .val (.long j2), .second, .val (.long j3), .second, .unset, .unset, .unset, .unset, .unset, .unset, .unset, .unset, .unset, .unset, .unset, .unset, .unset, .unset, .unset, .unset, .unset, .unset, .unset, .unset, .unset, .unset, .unset, .unset, .unset, .unset, .unset, .unset, .unset] [(.ref b2)])) _
    refine XS.dup X12.here hx rfl (hb hby at_32) rfl rfl ?_
    show Steps p.tables e below (T12.setTop (mkF m 33 #[.val (.int p1), .val (.long j0), .second, .val (.long j1), .second, .val (.long j2), .second, .val (.long j3), .second, .unset, .unset, .unset, .unset, .unset, .unset, .unset, .unset, .unset, .unset, .unset, .unset, .unset, .unset, .unset, .unset, .unset, .unset, .unset, .unset, .unset, .unset, .unset, .unset, .unset, .unset, .unset, .unset, .unset] [(.ref b2), (.ref b2)])) _
    refine XS.iconst X12.here hx rfl (hb hby at_33) ?_
    show Steps p.tables e below (T12.setTop (mkF m 34 #[.val (.int p1), .val (.long j0), .second, .val (.long j1), .second, .val (.long j2), .second, .val (.long j3), .second, .unset, .unset, .unset, .unset, .unset, .unset, .unset, .unset, .unset, .unset, .unset, .unset, .unset, .unset, .unset, .unset, .unset, .unset, .unset, .unset, .unset, .unset, .unset, .unset, .unset, .unset, .unset, .unset, .unset] [(.int (5 : Int32)), (.ref b2), (.ref b2)])) _
    refine X12.ldc2Long hx hown (mvT hZ (hw _ (List.mem_of_getElem? (i := 5) rfl))) (g := (mkF m 34 #[.val (.int p1), .val (.long j0), .second, .val (.long j1), .second, .val (.long j2), .second, .val (.long j3), .second, .unset, .unset, .unset, .unset, .unset, .unset, .unset, .unset, .unset, .unset, .unset, .unset, .unset, .unset, .unset, .unset, .unset, .unset, .unset, .unset, .unset, .unset, .unset, .unset, .unset, .unset, .unset, .unset, .unset] [(.int (5 : Int32)), (.ref b2), (.ref b2)])) rfl (hb hby at_34) _ ?_
    exact kt
  refine Go.adv sg13 ?_
  obtain ⟨cl_b2_37, Ar_b2_37, q_b2_37, S_b2_37, N_b2_37, H_b2_37, G_b2_37⟩ := V_b2_12
  have hin_b2_37 : ¬ ((5 : Int32) < 0 ∨ cl_b2_37.slots.size ≤ ((5 : Int32)).toNatClampNeg) := inb_of S_b2_37 ⟨by decide, by decide⟩
  obtain ⟨T14, h14, X14, e14, W14, st14⟩ := stJ X12 hx hZ e12 Ar_b2_37 (j := (5 : Int32)) hin_b2_37 (g := (mkF m 37 #[.val (.int p1), .val (.long j0), .second, .val (.long j1), .second, .val (.long j2), .second, .val (.long j3), .second, .unset, .unset, .unset, .unset, .unset, .unset, .unset, .unset, .unset, .unset, .unset, .unset, .unset, .unset, .unset, .unset, .unset, .unset, .unset, .unset, .unset, .unset, .unset, .unset, .unset, .unset, .unset, .unset, .unset] [(.long (32 : Int64)), (.int (5 : Int32)), (.ref b2), (.ref b2)])) rfl rfl (hb hby at_37)
  have V_b2_14 : Arv Z h14 b2 k2 .long (10 : Int32) [(.long (1 : Int64)), (.long (2 : Int64)), (.long (4 : Int64)), (.long (8 : Int64)), (.long (16 : Int64)), (.long (32 : Int64)), (.long (0 : Int64)), (.long (0 : Int64)), (.long (0 : Int64)), (.long (0 : Int64))] (.long (0 : Int64)) := Arv.set Ar_b2_37 q_b2_37 S_b2_37 N_b2_37 H_b2_37 G_b2_37 rfl W14 5 rfl (Nat.le_of_ble_eq_true rfl)
  have K14 : Keep h0 h14 [] := K12.wr W14 (Or.inr sz_b2)
  have Z14 : n0 ≤ h14.size := Nat.le_trans Z12 (Keep.of_wr W14).1
  have N14 := Fr.snoc X14 N12 g_b2
  refine Go.adv st14 ?_
  show Go p.tables e below s _ _ _ (T14.setTop (mkF m 38 #[.val (.int p1), .val (.long j0), .second, .val (.long j1), .second, .val (.long j2), .second, .val (.long j3), .second, .unset, .unset, .unset, .unset, .unset, .unset, .unset, .unset, .unset, .unset, .unset, .unset, .unset, .unset, .unset, .unset, .unset, .unset, .unset, .unset, .unset, .unset, .unset, .unset, .unset, .unset, .unset, .unset, .unset] [(.ref b2)]))
  have sg15 : ∀ t, Steps p.tables e below (T14.setTop (mkF m 44 #[.val (.int p1), .val (.long j0), .second, .val (.long j1), .second, .val (.long j2), .second, .val (.long j3), .second, .unset, .unset, .unset, .unset, .unset, .unset, .unset, .unset, .unset, .unset, .unset, .unset, .unset, .unset, .unset, .unset, .unset, .unset, .unset, .unset, .unset, .unset, .unset, .unset, .unset, .unset, .unset, .unset, .unset] [(.long (64 : Int64)), (.int (6 : Int32)), (.ref b2), (.ref b2)])) t → Steps p.tables e below (T14.setTop (mkF m 38 #[.val (.int p1), .val (.long j0), .second, .val (.long j1), .second, .val (.long j2), .second, .val (.long j3), .second, .unset, .unset, .unset, .unset, .unset, .unset, .unset, .unset, .unset, .unset, .unset, .unset, .unset, .unset, .unset, .unset, .unset, .unset, .unset, .unset, .unset, .unset, .unset, .unset, .unset, .unset, .unset, .unset, .unset] [(.ref b2)])) t := by
    intro t kt
    show Steps p.tables e below (T14.setTop (mkF m 38 #[.val (.int p1), .val (.long j0), .second, .val (.long j1), .second, .val (.long j2), .second, .val (.long j3), .second, .unset, .unset, .unset, .unset, .unset, .unset, .unset, .unset, .unset, .unset, .unset, .unset, .unset, .unset, .unset, .unset, .unset, .unset, .unset, .unset, .unset, .unset, .unset, .unset, .unset, .unset, .unset, .unset, .unset] [(.ref b2)])) _
    refine XS.dup X14.here hx rfl (hb hby at_38) rfl rfl ?_
    show Steps p.tables e below (T14.setTop (mkF m 39 #[.val (.int p1), .val (.long j0), .second, .val (.long j1), .second, .val (.long j2), .second, .val (.long j3), .second, .unset, .unset, .unset, .unset, .unset, .unset, .unset, .unset, .unset, .unset, .unset, .unset, .unset, .unset, .unset, .unset, .unset, .unset, .unset, .unset, .unset, .unset, .unset, .unset, .unset, .unset, .unset, .unset, .unset] [(.ref b2), (.ref b2)])) _
    refine XS.bipush X14.here hx rfl (hb hby at_39) ?_
    show Steps p.tables e below (T14.setTop (mkF m 41 #[.val (.int p1), .val (.long j0), .second, .val (.long j1), .second, .val (.long j2), .second, .val (.long j3), .second, .unset, .unset, .unset, .unset, .unset, .unset, .unset, .unset, .unset, .unset, .unset, .unset, .unset, .unset, .unset, .unset, .unset, .unset, .unset, .unset, .unset, .unset, .unset, .unset, .unset, .unset, .unset, .unset, .unset] [(.int (6 : Int32)), (.ref b2), (.ref b2)])) _
    refine X14.ldc2Long hx hown (mvT hZ (hw _ (List.mem_of_getElem? (i := 6) rfl))) (g := (mkF m 41 #[.val (.int p1), .val (.long j0), .second, .val (.long j1), .second, .val (.long j2), .second, .val (.long j3), .second, .unset, .unset, .unset, .unset, .unset, .unset, .unset, .unset, .unset, .unset, .unset, .unset, .unset, .unset, .unset, .unset, .unset, .unset, .unset, .unset, .unset, .unset, .unset, .unset, .unset, .unset, .unset, .unset, .unset] [(.int (6 : Int32)), (.ref b2), (.ref b2)])) rfl (hb hby at_41) _ ?_
    exact kt
  refine Go.adv sg15 ?_
  obtain ⟨cl_b2_44, Ar_b2_44, q_b2_44, S_b2_44, N_b2_44, H_b2_44, G_b2_44⟩ := V_b2_14
  have hin_b2_44 : ¬ ((6 : Int32) < 0 ∨ cl_b2_44.slots.size ≤ ((6 : Int32)).toNatClampNeg) := inb_of S_b2_44 ⟨by decide, by decide⟩
  obtain ⟨T16, h16, X16, e16, W16, st16⟩ := stJ X14 hx hZ e14 Ar_b2_44 (j := (6 : Int32)) hin_b2_44 (g := (mkF m 44 #[.val (.int p1), .val (.long j0), .second, .val (.long j1), .second, .val (.long j2), .second, .val (.long j3), .second, .unset, .unset, .unset, .unset, .unset, .unset, .unset, .unset, .unset, .unset, .unset, .unset, .unset, .unset, .unset, .unset, .unset, .unset, .unset, .unset, .unset, .unset, .unset, .unset, .unset, .unset, .unset, .unset, .unset] [(.long (64 : Int64)), (.int (6 : Int32)), (.ref b2), (.ref b2)])) rfl rfl (hb hby at_44)
  have V_b2_16 : Arv Z h16 b2 k2 .long (10 : Int32) [(.long (1 : Int64)), (.long (2 : Int64)), (.long (4 : Int64)), (.long (8 : Int64)), (.long (16 : Int64)), (.long (32 : Int64)), (.long (64 : Int64)), (.long (0 : Int64)), (.long (0 : Int64)), (.long (0 : Int64))] (.long (0 : Int64)) := Arv.set Ar_b2_44 q_b2_44 S_b2_44 N_b2_44 H_b2_44 G_b2_44 rfl W16 6 rfl (Nat.le_of_ble_eq_true rfl)
  have K16 : Keep h0 h16 [] := K14.wr W16 (Or.inr sz_b2)
  have Z16 : n0 ≤ h16.size := Nat.le_trans Z14 (Keep.of_wr W16).1
  have N16 := Fr.snoc X16 N14 g_b2
  refine Go.adv st16 ?_
  show Go p.tables e below s _ _ _ (T16.setTop (mkF m 45 #[.val (.int p1), .val (.long j0), .second, .val (.long j1), .second, .val (.long j2), .second, .val (.long j3), .second, .unset, .unset, .unset, .unset, .unset, .unset, .unset, .unset, .unset, .unset, .unset, .unset, .unset, .unset, .unset, .unset, .unset, .unset, .unset, .unset, .unset, .unset, .unset, .unset, .unset, .unset, .unset, .unset, .unset] [(.ref b2)]))
  have sg17 : ∀ t, Steps p.tables e below (T16.setTop (mkF m 51 #[.val (.int p1), .val (.long j0), .second, .val (.long j1), .second, .val (.long j2), .second, .val (.long j3), .second, .unset, .unset, .unset, .unset, .unset, .unset, .unset, .unset, .unset, .unset, .unset, .unset, .unset, .unset, .unset, .unset, .unset, .unset, .unset, .unset, .unset, .unset, .unset, .unset, .unset, .unset, .unset, .unset, .unset] [(.long (128 : Int64)), (.int (7 : Int32)), (.ref b2), (.ref b2)])) t → Steps p.tables e below (T16.setTop (mkF m 45 #[.val (.int p1), .val (.long j0), .second, .val (.long j1), .second, .val (.long j2), .second, .val (.long j3), .second, .unset, .unset, .unset, .unset, .unset, .unset, .unset, .unset, .unset, .unset, .unset, .unset, .unset, .unset, .unset, .unset, .unset, .unset, .unset, .unset, .unset, .unset, .unset, .unset, .unset, .unset, .unset, .unset, .unset] [(.ref b2)])) t := by
    intro t kt
    show Steps p.tables e below (T16.setTop (mkF m 45 #[.val (.int p1), .val (.long j0), .second, .val (.long j1), .second, .val (.long j2), .second, .val (.long j3), .second, .unset, .unset, .unset, .unset, .unset, .unset, .unset, .unset, .unset, .unset, .unset, .unset, .unset, .unset, .unset, .unset, .unset, .unset, .unset, .unset, .unset, .unset, .unset, .unset, .unset, .unset, .unset, .unset, .unset] [(.ref b2)])) _
    refine XS.dup X16.here hx rfl (hb hby at_45) rfl rfl ?_
    show Steps p.tables e below (T16.setTop (mkF m 46 #[.val (.int p1), .val (.long j0), .second, .val (.long j1), .second, .val (.long j2), .second, .val (.long j3), .second, .unset, .unset, .unset, .unset, .unset, .unset, .unset, .unset, .unset, .unset, .unset, .unset, .unset, .unset, .unset, .unset, .unset, .unset, .unset, .unset, .unset, .unset, .unset, .unset, .unset, .unset, .unset, .unset, .unset] [(.ref b2), (.ref b2)])) _
    refine XS.bipush X16.here hx rfl (hb hby at_46) ?_
    show Steps p.tables e below (T16.setTop (mkF m 48 #[.val (.int p1), .val (.long j0), .second, .val (.long j1), .second, .val (.long j2), .second, .val (.long j3), .second, .unset, .unset, .unset, .unset, .unset, .unset, .unset, .unset, .unset, .unset, .unset, .unset, .unset, .unset, .unset, .unset, .unset, .unset, .unset, .unset, .unset, .unset, .unset, .unset, .unset, .unset, .unset, .unset, .unset] [(.int (7 : Int32)), (.ref b2), (.ref b2)])) _
    refine X16.ldc2Long hx hown (mvT hZ (hw _ (List.mem_of_getElem? (i := 7) rfl))) (g := (mkF m 48 #[.val (.int p1), .val (.long j0), .second, .val (.long j1), .second, .val (.long j2), .second, .val (.long j3), .second, .unset, .unset, .unset, .unset, .unset, .unset, .unset, .unset, .unset, .unset, .unset, .unset, .unset, .unset, .unset, .unset, .unset, .unset, .unset, .unset, .unset, .unset, .unset, .unset, .unset, .unset, .unset, .unset, .unset] [(.int (7 : Int32)), (.ref b2), (.ref b2)])) rfl (hb hby at_48) _ ?_
    exact kt
  refine Go.adv sg17 ?_
  obtain ⟨cl_b2_51, Ar_b2_51, q_b2_51, S_b2_51, N_b2_51, H_b2_51, G_b2_51⟩ := V_b2_16
  have hin_b2_51 : ¬ ((7 : Int32) < 0 ∨ cl_b2_51.slots.size ≤ ((7 : Int32)).toNatClampNeg) := inb_of S_b2_51 ⟨by decide, by decide⟩
  obtain ⟨T18, h18, X18, e18, W18, st18⟩ := stJ X16 hx hZ e16 Ar_b2_51 (j := (7 : Int32)) hin_b2_51 (g := (mkF m 51 #[.val (.int p1), .val (.long j0), .second, .val (.long j1), .second, .val (.long j2), .second, .val (.long j3), .second, .unset, .unset, .unset, .unset, .unset, .unset, .unset, .unset, .unset, .unset, .unset, .unset, .unset, .unset, .unset, .unset, .unset, .unset, .unset, .unset, .unset, .unset, .unset, .unset, .unset, .unset, .unset, .unset, .unset] [(.long (128 : Int64)), (.int (7 : Int32)), (.ref b2), (.ref b2)])) rfl rfl (hb hby at_51)
  have V_b2_18 : Arv Z h18 b2 k2 .long (10 : Int32) [(.long (1 : Int64)), (.long (2 : Int64)), (.long (4 : Int64)), (.long (8 : Int64)), (.long (16 : Int64)), (.long (32 : Int64)), (.long (64 : Int64)), (.long (128 : Int64)), (.long (0 : Int64)), (.long (0 : Int64))] (.long (0 : Int64)) := Arv.set Ar_b2_51 q_b2_51 S_b2_51 N_b2_51 H_b2_51 G_b2_51 rfl W18 7 rfl (Nat.le_of_ble_eq_true rfl)
  have K18 : Keep h0 h18 [] := K16.wr W18 (Or.inr sz_b2)
  have Z18 : n0 ≤ h18.size := Nat.le_trans Z16 (Keep.of_wr W18).1
  have N18 := Fr.snoc X18 N16 g_b2
  refine Go.adv st18 ?_
  show Go p.tables e below s _ _ _ (T18.setTop (mkF m 52 #[.val (.int p1), .val (.long j0), .second, .val (.long j1), .second, .val (.long j2), .second, .val (.long j3), .second, .unset, .unset, .unset, .unset, .unset, .unset, .unset, .unset, .unset, .unset, .unset, .unset, .unset, .unset, .unset, .unset, .unset, .unset, .unset, .unset, .unset, .unset, .unset, .unset, .unset, .unset, .unset, .unset, .unset] [(.ref b2)]))
  have sg19 : ∀ t, Steps p.tables e below (T18.setTop (mkF m 58 #[.val (.int p1), .val (.long j0), .second, .val (.long j1), .second, .val (.long j2), .second, .val (.long j3), .second, .unset, .unset, .unset, .unset, .unset, .unset, .unset, .unset, .unset, .unset, .unset, .unset, .unset, .unset, .unset, .unset, .unset, .unset, .unset, .unset, .unset, .unset, .unset, .unset, .unset, .unset, .unset, .unset, .unset] [(.long (256 : Int64)), (.int (8 : Int32)), (.ref b2), (.ref b2)])) t → Steps p.tables e below (T18.setTop (mkF m 52 #[.val (.int p1), .val (.long j0), .second, .val (.long j1), .second, .val (.long j2), .second, .val (.long j3), .second, .unset, .unset, .unset, .unset, .unset, .unset, .unset, .unset, .unset, .unset, .unset, .unset, .unset, .unset, .unset, .unset, .unset, .unset, .unset, .unset, .unset, .unset, .unset, .unset, .unset, .unset, .unset, .unset, .unset] [(.ref b2)])) t := by
    intro t kt
    show Steps p.tables e below (T18.setTop (mkF m 52 #[.val (.int p1), .val (.long j0), .second, .val (.long j1), .second, .val (.long j2), .second, .val (.long j3), .second, .unset, .unset, .unset, .unset, .unset, .unset, .unset, .unset, .unset, .unset, .unset, .unset, .unset, .unset, .unset, .unset, .unset, .unset, .unset, .unset, .unset, .unset, .unset, .unset, .unset, .unset, .unset, .unset, .unset] [(.ref b2)])) _
    refine XS.dup X18.here hx rfl (hb hby at_52) rfl rfl ?_
    show Steps p.tables e below (T18.setTop (mkF m 53 #[.val (.int p1), .val (.long j0), .second, .val (.long j1), .second, .val (.long j2), .second, .val (.long j3), .second, .unset, .unset, .unset, .unset, .unset, .unset, .unset, .unset, .unset, .unset, .unset, .unset, .unset, .unset, .unset, .unset, .unset, .unset, .unset, .unset, .unset, .unset, .unset, .unset, .unset, .unset, .unset, .unset, .unset] [(.ref b2), (.ref b2)])) _
    refine XS.bipush X18.here hx rfl (hb hby at_53) ?_
    show Steps p.tables e below (T18.setTop (mkF m 55 #[.val (.int p1), .val (.long j0), .second, .val (.long j1), .second, .val (.long j2), .second, .val (.long j3), .second, .unset, .unset, .unset, .unset, .unset, .unset, .unset, .unset, .unset, .unset, .unset, .unset, .unset, .unset, .unset, .unset, .unset, .unset, .unset, .unset, .unset, .unset, .unset, .unset, .unset, .unset, .unset, .unset, .unset] [(.int (8 : Int32)), (.ref b2), (.ref b2)])) _
    refine X18.ldc2Long hx hown (mvT hZ (hw _ (List.mem_of_getElem? (i := 8) rfl))) (g := (mkF m 55 #[.val (.int p1), .val (.long j0), .second, .val (.long j1), .second, .val (.long j2), .second, .val (.long j3), .second, .unset, .unset, .unset, .unset, .unset, .unset, .unset, .unset, .unset, .unset, .unset, .unset, .unset, .unset, .unset, .unset, .unset, .unset, .unset, .unset, .unset, .unset, .unset, .unset, .unset, .unset, .unset, .unset, .unset] [(.int (8 : Int32)), (.ref b2), (.ref b2)])) rfl (hb hby at_55) _ ?_
    exact kt
  refine Go.adv sg19 ?_
  obtain ⟨cl_b2_58, Ar_b2_58, q_b2_58, S_b2_58, N_b2_58, H_b2_58, G_b2_58⟩ := V_b2_18
  have hin_b2_58 : ¬ ((8 : Int32) < 0 ∨ cl_b2_58.slots.size ≤ ((8 : Int32)).toNatClampNeg) := inb_of S_b2_58 ⟨by decide, by decide⟩
  obtain ⟨T20, h20, X20, e20, W20, st20⟩ := stJ X18 hx hZ e18 Ar_b2_58 (j := (8 : Int32)) hin_b2_58 (g := (mkF m 58 #[.val (.int p1), .val (.long j0), .second, .val (.long j1), .second, .val (.long j2), .second, .val (.long j3), .second, .unset, .unset, .unset, .unset, .unset, .unset, .unset, .unset, .unset, .unset, .unset, .unset, .unset, .unset, .unset, .unset, .unset, .unset, .unset, .unset, .unset, .unset, .unset, .unset, .unset, .unset, .unset, .unset, .unset] [(.long (256 : Int64)), (.int (8 : Int32)), (.ref b2), (.ref b2)])) rfl rfl (hb hby at_58)
  have V_b2_20 : Arv Z h20 b2 k2 .long (10 : Int32) [(.long (1 : Int64)), (.long (2 : Int64)), (.long (4 : Int64)), (.long (8 : Int64)), (.long (16 : Int64)), (.long (32 : Int64)), (.long (64 : Int64)), (.long (128 : Int64)), (.long (256 : Int64)), (.long (0 : Int64))] (.long (0 : Int64)) := Arv.set Ar_b2_58 q_b2_58 S_b2_58 N_b2_58 H_b2_58 G_b2_58 rfl W20 8 rfl (Nat.le_of_ble_eq_true rfl)
  have K20 : Keep h0 h20 [] := K18.wr W20 (Or.inr sz_b2)
  have Z20 : n0 ≤ h20.size := Nat.le_trans Z18 (Keep.of_wr W20).1
  have N20 := Fr.snoc X20 N18 g_b2
  refine Go.adv st20 ?_
  show Go p.tables e below s _ _ _ (T20.setTop (mkF m 59 #[.val (.int p1), .val (.long j0), .second, .val (.long j1), .second, .val (.long j2), .second, .val (.long j3), .second, .unset, .unset, .unset, .unset, .unset, .unset, .unset, .unset, .unset, .unset, .unset, .unset, .unset, .unset, .unset, .unset, .unset, .unset, .unset, .unset, .unset, .unset, .unset, .unset, .unset, .unset, .unset, .unset, .unset] [(.ref b2)]))
  have sg21 : ∀ t, Steps p.tables e below (T20.setTop (mkF m 65 #[.val (.int p1), .val (.long j0), .second, .val (.long j1), .second, .val (.long j2), .second, .val (.long j3), .second, .unset, .unset, .unset, .unset, .unset, .unset, .unset, .unset, .unset, .unset, .unset, .unset, .unset, .unset, .unset, .unset, .unset, .unset, .unset, .unset, .unset, .unset, .unset, .unset, .unset, .unset, .unset, .unset, .unset] [(.long (512 : Int64)), (.int (9 : Int32)), (.ref b2), (.ref b2)])) t → Steps p.tables e below (T20.setTop (mkF m 59 #[.val (.int p1), .val (.long j0), .second, .val (.long j1), .second, .val (.long j2), .second, .val (.long j3), .second, .unset, .unset, .unset, .unset, .unset, .unset, .unset, .unset, .unset, .unset, .unset, .unset, .unset, .unset, .unset, .unset, .unset, .unset, .unset, .unset, .unset, .unset, .unset, .unset, .unset, .unset, .unset, .unset, .unset] [(.ref b2)])) t := by
    intro t kt
    show Steps p.tables e below (T20.setTop (mkF m 59 #[.val (.int p1), .val (.long j0), .second, .val (.long j1), .second, .val (.long j2), .second, .val (.long j3), .second, .unset, .unset, .unset, .unset, .unset, .unset, .unset, .unset, .unset, .unset, .unset, .unset, .unset, .unset, .unset, .unset, .unset, .unset, .unset, .unset, .unset, .unset, .unset, .unset, .unset, .unset, .unset, .unset, .unset] [(.ref b2)])) _
    refine XS.dup X20.here hx rfl (hb hby at_59) rfl rfl ?_
    show Steps p.tables e below (T20.setTop (mkF m 60 #[.val (.int p1), .val (.long j0), .second, .val (.long j1), .second, .val (.long j2), .second, .val (.long j3), .second, .unset, .unset, .unset, .unset, .unset, .unset, .unset, .unset, .unset, .unset, .unset, .unset, .unset, .unset, .unset, .unset, .unset, .unset, .unset, .unset, .unset, .unset, .unset, .unset, .unset, .unset, .unset, .unset, .unset] [(.ref b2), (.ref b2)])) _
    refine XS.bipush X20.here hx rfl (hb hby at_60) ?_
    show Steps p.tables e below (T20.setTop (mkF m 62 #[.val (.int p1), .val (.long j0), .second, .val (.long j1), .second, .val (.long j2), .second, .val (.long j3), .second, .unset, .unset, .unset, .unset, .unset, .unset, .unset, .unset, .unset, .unset, .unset, .unset, .unset, .unset, .unset, .unset, .unset, .unset, .unset, .unset, .unset, .unset, .unset, .unset, .unset, .unset, .unset, .unset, .unset] [(.int (9 : Int32)), (.ref b2), (.ref b2)])) _
    refine X20.ldc2Long hx hown (mvT hZ (hw _ (List.mem_of_getElem? (i := 9) rfl))) (g := (mkF m 62 #[.val (.int p1), .val (.long j0), .second, .val (.long j1), .second, .val (.long j2), .second, .val (.long j3), .second, .unset, .unset, .unset, .unset, .unset, .unset, .unset, .unset, .unset, .unset, .unset, .unset, .unset, .unset, .unset, .unset, .unset, .unset, .unset, .unset, .unset, .unset, .unset, .unset, .unset, .unset, .unset, .unset, .unset] [(.int (9 : Int32)), (.ref b2), (.ref b2)])) rfl (hb hby at_62) _ ?_
    exact kt
  refine Go.adv sg21 ?_
  obtain ⟨cl_b2_65, Ar_b2_65, q_b2_65, S_b2_65, N_b2_65, H_b2_65, G_b2_65⟩ := V_b2_20
  have hin_b2_65 : ¬ ((9 : Int32) < 0 ∨ cl_b2_65.slots.size ≤ ((9 : Int32)).toNatClampNeg) := inb_of S_b2_65 ⟨by decide, by decide⟩
  obtain ⟨T22, h22, X22, e22, W22, st22⟩ := stJ X20 hx hZ e20 Ar_b2_65 (j := (9 : Int32)) hin_b2_65 (g := (mkF m 65 #[.val (.int p1), .val (.long j0), .second, .val (.long j1), .second, .val (.long j2), .second, .val (.long j3), .second, .unset, .unset, .unset, .unset, .unset, .unset, .unset, .unset, .unset, .unset, .unset, .unset, .unset, .unset, .unset, .unset, .unset, .unset, .unset, .unset, .unset, .unset, .unset, .unset, .unset, .unset, .unset, .unset, .unset] [(.long (512 : Int64)), (.int (9 : Int32)), (.ref b2), (.ref b2)])) rfl rfl (hb hby at_65)
  have V_b2_22 : Arv Z h22 b2 k2 .long (10 : Int32) [(.long (1 : Int64)), (.long (2 : Int64)), (.long (4 : Int64)), (.long (8 : Int64)), (.long (16 : Int64)), (.long (32 : Int64)), (.long (64 : Int64)), (.long (128 : Int64)), (.long (256 : Int64)), (.long (512 : Int64))] (.long (0 : Int64)) := Arv.set Ar_b2_65 q_b2_65 S_b2_65 N_b2_65 H_b2_65 G_b2_65 rfl W22 9 rfl (Nat.le_of_ble_eq_true rfl)
  have K22 : Keep h0 h22 [] := K20.wr W22 (Or.inr sz_b2)
  have Z22 : n0 ≤ h22.size := Nat.le_trans Z20 (Keep.of_wr W22).1
  have N22 := Fr.snoc X22 N20 g_b2
  refine Go.adv st22 ?_
  show Go p.tables e below s _ _ _ (T22.setTop (mkF m 66 #[.val (.int p1), .val (.long j0), .second, .val (.long j1), .second, .val (.long j2), .second, .val (.long j3), .second, .unset, .unset, .unset, .unset, .unset, .unset, .unset, .unset, .unset, .unset, .unset, .unset, .unset, .unset, .unset, .unset, .unset, .unset, .unset, .unset, .unset, .unset, .unset, .unset, .unset, .unset, .unset, .unset, .unset] [(.ref b2)]))
  have sg23 : ∀ t, Steps p.tables e below (T22.setTop (mkF m 70 #[.val (.int p1), .val (.long j0), .second, .val (.long j1), .second, .val (.long j2), .second, .val (.long j3), .second, .val (.ref b2), .unset, .unset, .unset, .unset, .unset, .unset, .unset, .unset, .unset, .unset, .unset, .unset, .unset, .unset, .unset, .unset, .unset, .unset, .unset, .unset, .unset, .unset, .unset, .unset, .unset, .unset, .unset, .unset] [(.int (10 : Int32))])) t → Steps p.tables e below (T22.setTop (mkF m 66 #[.val (.int p1), .val (.long j0), .second, .val (.long j1), .second, .val (.long j2), .second, .val (.long j3), .second, .unset, .unset, .unset, .unset, .unset, .unset, .unset, .unset, .unset, .unset, .unset, .unset, .unset, .unset, .unset, .unset, .unset, .unset, .unset, .unset, .unset, .unset, .unset, .unset, .unset, .unset, .unset, .unset, .unset] [(.ref b2)])) t := by
    intro t kt
    show Steps p.tables e below (T22.setTop (mkF m 66 #[.val (.int p1), .val (.long j0), .second, .val (.long j1), .second, .val (.long j2), .second, .val (.long j3), .second, .unset, .unset, .unset, .unset, .unset, .unset, .unset, .unset, .unset, .unset, .unset, .unset, .unset, .unset, .unset, .unset, .unset, .unset, .unset, .unset, .unset, .unset, .unset, .unset, .unset, .unset, .unset, .unset, .unset] [(.ref b2)])) _
    refine XS.astore X22.here hx rfl (hb hby at_66) rfl rfl (l' := #[.val (.int p1), .val (.long j0), .second, .val (.long j1), .second, .val (.long j2), .second, .val (.long j3), .second, .val (.ref b2), .unset, .unset, .unset, .unset, .unset, .unset, .unset, .unset, .unset, .unset, .unset, .unset, .unset, .unset, .unset, .unset, .unset, .unset, .unset, .unset, .unset, .unset, .unset, .unset, .unset, .unset, .unset, .unset]) rfl ?_
    show Steps p.tables e below (T22.setTop (mkF m 68 #[.val (.int p1), .val (.long j0), .second, .val (.long j1), .second, .val (.long j2), .second, .val (.long j3), .second, .val (.ref b2), .unset, .unset, .unset, .unset, .unset, .unset, .unset, .unset, .unset, .unset, .unset, .unset, .unset, .unset, .unset, .unset, .unset, .unset, .unset, .unset, .unset, .unset, .unset, .unset, .unset, .unset, .unset, .unset] [])) _
    refine XS.bipush X22.here hx rfl (hb hby at_68) ?_
    exact kt
  refine Go.adv sg23 ?_
  obtain ⟨T24, h24, k24, X24, e24, E24, A24, st24⟩ := newP X22 hx hZ (hw _ (List.mem_of_getElem? (i := 0) rfl)) e22 (g := (mkF m 70 #[.val (.int p1), .val (.long j0), .second, .val (.long j1), .second, .val (.long j2), .second, .val (.long j3), .second, .val (.ref b2), .unset, .unset, .unset, .unset, .unset, .unset, .unset, .unset, .unset, .unset, .unset, .unset, .unset, .unset, .unset, .unset, .unset, .unset, .unset, .unset, .unset, .unset, .unset, .unset, .unset, .unset, .unset, .unset] [(.int (10 : Int32))])) rfl (hb hby at_70) rfl (by decide) (cap := 10) (by decide) (by decide) (by decide) (by decide)
  obtain ⟨b24, gb24⟩ : ∃ z, z = h22.size := ⟨_, rfl⟩
  rw [← gb24] at A24 st24
  have g_b24 : n0 ≤ b24 := Nat.le_trans Z22 (Nat.le_of_eq gb24.symm)
  have sz_b24 : h0.size ≤ b24 := Nat.le_trans K22.1 (Nat.le_of_eq gb24.symm)
  have ne_b2_b24 : b2 ≠ b24 := Nat.ne_of_lt (Nat.lt_of_lt_of_le V_b2_22.lt (Nat.le_of_eq gb24.symm))
  have K24 : Keep h0 h24 [] := K22.ext E24
  have Z24 : n0 ≤ h24.size := Nat.le_trans Z22 E24.1
  have V_b24 : Arv Z h24 b24 k24 .long (10 : Int32) [(.long (0 : Int64)), (.long (0 : Int64)), (.long (0 : Int64)), (.long (0 : Int64)), (.long (0 : Int64)), (.long (0 : Int64)), (.long (0 : Int64)), (.long (0 : Int64)), (.long (0 : Int64)), (.long (0 : Int64))] (.long (0 : Int64)) := (Arv.new A24 (by decide)).pad (pad_rep [] (.long (0 : Int64)) 10)
  refine Go.adv st24 ?_
  show Go p.tables e below s _ _ _ (T24.setTop (mkF m 72 #[.val (.int p1), .val (.long j0), .second, .val (.long j1), .second, .val (.long j2), .second, .val (.long j3), .second, .val (.ref b2), .unset, .unset, .unset, .unset, .unset, .unset, .unset, .unset, .unset, .unset, .unset, .unset, .unset, .unset, .unset, .unset, .unset, .unset, .unset, .unset, .unset, .unset, .unset, .unset, .unset, .unset, .unset, .unset] [(.ref b24)]))
  have sg25 : ∀ t, Steps p.tables e below (T24.setTop (mkF m 75 #[.val (.int p1), .val (.long j0), .second, .val (.long j1), .second, .val (.long j2), .second, .val (.long j3), .second, .val (.ref b2), .unset, .unset, .unset, .unset, .unset, .unset, .unset, .unset, .unset, .unset, .unset, .unset, .unset, .unset, .unset, .unset, .unset, .unset, .unset, .unset, .unset, .unset, .unset, .unset, .unset, .unset, .unset, .unset] [(.long (1 : Int64)), (.int (0 : Int32)), (.ref b24), (.ref b24)])) t → Steps p.tables e below (T24.setTop (mkF m 72 #[.val (.int p1), .val (.long j0), .second, .val (.long j1), .second, .val (.long j2), .second, .val (.long j3), .second, .val (.ref b2), .unset, .unset, .unset, .unset, .unset, .unset, .unset, .unset, .unset, .unset, .unset, .unset, .unset, .unset, .unset, .unset, .unset, .unset, .unset, .unset, .unset, .unset, .unset, .unset, .unset, .unset, .unset, .unset] [(.ref b24)])) t := by
    intro t kt
    show Steps p.tables e below (T24.setTop (mkF m 72 #[.val (.int p1), .val (.long j0), .second, .val (.long j1), .second, .val (.long j2), .second, .val (.long j3), .second, .val (.ref b2), .unset, .unset, .unset, .unset, .unset, .unset, .unset, .unset, .unset, .unset, .unset, .unset, .unset, .unset, .unset, .unset, .unset, .unset, .unset, .unset, .unset, .unset, .unset, .unset, .unset, .unset, .unset, .unset] [(.ref b24)])) _
    refine XS.dup X24.here hx rfl (hb hby at_72) rfl rfl ?_
    show Steps p.tables e below (T24.setTop (mkF m 73 #[.val (.int p1), .val (.long j0), .second, .val (.long j1), .second, .val (.long j2), .second, .val (.long j3), .second, .val (.ref b2), .unset, .unset, .unset, .unset, .unset, .unset, .unset, .unset, .unset, .unset, .unset, .unset, .unset, .unset, .unset, .unset, .unset, .unset, .unset, .unset, .unset, .unset, .unset, .unset, .unset, .unset, .unset, .unset] [(.ref b24), (.ref b24)])) _
    refine XS.iconst X24.here hx rfl (hb hby at_73) ?_
    show Steps p.tables e below (T24.setTop (mkF m 74 #[.val (.int p1), .val (.long j0), .second, .val (.long j1), .second, .val (.long j2), .second, .val (.long j3), .second, .val (.ref b2), .unset, .unset, .unset, .unset, .unset, .unset, .unset, .unset, .unset, .unset, .unset, .unset, .unset, .unset, .unset, .unset, .unset, .unset, .unset, .unset, .unset, .unset, .unset, .unset, .unset, .unset, .unset, .unset] [(.int (0 : Int32)), (.ref b24), (.ref b24)])) _
    refine XS.lconst X24.here hx rfl (hb hby at_74) ?_
    exact kt
  refine Go.adv sg25 ?_
  obtain ⟨cl_b24_75, Ar_b24_75, q_b24_75, S_b24_75, N_b24_75, H_b24_75, G_b24_75⟩ := V_b24
  have hin_b24_75 : ¬ ((0 : Int32) < 0 ∨ cl_b24_75.slots.size ≤ ((0 : Int32)).toNatClampNeg) := inb_of S_b24_75 ⟨by decide, by decide⟩
  obtain ⟨T26, h26, X26, e26, W26, st26⟩ := stJ X24 hx hZ e24 Ar_b24_75 (j := (0 : Int32)) hin_b24_75 (g := (mkF m 75 #[.val (.int p1), .val (.long j0), .second, .val (.long j1), .second, .val (.long j2), .second, .val (.long j3), .second, .val (.ref b2), .unset, .unset, .unset, .unset, .unset, .unset, .unset, .unset, .unset, .unset, .unset, .unset, .unset, .unset, .unset, .unset, .unset, .unset, .unset, .unset, .unset, .unset, .unset, .unset, .unset, .unset, .unset, .unset] [(.long (1 : Int64)), (.int (0 : Int32)), (.ref b24), (.ref b24)])) rfl rfl (hb hby at_75)
  have V_b24_26 : Arv Z h26 b24 k24 .long (10 : Int32) [(.long (1 : Int64)), (.long (0 : Int64)), (.long (0 : Int64)), (.long (0 : Int64)), (.long (0 : Int64)), (.long (0 : Int64)), (.long (0 : Int64)), (.long (0 : Int64)), (.long (0 : Int64)), (.long (0 : Int64))] (.long (0 : Int64)) := Arv.set Ar_b24_75 q_b24_75 S_b24_75 N_b24_75 H_b24_75 G_b24_75 rfl W26 0 rfl (Nat.le_of_ble_eq_true rfl)
  have K26 : Keep h0 h26 [] := K24.wr W26 (Or.inr sz_b24)
  have Z26 : n0 ≤ h26.size := Nat.le_trans Z24 (Keep.of_wr W26).1
  have N26 := Fr.snoc X26 N22 g_b24
  refine Go.adv st26 ?_
  show Go p.tables e below s _ _ _ (T26.setTop (mkF m 76 #[.val (.int p1), .val (.long j0), .second, .val (.long j1), .second, .val (.long j2), .second, .val (.long j3), .second, .val (.ref b2), .unset, .unset, .unset, .unset, .unset, .unset, .unset, .unset, .unset, .unset, .unset, .unset, .unset, .unset, .unset, .unset, .unset, .unset, .unset, .unset, .unset, .unset, .unset, .unset, .unset, .unset, .unset, .unset] [(.ref b24)]))
  have sg27 : ∀ t, Steps p.tables e below (T26.setTop (mkF m 81 #[.val (.int p1), .val (.long j0), .second, .val (.long j1), .second, .val (.long j2), .second, .val (.long j3), .second, .val (.ref b2), .unset, .unset, .unset, .unset, .unset, .unset, .unset, .unset, .unset, .unset, .unset, .unset, .unset, .unset, .unset, .unset, .unset, .unset, .unset, .unset, .unset, .unset, .unset, .unset, .unset, .unset, .unset, .unset] [(.long (5 : Int64)), (.int (1 : Int32)), (.ref b24), (.ref b24)])) t → Steps p.tables e below (T26.setTop (mkF m 76 #[.val (.int p1), .val (.long j0), .second, .val (.long j1), .second, .val (.long j2), .second, .val (.long j3), .second, .val (.ref b2), .unset, .unset, .unset, .unset, .unset, .unset, .unset, .unset, .unset, .unset, .unset, .unset, .unset, .unset, .unset, .unset, .unset, .unset, .unset, .unset, .unset, .unset, .unset, .unset, .unset, .unset, .unset, .unset] [(.ref b24)])) t := by
    intro t kt
    show Steps p.tables e below (T26.setTop (mkF m 76 #[.val (.int p1), .val (.long j0), .second, .val (.long j1), .second, .val (.long j2), .second, .val (.long j3), .second, .val (.ref b2), .unset, .unset, .unset, .unset, .unset, .unset, .unset, .unset, .unset, .unset, .unset, .unset, .unset, .unset, .unset, .unset, .unset, .unset, .unset, .unset, .unset, .unset, .unset, .unset, .unset, .unset, .unset, .unset] [(.ref b24)])) _
    refine XS.dup X26.here hx rfl (hb hby at_76) rfl rfl ?_
    show Steps p.tables e below (T26.setTop (mkF m 77 #[.val (.int p1), .val (.long j0), .second, .val (.long j1), .second, .val (.long j2), .second, .val (.long j3), .second, .val (.ref b2), .unset, .unset, .unset, .unset, .unset, .unset, .unset, .unset, .unset, .unset, .unset, .unset, .unset, .unset, .unset, .unset, .unset, .unset, .unset, .unset, .unset, .unset, .unset, .unset, .unset, .unset, .unset, .unset] [(.ref b24), (.ref b24)])) _
    refine XS.iconst X26.here hx rfl (hb hby at_77) ?_
    show Steps p.tables e below (T26.setTop (mkF m 78 #[.val (.int p1), .val (.long j0), .second, .val (.long j1), .second, .val (.long j2), .second, .val (.long j3), .second, .val (.ref b2), .unset, .unset, .unset, .unset, .unset, .unset, .unset, .unset, .unset, .unset, .unset, .unset, .unset, .unset, .unset, .unset, .unset, .unset, .unset, .unset, .unset, .unset, .unset, .unset, .unset, .unset, .unset, .unset] [(.int (1 : Int32)), (.ref b24), (.ref b24)])) _
    refine X26.ldc2Long hx hown (mvT hZ (hw _ (List.mem_of_getElem? (i := 10) rfl))) (g := (mkF m 78 #[.val (.int p1), .val (.long j0), .second, .val (.long j1), .second, .val (.long j2), .second, .val (.long j3), .second, .val (.ref b2), .unset, .unset, .unset, .unset, .unset, .unset, .unset, .unset, .unset, .unset, .unset, .unset, .unset, .unset, .unset, .unset, .unset, .unset, .unset, .unset, .unset, .unset, .unset, .unset, .unset, .unset, .unset, .unset] [(.int (1 : Int32)), (.ref b24), (.ref b24)])) rfl (hb hby at_78) _ ?_
    exact kt
  refine Go.adv sg27 ?_
  obtain ⟨cl_b24_81, Ar_b24_81, q_b24_81, S_b24_81, N_b24_81, H_b24_81, G_b24_81⟩ := V_b24_26
  have hin_b24_81 : ¬ ((1 : Int32) < 0 ∨ cl_b24_81.slots.size ≤ ((1 : Int32)).toNatClampNeg) := inb_of S_b24_81 ⟨by decide, by decide⟩
  obtain ⟨T28, h28, X28, e28, W28, st28⟩ := stJ X26 hx hZ e26 Ar_b24_81 (j := (1 : Int32)) hin_b24_81 (g := (mkF m 81 #[.val (.int p1), .val (.long j0), .second, .val (.long j1), .second, .val (.long j2), .second, .val (.long j3), .second, .val (.ref b2), .unset, .unset, .unset, .unset, .unset, .unset, .unset, .unset, .unset, .unset, .unset, .unset, .unset, .unset, .unset, .unset, .unset, .unset, .unset, .unset, .unset, .unset, .unset, .unset, .unset, .unset, .unset, .unset] [(.long (5 : Int64)), (.int (1 : Int32)), (.ref b24), (.ref b24)])) rfl rfl (hb hby at_81)
  have V_b24_28 : Arv Z h28 b24 k24 .long (10 : Int32) [(.long (1 : Int64)), (.long (5 : Int64)), (.long (0 : Int64)), (.long (0 : Int64)), (.long (0 : Int64)), (.long (0 : Int64)), (.long (0 : Int64)), (.long (0 : Int64)), (.long (0 : Int64)), (.long (0 : Int64))] (.long (0 : Int64)) := Arv.set Ar_b24_81 q_b24_81 S_b24_81 N_b24_81 H_b24_81 G_b24_81 rfl W28 1 rfl (Nat.le_of_ble_eq_true rfl)
  have K28 : Keep h0 h28 [] := K26.wr W28 (Or.inr sz_b24)
  have Z28 : n0 ≤ h28.size := Nat.le_trans Z26 (Keep.of_wr W28).1
  have N28 := Fr.snoc X28 N26 g_b24
  refine Go.adv st28 ?_
  show Go p.tables e below s _ _ _ (T28.setTop (mkF m 82 #[.val (.int p1), .val (.long j0), .second, .val (.long j1), .second, .val (.long j2), .second, .val (.long j3), .second, .val (.ref b2), .unset, .unset, .unset, .unset, .unset, .unset, .unset, .unset, .unset, .unset, .unset, .unset, .unset, .unset, .unset, .unset, .unset, .unset, .unset, .unset, .unset, .unset, .unset, .unset, .unset, .unset, .unset, .unset] [(.ref b24)]))
  have sg29 : ∀ t, Steps p.tables e below (T28.setTop (mkF m 87 #[.val (.int p1), .val (.long j0), .second, .val (.long j1), .second, .val (.long j2), .second, .val (.long j3), .second, .val (.ref b2), .unset, .unset, .unset, .unset, .unset, .unset, .unset, .unset, .unset, .unset, .unset, .unset, .unset, .unset, .unset, .unset, .unset, .unset, .unset, .unset, .unset, .unset, .unset, .unset, .unset, .unset, .unset, .unset] [(.long (25 : Int64)), (.int (2 : Int32)), (.ref b24), (.ref b24)])) t → Steps p.tables e below (T28.setTop (mkF m 82 #[.val (.int p1), .val (.long j0), .second, .val (.long j1), .second, .val (.long j2), .second, .val (.long j3), .second, .val (.ref b2), .unset, .unset, .unset, .unset, .unset, .unset, .unset, .unset, .unset, .unset, .unset, .unset, .unset, .unset, .unset, .unset, .unset, .unset, .unset, .unset, .unset, .unset, .unset, .unset, .unset, .unset, .unset, .unset] [(.ref b24)])) t := by
    intro t kt
    show Steps p.tables e below (T28.setTop (mkF m 82 #[.val (.int p1), .val (.long j0), .second, .val (.long j1), .second, .val (.long j2), .second, .val (.long j3), .second, .val (.ref b2), .unset, .unset, .unset, .unset, .unset, .unset, .unset, .unset, .unset, .unset, .unset, .unset, .unset, .unset, .unset, .unset, .unset, .unset, .unset, .unset, .unset, .unset, .unset, .unset, .unset, .unset, .unset, .unset] [(.ref b24)])) _
    refine XS.dup X28.here hx rfl (hb hby at_82) rfl rfl ?_
    show Steps p.tables e below (T28.setTop (mkF m 83 #[.val (.int p1), .val (.long j0), .second, .val (.long j1), .second, .val (.long j2), .second, .val (.long j3), .second, .val (.ref b2), .unset, .unset, .unset, .unset, .unset, .unset, .unset, .unset, .unset, .unset, .unset, .unset, .unset, .unset, .unset, .unset, .unset, .unset, .unset, .unset, .unset, .unset, .unset, .unset, .unset, .unset, .unset, .unset] [(.ref b24), (.ref b24)])) _
    refine XS.iconst X28.here hx rfl (hb hby at_83) ?_
    show Steps p.tables e below (T28.setTop (mkF m 84 #[.val (.int p1), .val (.long j0), .second, .val (.long j1), .second, .val (.long j2), .second, .val (.long j3), .second, .val (.ref b2), .unset, .unset, .unset, .unset, .unset, .unset, .unset, .unset, .unset, .unset, .unset, .unset, .unset, .unset, .unset, .unset, .unset, .unset, .unset, .unset, .unset, .unset, .unset, .unset, .unset, .unset, .unset, .unset] [(.int (2 : Int32)), (.ref b24), (.ref b24)])) _
    refine X28.ldc2Long hx hown (mvT hZ (hw _ (List.mem_of_getElem? (i := 11) rfl))) (g := (mkF m 84 #[.val (.int p1), .val (.long j0), .second, .val (.long j1), .second, .val (.long j2), .second, .val (.long j3), .second, .val (.ref b2), .unset, .unset, .unset, .unset, .unset, .unset, .unset, .unset, .unset, .unset, .unset, .unset, .unset, .unset, .unset, .unset, .unset, .unset, .unset, .unset, .unset, .unset, .unset, .unset, .unset, .unset, .unset, .unset] [(.int (2 : Int32)), (.ref b24), (.ref b24)])) rfl (hb hby at_84) _ ?_
    exact kt
  refine Go.adv sg29 ?_
  obtain ⟨cl_b24_87, Ar_b24_87, q_b24_87, S_b24_87, N_b24_87, H_b24_87, G_b24_87⟩ := V_b24_28
  have hin_b24_87 : ¬ ((2 : Int32) < 0 ∨ cl_b24_87.slots.size ≤ ((2 : Int32)).toNatClampNeg) := inb_of S_b24_87 ⟨by decide, by decide⟩
  obtain ⟨T30, h30, X30, e30, W30, st30⟩ := stJ X28 hx hZ e28 Ar_b24_87 (j := (2 : Int32)) hin_b24_87 (g := (mkF m 87 #[.val (.int p1), .val (.long j0), .second, .val (.long j1), .second, .val (.long j2), .second, .val (.long j3), .second, .val (.ref b2), .unset, .unset, .unset, .unset, .unset, .unset, .unset, .unset, .unset, .unset, .unset, .unset, .unset, .unset, .unset, .unset, .unset, .unset, .unset, .unset, .unset, .unset, .unset, .unset, .unset, .unset, .unset, .unset] [(.long (25 : Int64)), (.int (2 : Int32)), (.ref b24), (.ref b24)])) rfl rfl (hb hby at_87)
  have V_b24_30 : Arv Z h30 b24 k24 .long (10 : Int32) [(.long (1 : Int64)), (.long (5 : Int64)), (.long (25 : Int64)), (.long (0 : Int64)), (.long (0 : Int64)), (.long (0 : Int64)), (.long (0 : Int64)), (.long (0 : Int64)), (.long (0 : Int64)), (.long (0 : Int64))] (.long (0 : Int64)) := Arv.set Ar_b24_87 q_b24_87 S_b24_87 N_b24_87 H_b24_87 G_b24_87 rfl W30 2 rfl (Nat.le_of_ble_eq_true rfl)
  have K30 : Keep h0 h30 [] := K28.wr W30 (Or.inr sz_b24)
  have Z30 : n0 ≤ h30.size := Nat.le_trans Z28 (Keep.of_wr W30).1
  have N30 := Fr.snoc X30 N28 g_b24
  refine Go.adv st30 ?_
  show Go p.tables e below s _ _ _ (T30.setTop (mkF m 88 #[.val (.int p1), .val (.long j0), .second, .val (.long j1), .second, .val (.long j2), .second, .val (.long j3), .second, .val (.ref b2), .unset, .unset, .unset, .unset, .unset, .unset, .unset, .unset, .unset, .unset, .unset, .unset, .unset, .unset, .unset, .unset, .unset, .unset, .unset, .unset, .unset, .unset, .unset, .unset, .unset, .unset, .unset, .unset] [(.ref b24)]))
  have sg31 : ∀ t, Steps p.tables e below (T30.setTop (mkF m 93 #[.val (.int p1), .val (.long j0), .second, .val (.long j1), .second, .val (.long j2), .second, .val (.long j3), .second, .val (.ref b2), .unset, .unset, .unset, .unset, .unset, .unset, .unset, .unset, .unset, .unset, .unset, .unset, .unset, .unset, .unset, .unset, .unset, .unset, .unset, .unset, .unset, .unset, .unset, .unset, .unset, .unset, .unset, .unset] [(.long (125 : Int64)), (.int (3 : Int32)), (.ref b24), (.ref b24)])) t → Steps p.tables e below (T30.setTop (mkF m 88 #[.val (.int p1), .val (.long j0), .second, .val (.long j1), .second, .val (.long j2), .second, .val (.long j3), .second, .val (.ref b2), .unset, .unset, .unset, .unset, .unset, .unset, .unset, .unset, .unset, .unset, .unset, .unset, .unset, .unset, .unset, .unset, .unset, .unset, .unset, .unset, .unset, .unset, .unset, .unset, .unset, .unset, .unset, .unset] [(.ref b24)])) t := by
    intro t kt
    show Steps p.tables e below (T30.setTop (mkF m 88 #[.val (.int p1), .val (.long j0), .second, .val (.long j1), .second, .val (.long j2), .second, .val (.long j3), .second, .val (.ref b2), .unset, .unset, .unset, .unset, .unset, .unset, .unset, .unset, .unset, .unset, .unset, .unset, .unset, .unset, .unset, .unset, .unset, .unset, .unset, .unset, .unset, .unset, .unset, .unset, .unset, .unset, .unset, .unset] [(.ref b24)])) _
    refine XS.dup X30.here hx rfl (hb hby at_88) rfl rfl ?_
    show Steps p.tables e below (T30.setTop (mkF m 89 #[.val (.int p1), .val (.long j0), .second, .val (.long j1), .second, .val (.long j2), .second, .val (.long j3), .second, .val (.ref b2), .unset, .unset, .unset, .unset, .unset, .unset, .unset, .unset, .unset, .unset, .unset, .unset, .unset, .unset, .unset, .unset, .unset, .unset, .unset, .unset, .unset, .unset, .unset, .unset, .unset, .unset, .unset, .unset] [(.ref b24), (.ref b24)])) _
    refine XS.iconst X30.here hx rfl (hb hby at_89) ?_
    show Steps p.tables e below (T30.setTop (mkF m 90 #[.val (.int p1), .val (.long j0), .second, .val (.long j1), .second, .val (.long j2), .second, .val (.long j3), .second, .val (.ref b2), .unset, .unset, .unset, .unset, .unset, .unset, .unset, .unset, .unset, .unset, .unset, .unset, .unset, .unset, .unset, .unset, .unset, .unset, .unset, .unset, .unset, .unset, .unset, .unset, .unset, .unset, .unset, .unset] [(.int (3 : Int32)), (.ref b24), (.ref b24)])) _
    refine X30.ldc2Long hx hown (mvT hZ (hw _ (List.mem_of_getElem? (i := 12) rfl))) (g := (mkF m 90 #[.val (.int p1), .val (.long j0), .second, .val (.long j1), .second, .val (.long j2), .second, .val (.long j3), .second, .val (.ref b2), .unset, .unset, .unset, .unset, .unset, .unset, .unset, .unset, .unset, .unset, .unset, .unset, .unset, .unset, .unset, .unset, .unset, .unset, .unset, .unset, .unset, .unset, .unset, .unset, .unset, .unset, .unset, .unset] [(.int (3 : Int32)), (.ref b24), (.ref b24)])) rfl (hb hby at_90) _ ?_
    exact kt
  refine Go.adv sg31 ?_
  obtain ⟨cl_b24_93, Ar_b24_93, q_b24_93, S_b24_93, N_b24_93, H_b24_93, G_b24_93⟩ := V_b24_30
  have hin_b24_93 : ¬ ((3 : Int32) < 0 ∨ cl_b24_93.slots.size ≤ ((3 : Int32)).toNatClampNeg) := inb_of S_b24_93 ⟨by decide, by decide⟩
  obtain ⟨T32, h32, X32, e32, W32, st32⟩ := stJ X30 hx hZ e30 Ar_b24_93 (j := (3 : Int32)) hin_b24_93 (g := (mkF m 93 #[.val (.int p1), .val (.long j0), .second, .val (.long j1), .second, .val (.long j2), .second, .val (.long j3), .second, .val (.ref b2), .unset, .unset, .unset, .unset, .unset, .unset, .unset, .unset, .unset, .unset, .unset, .unset, .unset, .unset, .unset, .unset, .unset, .unset, .unset, .unset, .unset, .unset, .unset, .unset, .unset, .unset, .unset, .unset] [(.long (125 : Int64)), (.int (3 : Int32)), (.ref b24), (.ref b24)])) rfl rfl (hb hby at_93)
  have V_b24_32 : Arv Z h32 b24 k24 .long (10 : Int32) [(.long (1 : Int64)), (.long (5 : Int64)), (.long (25 : Int64)), (.long (125 : Int64)), (.long (0 : Int64)), (.long (0 : Int64)), (.long (0 : Int64)), (.long (0 : Int64)), (.long (0 : Int64)), (.long (0 : Int64))] (.long (0 : Int64)) := Arv.set Ar_b24_93 q_b24_93 S_b24_93 N_b24_93 H_b24_93 G_b24_93 rfl W32 3 rfl (Nat.le_of_ble_eq_true rfl)
  have K32 : Keep h0 h32 [] := K30.wr W32 (Or.inr sz_b24)
  have Z32 : n0 ≤ h32.size := Nat.le_trans Z30 (Keep.of_wr W32).1
  have N32 := Fr.snoc X32 N30 g_b24
  refine Go.adv st32 ?_
  show Go p.tables e below s _ _ _ (T32.setTop (mkF m 94 #[.val (.int p1), .val (.long j0), .second, .val (.long j1), .second, .val (.long j2), .second, .val (.long j3), .second, .val (.ref b2), .unset, .unset, .unset, .unset, .unset, .unset, .unset, .unset, .unset, .unset, .unset, .unset, .unset, .unset, .unset, .unset, .unset, .unset, .unset, .unset, .unset, .unset, .unset, .unset, .unset, .unset, .unset, .unset] [(.ref b24)]))
  have sg33 : ∀ t, Steps p.tables e below (T32.setTop (mkF m 99 #[.val (.int p1), .val (.long j0), .second, .val (.long j1), .second, .val (.long j2), .second, .val (.long j3), .second, .val (.ref b2), .unset, .unset, .unset, .unset, .unset, .unset, .unset, .unset, .unset, .unset, .unset, .unset, .unset, .unset, .unset, .unset, .unset, .unset, .unset, .unset, .unset, .unset, .unset, .unset, .unset, .unset, .unset, .unset] [(.long (625 : Int64)), (.int (4 : Int32)), (.ref b24), (.ref b24)])) t → Steps p.tables e below (T32.setTop (mkF m 94 #[.val (.int p1), .val (.long j0), .second, .val (.long j1), .second, .val (.long j2), .second, .val (.long j3), .second, .val (.ref b2), .unset, .unset, .unset, .unset, .unset, .unset, .unset, .unset, .unset, .unset, .unset, .unset, .unset, .unset, .unset, .unset, .unset, .unset, .unset, .unset, .unset, .unset, .unset, .unset, .unset, .unset, .unset, .unset] [(.ref b24)])) t := by
    intro t kt
    show Steps p.tables e below (T32.setTop (mkF m 94 #[.val (.int p1), .val (.long j0), .second, .val (.long j1), .second, .val (.long j2), .second, .val (.long j3), .second, .val (.ref b2), .unset, .unset, .unset, .unset, .unset, .unset, .unset, .unset, .unset, .unset, .unset, .unset, .unset, .unset, .unset, .unset, .unset, .unset, .unset, .unset, .unset, .unset, .unset, .unset, .unset, .unset, .unset, .unset] [(.ref b24)])) _
    refine XS.dup X32.here hx rfl (hb hby at_94) rfl rfl ?_
    show Steps p.tables e below (T32.setTop (mkF m 95 #[.val (.int p1), .val (.long j0), .second, .val (.long j1), .second, .val (.long j2), .second, .val (.long j3), .second, .val (.ref b2), .unset, .unset, .unset, .unset, .unset, .unset, .unset, .unset, .unset, .unset, .unset, .unset, .unset, .unset, .unset, .unset, .unset, .unset, .unset, .unset, .unset, .unset, .unset, .unset, .unset, .unset, .unset, .unset] [(.ref b24), (.ref b24)])) _
    refine XS.iconst X32.here hx rfl (hb hby at_95) ?_
    show Steps p.tables e below (T32.setTop (mkF m 96 #[.val (.int p1), .val (.long j0), .second, .val (.long j1), .second, .val (.long j2), .second, .val (.long j3), .second, .val (.ref b2), .unset, .unset, .unset, .unset, .unset, .unset, .unset, .unset, .unset, .unset, .unset, .unset, .unset, .unset, .unset, .unset, .unset, .unset, .unset, .unset, .unset, .unset, .unset, .unset, .unset, .unset, .unset, .unset] [(.int (4 : Int32)), (.ref b24), (.ref b24)])) _
    refine X32.ldc2Long hx hown (mvT hZ (hw _ (List.mem_of_getElem? (i := 13) rfl))) (g := (mkF m 96 #[.val (.int p1), .val (.long j0), .second, .val (.long j1), .second, .val (.long j2), .second, .val (.long j3), .second, .val (.ref b2), .unset, .unset, .unset, .unset, .unset, .unset, .unset, .unset, .unset, .unset, .unset, .unset, .unset, .unset, .unset, .unset, .unset, .unset, .unset, .unset, .unset, .unset, .unset, .unset, .unset, .unset, .unset, .unset] [(.int (4 : Int32)), (.ref b24), (.ref b24)])) rfl (hb hby at_96) _ ?_
    exact kt
  refine Go.adv sg33 ?_
  obtain ⟨cl_b24_99, Ar_b24_99, q_b24_99, S_b24_99, N_b24_99, H_b24_99, G_b24_99⟩ := V_b24_32
  have hin_b24_99 : ¬ ((4 : Int32) < 0 ∨ cl_b24_99.slots.size ≤ ((4 : Int32)).toNatClampNeg) := inb_of S_b24_99 ⟨by decide, by decide⟩
  obtain ⟨T34, h34, X34, e34, W34, st34⟩ := stJ X32 hx hZ e32 Ar_b24_99 (j := (4 : Int32)) hin_b24_99 (g := (mkF m 99 #[.val (.int p1), .val (.long j0), .second, .val (.long j1), .second, .val (.long j2), .second, .val (.long j3), .second, .val (.ref b2), .unset, .unset, .unset, .unset, .unset, .unset, .unset, .unset, .unset, .unset, .unset, .unset, .unset, .unset, .unset, .unset, .unset, .unset, .unset, .unset, .unset, .unset, .unset, .unset, .unset, .unset, .unset, .unset] [(.long (625 : Int64)), (.int (4 : Int32)), (.ref b24), (.ref b24)])) rfl rfl (hb hby at_99)
  have V_b24_34 : Arv Z h34 b24 k24 .long (10 : Int32) [(.long (1 : Int64)), (.long (5 : Int64)), (.long (25 : Int64)), (.long (125 : Int64)), (.long (625 : Int64)), (.long (0 : Int64)), (.long (0 : Int64)), (.long (0 : Int64)), (.long (0 : Int64)), (.long (0 : Int64))] (.long (0 : Int64)) := Arv.set Ar_b24_99 q_b24_99 S_b24_99 N_b24_99 H_b24_99 G_b24_99 rfl W34 4 rfl (Nat.le_of_ble_eq_true rfl)
  have K34 : Keep h0 h34 [] := K32.wr W34 (Or.inr sz_b24)
  have Z34 : n0 ≤ h34.size := Nat.le_trans Z32 (Keep.of_wr W34).1
  have N34 := Fr.snoc X34 N32 g_b24
  refine Go.adv st34 ?_
  show Go p.tables e below s _ _ _ (T34.setTop (mkF m 100 #[.val (.int p1), .val (.long j0), .second, .val (.long j1), .second, .val (.long j2), .second, .val (.long j3), .second, .val (.ref b2), .unset, .unset, .unset, .unset, .unset, .unset, .unset, .unset, .unset, .unset, .unset, .unset, .unset, .unset, .unset, .unset, .unset, .unset, .unset, .unset, .unset, .unset, .unset, .unset, .unset, .unset, .unset, .unset] [(.ref b24)]))
  have sg35 : ∀ t, Steps p.tables e below (T34.setTop (mkF m 105 #[.val (.int p1), .val (.long j0), .second, .val (.long j1), .second, .val (.long j2), .second, .val (.long j3), .second, .val (.ref b2), .unset, .unset, .unset, .unset, .unset, .unset, .unset, .unset, .unset, .unset, .unset, .unset, .unset, .unset, .unset, .unset, .unset, .unset, .unset, .unset, .unset, .unset, .unset, .unset, .unset, .unset, .unset, .unset] [(.long (3125 : Int64)), (.int (5 : Int32)), (.ref b24), (.ref b24)])) t → Steps p.tables e below (T34.setTop (mkF m 100 #[.val (.int p1), .val (.long j0), .second, .val (.long j1), .second, .val (.long j2), .second, .val (.long j3), .second, .val (.ref b2), .unset, .unset, .unset, .unset, .unset, .unset, .unset, .unset, .unset, .unset, .unset, .unset, .unset, .unset, .unset, .unset, .unset, .unset, .unset, .unset, .unset, .unset, .unset, .unset, .unset, .unset, .unset, .unset] [(.ref b24)])) t := by
    intro t kt
    show Steps p.tables e below (T34.setTop (mkF m 100 #[.val (.int p1), .val (.long j0), .second, .val (.long j1), .second, .val (.long j2), .second, .val (.long j3), .second, .val (.ref b2), .unset, .unset, .unset, .unset, .unset, .unset, .unset, .unset, .unset, .unset, .unset, .unset, .unset, .unset, .unset, .unset, .unset, .unset, .unset, .unset, .unset, .unset, .unset, .unset, .unset, .unset, .unset, .unset] [(.ref b24)])) _
    refine XS.dup X34.here hx rfl (hb hby at_100) rfl rfl ?_
    show Steps p.tables e below (T34.setTop (mkF m 101 #[.val (.int p1), .val (.long j0), .second, .val (.long j1), .second, .val (.long j2), .second, .val (.long j3), .second, .val (.ref b2), .unset, .unset, .unset, .unset, .unset, .unset, .unset, .unset, .unset, .unset, .unset, .unset, .unset, .unset, .unset, .unset, .unset, .unset, .unset, .unset, .unset, .unset, .unset, .unset, .unset, .unset, .unset, .unset] [(.ref b24), (.ref b24)])) _
    refine XS.iconst X34.here hx rfl (hb hby at_101) ?_
    show Steps p.tables e below (T34.setTop (mkF m 102 #[.val (.int p1), .val (.long j0), .second, .val (.long j1), .second, .val (.long j2), .second, .val (.long j3), .second, .val (.ref b2), .unset, .unset, .unset, .unset, .unset, .unset, .unset, .unset, .unset, .unset, .unset, .unset, .unset, .unset, .unset, .unset, .unset, .unset, .unset, .unset, .unset, .unset, .unset, .unset, .unset, .unset, .unset, .unset] [(.int (5 : Int32)), (.ref b24), (.ref b24)])) _
    refine X34.ldc2Long hx hown (mvT hZ (hw _ (List.mem_of_getElem? (i := 14) rfl))) (g := (mkF m 102 #[.val (.int p1), .val (.long j0), .second, .val (.long j1), .second, .val (.long j2), .second, .val (.long j3), .second, .val (.ref b2), .unset, .unset, .unset, .unset, .unset, .unset, .unset, .unset, .unset, .unset, .unset, .unset, .unset, .unset, .unset, .unset, .unset, .unset, .unset, .unset, .unset, .unset, .unset, .unset, .unset, .unset, .unset, .unset] [(.int (5 : Int32)), (.ref b24), (.ref b24)])) rfl (hb hby at_102) _ ?_
    exact kt
  refine Go.adv sg35 ?_
  obtain ⟨cl_b24_105, Ar_b24_105, q_b24_105, S_b24_105, N_b24_105, H_b24_105, G_b24_105⟩ := V_b24_34
  have hin_b24_105 : ¬ ((5 : Int32) < 0 ∨ cl_b24_105.slots.size ≤ ((5 : Int32)).toNatClampNeg) := inb_of S_b24_105 ⟨by decide, by decide⟩
  obtain ⟨T36, h36, X36, e36, W36, st36⟩ := stJ X34 hx hZ e34 Ar_b24_105 (j := (5 : Int32)) hin_b24_105 (g := (mkF m 105 #[.val (.int p1), .val (.long j0), .second, .val (.long j1), .second, .val (.long j2), .second, .val (.long j3), .second, .val (.ref b2), .unset, .unset, .unset, .unset, .unset, .unset, .unset, .unset, .unset, .unset, .unset, .unset, .unset, .unset, .unset, .unset, .unset, .unset, .unset, .unset, .unset, .unset, .unset, .unset, .unset, .unset, .unset, .unset] [(.long (3125 : Int64)), (.int (5 : Int32)), (.ref b24), (.ref b24)])) rfl rfl (hb hby at_105)
  have V_b24_36 : Arv Z h36 b24 k24 .long (10 : Int32) [(.long (1 : Int64)), (.long (5 : Int64)), (.long (25 : Int64)), (.long (125 : Int64)), (.long (625 : Int64)), (.long (3125 : Int64)), (.long (0 : Int64)), (.long (0 : Int64)), (.long (0 : Int64)), (.long (0 : Int64))] (.long (0 : Int64)) := Arv.set Ar_b24_105 q_b24_105 S_b24_105 N_b24_105 H_b24_105 G_b24_105 rfl W36 5 rfl (Nat.le_of_ble_eq_true rfl)
  have K36 : Keep h0 h36 [] := K34.wr W36 (Or.inr sz_b24)
  have Z36 : n0 ≤ h36.size := Nat.le_trans Z34 (Keep.of_wr W36).1
  have N36 := Fr.snoc X36 N34 g_b24
  refine Go.adv st36 ?_
  show Go p.tables e below s _ _ _ (T36.setTop (mkF m 106 #[.val (.int p1), .val (.long j0), .second, .val (.long j1), .second, .val (.long j2), .second, .val (.long j3), .second, .val (.ref b2), .unset, .unset, .unset, .unset, .unset, .unset, .unset, .unset, .unset, .unset, .unset, .unset, .unset, .unset, .unset, .unset, .unset, .unset, .unset, .unset, .unset, .unset, .unset, .unset, .unset, .unset, .unset, .unset] [(.ref b24)]))
  have sg37 : ∀ t, Steps p.tables e below (T36.setTop (mkF m 112 #[.val (.int p1), .val (.long j0), .second, .val (.long j1), .second, .val (.long j2), .second, .val (.long j3), .second, .val (.ref b2), .unset, .unset, .unset, .unset, .unset, .unset, .unset, .unset, .unset, .unset, .unset, .unset, .unset, .unset, .unset, .unset, .unset, .unset, .unset, .unset, .unset, .unset, .unset, .unset, .unset, .unset, .unset, .unset] [(.long (15625 : Int64)), (.int (6 : Int32)), (.ref b24), (.ref b24)])) t → Steps p.tables e below (T36.setTop (mkF m 106 #[.val (.int p1), .val (.long j0), .second, .val (.long j1), .second, .val (.long j2), .second, .val (.long j3), .second, .val (.ref b2), .unset, .unset, .unset, .unset, .unset, .unset, .unset, .unset, .unset, .unset, .unset, .unset, .unset, .unset, .unset, .unset, .unset, .unset, .unset, .unset, .unset, .unset, .unset, .unset, .unset, .unset, .unset, .unset] [(.ref b24)])) t := by
    intro t kt
    show Steps p.tables e below (T36.setTop (mkF m 106 #[.val (.int p1), .val (.long j0), .second, .val (.long j1), .second, .val (.long j2), .second, .val (.long j3), .second, .val (.ref b2), .unset, .unset, .unset, .unset, .unset, .unset, .unset, .unset, .unset, .unset, .unset, .unset, .unset, .unset, .unset, .unset, .unset, .unset, .unset, .unset, .unset, .unset, .unset, .unset, .unset, .unset, .unset, .unset] [(.ref b24)])) _
    refine XS.dup X36.here hx rfl (hb hby at_106) rfl rfl ?_
    show Steps p.tables e below (T36.setTop (mkF m 107 #[.val (.int p1), .val (.long j0), .second, .val (.long j1), .second, .val (.long j2), .second, .val (.long j3), .second, .val (.ref b2), .unset, .unset, .unset, .unset, .unset, .unset, .unset, .unset, .unset, .unset, .unset, .unset, .unset, .unset, .unset, .unset, .unset, .unset, .unset, .unset, .unset, .unset, .unset, .unset, .unset, .unset, .unset, .unset] [(.ref b24), (.ref b24)])) _
    refine XS.bipush X36.here hx rfl (hb hby at_107) ?_
    show Steps p.tables e below (T36.setTop (mkF m 109 #[.val (.int p1), .val (.long j0), .second, .val (.long j1), .second, .val (.long j2), .second, .val (.long j3), .second, .val (.ref b2), .unset, .unset, .unset, .unset, .unset, .unset, .unset, .unset, .unset, .unset, .unset, .unset, .unset, .unset, .unset, .unset, .unset, .unset, .unset, .unset, .unset, .unset, .unset, .unset, .unset, .unset, .unset, .unset] [(.int (6 : Int32)), (.ref b24), (.ref b24)])) _
    refine X36.ldc2Long hx hown (mvT hZ (hw _ (List.mem_of_getElem? (i := 15) rfl))) (g := (mkF m 109 #[.val (.int p1), .val (.long j0), .second, .val (.long j1), .second, .val (.long j2), .second, .val (.long j3), .second, .val (.ref b2), .unset, .unset, .unset, .unset, .unset, .unset, .unset, .unset, .unset, .unset, .unset, .unset, .unset, .unset, .unset, .unset, .unset, .unset, .unset, .unset, .unset, .unset, .unset, .unset, .unset, .unset, .unset, .unset] [(.int (6 : Int32)), (.ref b24), (.ref b24)])) rfl (hb hby at_109) _ ?_
    exact kt
  refine Go.adv sg37 ?_
  obtain ⟨cl_b24_112, Ar_b24_112, q_b24_112, S_b24_112, N_b24_112, H_b24_112, G_b24_112⟩ := V_b24_36
  have hin_b24_112 : ¬ ((6 : Int32) < 0 ∨ cl_b24_112.slots.size ≤ ((6 : Int32)).toNatClampNeg) := inb_of S_b24_112 ⟨by decide, by decide⟩
  obtain ⟨T38, h38, X38, e38, W38, st38⟩ := stJ X36 hx hZ e36 Ar_b24_112 (j := (6 : Int32)) hin_b24_112 (g := (mkF m 112 #[.val (.int p1), .val (.long j0), .second, .val (.long j1), .second, .val (.long j2), .second, .val (.long j3), .second, .val (.ref b2), .unset, .unset, .unset, .unset, .unset, .unset, .unset, .unset, .unset, .unset, .unset, .unset, .unset, .unset, .unset, .unset, .unset, .unset, .unset, .unset, .unset, .unset, .unset, .unset, .unset, .unset, .unset, .unset] [(.long (15625 : Int64)), (.int (6 : Int32)), (.ref b24), (.ref b24)])) rfl rfl (hb hby at_112)
  have V_b24_38 : Arv Z h38 b24 k24 .long (10 : Int32) [(.long (1 : Int64)), (.long (5 : Int64)), (.long (25 : Int64)), (.long (125 : Int64)), (.long (625 : Int64)), (.long (3125 : Int64)), (.long (15625 : Int64)), (.long (0 : Int64)), (.long (0 : Int64)), (.long (0 : Int64))] (.long (0 : Int64)) := Arv.set Ar_b24_112 q_b24_112 S_b24_112 N_b24_112 H_b24_112 G_b24_112 rfl W38 6 rfl (Nat.le_of_ble_eq_true rfl)
  have K38 : Keep h0 h38 [] := K36.wr W38 (Or.inr sz_b24)
  have Z38 : n0 ≤ h38.size := Nat.le_trans Z36 (Keep.of_wr W38).1
  have N38 := Fr.snoc X38 N36 g_b24
  refine Go.adv st38 ?_
  show Go p.tables e below s _ _ _ (T38.setTop (mkF m 113 #[.val (.int p1), .val (.long j0), .second, .val (.long j1), .second, .val (.long j2), .second, .val (.long j3), .second, .val (.ref b2), .unset, .unset, .unset, .unset, .unset, .unset, .unset, .unset, .unset, .unset, .unset, .unset, .unset, .unset, .unset, .unset, .unset, .unset, .unset, .unset, .unset, .unset, .unset, .unset, .unset, .unset, .unset, .unset] [(.ref b24)]))
  have sg39 : ∀ t, Steps p.tables e below (T38.setTop (mkF m 119 #[.val (.int p1), .val (.long j0), .second, .val (.long j1), .second, .val (.long j2), .second, .val (.long j3), .second, .val (.ref b2), .unset, .unset, .unset, .unset, .unset, .unset, .unset, .unset, .unset, .unset, .unset, .unset, .unset, .unset, .unset, .unset, .unset, .unset, .unset, .unset, .unset, .unset, .unset, .unset, .unset, .unset, .unset, .unset] [(.long (78125 : Int64)), (.int (7 : Int32)), (.ref b24), (.ref b24)])) t → Steps p.tables e below (T38.setTop (mkF m 113 #[.val (.int p1), .val (.long j0), .second, .val (.long j1), .second, .val (.long j2), .second, .val (.long j3), .second, .val (.ref b2), .unset, .unset, .unset, .unset, .unset, .unset, .unset, .unset, .unset, .unset, .unset, .unset, .unset, .unset, .unset, .unset, .unset, .unset, .unset, .unset, .unset, .unset, .unset, .unset, .unset, .unset, .unset, .unset] [(.ref b24)])) t := by
    intro t kt
    show Steps p.tables e below (T38.setTop (mkF m 113 #[.val (.int p1), .val (.long j0), .second, .val (.long j1), .second, .val (.long j2), .second, .val (.long j3), .second, .val (.ref b2), .unset, .unset, .unset, .unset, .unset, .unset, .unset, .unset, .unset, .unset, .unset, .unset, .unset, .unset, .unset, .unset, .unset, .unset, .unset, .unset, .unset, .unset, .unset, .unset, .unset, .unset, .unset, .unset] [(.ref b24)])) _
    refine XS.dup X38.here hx rfl (hb hby at_113) rfl rfl ?_
    show Steps p.tables e below (T38.setTop (mkF m 114 #[.val (.int p1), .val (.long j0), .second, .val (.long j1), .second, .val (.long j2), .second, .val (.long j3), .second, .val (.ref b2), .unset, .unset, .unset, .unset, .unset, .unset, .unset, .unset, .unset, .unset, .unset, .unset, .unset, .unset, .unset, .unset, .unset, .unset, .unset, .unset, .unset, .unset, .unset, .unset, .unset, .unset, .unset, .unset] [(.ref b24), (.ref b24)])) _
    refine XS.bipush X38.here hx rfl (hb hby at_114) ?_
    show Steps p.tables e below (T38.setTop (mkF m 116 #[.val (.int p1), .val (.long j0), .second, .val (.long j1), .second, .val (.long j2), .second, .val (.long j3), .second, .val (.ref b2), .unset, .unset, .unset, .unset, .unset, .unset, .unset, .unset, .unset, .unset, .unset, .unset, .unset, .unset, .unset, .unset, .unset, .unset, .unset, .unset, .unset, .unset, .unset, .unset, .unset, .unset, .unset, .unset] [(.int (7 : Int32)), (.ref b24), (.ref b24)])) _
    refine X38.ldc2Long hx hown (mvT hZ (hw _ (List.mem_of_getElem? (i := 16) rfl))) (g := (mkF m 116 #[.val (.int p1), .val (.long j0), .second, .val (.long j1), .second, .val (.long j2), .second, .val (.long j3), .second, .val (.ref b2), .unset, .unset, .unset, .unset, .unset, .unset, .unset, .unset, .unset, .unset, .unset, .unset, .unset, .unset, .unset, .unset, .unset, .unset, .unset, .unset, .unset, .unset, .unset, .unset, .unset, .unset, .unset, .unset] [(.int (7 : Int32)), (.ref b24), (.ref b24)])) rfl (hb hby at_116) _ ?_
    exact kt
  refine Go.adv sg39 ?_
  obtain ⟨cl_b24_119, Ar_b24_119, q_b24_119, S_b24_119, N_b24_119, H_b24_119, G_b24_119⟩ := V_b24_38
  have hin_b24_119 : ¬ ((7 : Int32) < 0 ∨ cl_b24_119.slots.size ≤ ((7 : Int32)).toNatClampNeg) := inb_of S_b24_119 ⟨by decide, by decide⟩
  obtain ⟨T40, h40, X40, e40, W40, st40⟩ := stJ X38 hx hZ e38 Ar_b24_119 (j := (7 : Int32)) hin_b24_119 (g := (mkF m 119 #[.val (.int p1), .val (.long j0), .second, .val (.long j1), .second, .val (.long j2), .second, .val (.long j3), .second, .val (.ref b2), .unset, .unset, .unset, .unset, .unset, .unset, .unset, .unset, .unset, .unset, .unset, .unset, .unset, .unset, .unset, .unset, .unset, .unset, .unset, .unset, .unset, .unset, .unset, .unset, .unset, .unset, .unset, .unset] [(.long (78125 : Int64)), (.int (7 : Int32)), (.ref b24), (.ref b24)])) rfl rfl (hb hby at_119)
  have V_b24_40 : Arv Z h40 b24 k24 .long (10 : Int32) [(.long (1 : Int64)), (.long (5 : Int64)), (.long (25 : Int64)), (.long (125 : Int64)), (.long (625 : Int64)), (.long (3125 : Int64)), (.long (15625 : Int64)), (.long (78125 : Int64)), (.long (0 : Int64)), (.long (0 : Int64))] (.long (0 : Int64)) := Arv.set Ar_b24_119 q_b24_119 S_b24_119 N_b24_119 H_b24_119 G_b24_119 rfl W40 7 rfl (Nat.le_of_ble_eq_true rfl)
  have K40 : Keep h0 h40 [] := K38.wr W40 (Or.inr sz_b24)
  have Z40 : n0 ≤ h40.size := Nat.le_trans Z38 (Keep.of_wr W40).1
  have N40 := Fr.snoc X40 N38 g_b24
  refine Go.adv st40 ?_
  show Go p.tables e below s _ _ _ (T40.setTop (mkF m 120 #[.val (.int p1), .val (.long j0), .second, .val (.long j1), .second, .val (.long j2), .second, .val (.long j3), .second, .val (.ref b2), .unset, .unset, .unset, .unset, .unset, .unset, .unset, .unset, .unset, .unset, .unset, .unset, .unset, .unset, .unset, .unset, .unset, .unset, .unset, .unset, .unset, .unset, .unset, .unset, .unset, .unset, .unset, .unset] [(.ref b24)]))
  have sg41 : ∀ t, Steps p.tables e below (T40.setTop (mkF m 126 #[.val (.int p1), .val (.long j0), .second, .val (.long j1), .second, .val (.long j2), .second, .val (.long j3), .second, .val (.ref b2), .unset, .unset, .unset, .unset, .unset, .unset, .unset, .unset, .unset, .unset, .unset, .unset, .unset, .unset, .unset, .unset, .unset, .unset, .unset, .unset, .unset, .unset, .unset, .unset, .unset, .unset, .unset, .unset] [(.long (390625 : Int64)), (.int (8 : Int32)), (.ref b24), (.ref b24)])) t → Steps p.tables e below (T40.setTop (mkF m 120 #[.val (.int p1), .val (.long j0), .second, .val (.long j1), .second, .val (.long j2), .second, .val (.long j3), .second, .val (.ref b2), .unset, .unset, .unset, .unset, .unset, .unset, .unset, .unset, .unset, .unset, .unset, .unset, .unset, .unset, .unset, .unset, .unset, .unset, .unset, .unset, .unset, .unset, .unset, .unset, .unset, .unset, .unset, .unset] [(.ref b24)])) t := by
    intro t kt
    show Steps p.tables e below (T40.setTop (mkF m 120 #[.val (.int p1), .val (.long j0), .second, .val (.long j1), .second, .val (.long j2), .second, .val (.long j3), .second, .val (.ref b2), .unset, .unset, .unset, .unset, .unset, .unset, .unset, .unset, .unset, .unset, .unset, .unset, .unset, .unset, .unset, .unset, .unset, .unset, .unset, .unset, .unset, .unset, .unset, .unset, .unset, .unset, .unset, .unset] [(.ref b24)])) _
    refine XS.dup X40.here hx rfl (hb hby at_120) rfl rfl ?_
    show Steps p.tables e below (T40.setTop (mkF m 121 #[.val (.int p1), .val (.long j0), .second, .val (.long j1), .second, .val (.long j2), .second, .val (.long j3), .second, .val (.ref b2), .unset, .unset, .unset, .unset, .unset, .unset, .unset, .unset, .unset, .unset, .unset, .unset, .unset, .unset, .unset, .unset, .unset, .unset, .unset, .unset, .unset, .unset, .unset, .unset, .unset, .unset, .unset, .unset] [(.ref b24), (.ref b24)])) _
    refine XS.bipush X40.here hx rfl (hb hby at_121) ?_
    show Steps p.tables e below (T40.setTop (mkF m 123 #[.val (.int p1), .val (.long j0), .second, .val (.long j1), .second, .val (.long j2), .second, .val (.long j3), .second, .val (.ref b2), .unset, .unset, .unset, .unset, .unset, .unset, .unset, .unset, .unset, .unset, .unset, .unset, .unset, .unset, .unset, .unset, .unset, .unset, .unset, .unset, .unset, .unset, .unset, .unset, .unset, .unset, .unset, .unset] [(.int (8 : Int32)), (.ref b24), (.ref b24)])) _
    refine X40.ldc2Long hx hown (mvT hZ (hw _ (List.mem_of_getElem? (i := 17) rfl))) (g := (mkF m 123 #[.val (.int p1), .val (.long j0), .second, .val (.long j1), .second, .val (.long j2), .second, .val (.long j3), .second, .val (.ref b2), .unset, .unset, .unset, .unset, .unset, .unset, .unset, .unset, .unset, .unset, .unset, .unset, .unset, .unset, .unset, .unset, .unset, .unset, .unset, .unset, .unset, .unset, .unset, .unset, .unset, .unset, .unset, .unset] [(.int (8 : Int32)), (.ref b24), (.ref b24)])) rfl (hb hby at_123) _ ?_
    exact kt
  refine Go.adv sg41 ?_
  obtain ⟨cl_b24_126, Ar_b24_126, q_b24_126, S_b24_126, N_b24_126, H_b24_126, G_b24_126⟩ := V_b24_40
  have hin_b24_126 : ¬ ((8 : Int32) < 0 ∨ cl_b24_126.slots.size ≤ ((8 : Int32)).toNatClampNeg) := inb_of S_b24_126 ⟨by decide, by decide⟩
  obtain ⟨T42, h42, X42, e42, W42, st42⟩ := stJ X40 hx hZ e40 Ar_b24_126 (j := (8 : Int32)) hin_b24_126 (g := (mkF m 126 #[.val (.int p1), .val (.long j0), .second, .val (.long j1), .second, .val (.long j2), .second, .val (.long j3), .second, .val (.ref b2), .unset, .unset, .unset, .unset, .unset, .unset, .unset, .unset, .unset, .unset, .unset, .unset, .unset, .unset, .unset, .unset, .unset, .unset, .unset, .unset, .unset, .unset, .unset, .unset, .unset, .unset, .unset, .unset] [(.long (390625 : Int64)), (.int (8 : Int32)), (.ref b24), (.ref b24)])) rfl rfl (hb hby at_126)
  have V_b24_42 : Arv Z h42 b24 k24 .long (10 : Int32) [(.long (1 : Int64)), (.long (5 : Int64)), (.long (25 : Int64)), (.long (125 : Int64)), (.long (625 : Int64)), (.long (3125 : Int64)), (.long (15625 : Int64)), (.long (78125 : Int64)), (.long (390625 : Int64)), (.long (0 : Int64))] (.long (0 : Int64)) := Arv.set Ar_b24_126 q_b24_126 S_b24_126 N_b24_126 H_b24_126 G_b24_126 rfl W42 8 rfl (Nat.le_of_ble_eq_true rfl)
  have K42 : Keep h0 h42 [] := K40.wr W42 (Or.inr sz_b24)
  have Z42 : n0 ≤ h42.size := Nat.le_trans Z40 (Keep.of_wr W42).1
  have N42 := Fr.snoc X42 N40 g_b24
  refine Go.adv st42 ?_
  show Go p.tables e below s _ _ _ (T42.setTop (mkF m 127 #[.val (.int p1), .val (.long j0), .second, .val (.long j1), .second, .val (.long j2), .second, .val (.long j3), .second, .val (.ref b2), .unset, .unset, .unset, .unset, .unset, .unset, .unset, .unset, .unset, .unset, .unset, .unset, .unset, .unset, .unset, .unset, .unset, .unset, .unset, .unset, .unset, .unset, .unset, .unset, .unset, .unset, .unset, .unset] [(.ref b24)]))
  have sg43 : ∀ t, Steps p.tables e below (T42.setTop (mkF m 133 #[.val (.int p1), .val (.long j0), .second, .val (.long j1), .second, .val (.long j2), .second, .val (.long j3), .second, .val (.ref b2), .unset, .unset, .unset, .unset, .unset, .unset, .unset, .unset, .unset, .unset, .unset, .unset, .unset, .unset, .unset, .unset, .unset, .unset, .unset, .unset, .unset, .unset, .unset, .unset, .unset, .unset, .unset, .unset] [(.long (1953125 : Int64)), (.int (9 : Int32)), (.ref b24), (.ref b24)])) t → Steps p.tables e below (T42.setTop (mkF m 127 #[.val (.int p1), .val (.long j0), .second, .val (.long j1), .second, .val (.long j2), .second, .val (.long j3), .second, .val (.ref b2), .unset, .unset, .unset, .unset, .unset, .unset, .unset, .unset, .unset, .unset, .unset, .unset, .unset, .unset, .unset, .unset, .unset, .unset, .unset, .unset, .unset, .unset, .unset, .unset, .unset, .unset, .unset, .unset] [(.ref b24)])) t := by
    intro t kt
    show Steps p.tables e below (T42.setTop (mkF m 127 #[.val (.int p1), .val (.long j0), .second, .val (.long j1), .second, .val (.long j2), .second, .val (.long j3), .second, .val (.ref b2), .unset, .unset, .unset, .unset, .unset, .unset, .unset, .unset, .unset, .unset, .unset, .unset, .unset, .unset, .unset, .unset, .unset, .unset, .unset, .unset, .unset, .unset, .unset, .unset, .unset, .unset, .unset, .unset] [(.ref b24)])) _
    refine XS.dup X42.here hx rfl (hb hby at_127) rfl rfl ?_
    show Steps p.tables e below (T42.setTop (mkF m 128 #[.val (.int p1), .val (.long j0), .second, .val (.long j1), .second, .val (.long j2), .second, .val (.long j3), .second, .val (.ref b2), .unset, .unset, .unset, .unset, .unset, .unset, .unset, .unset, .unset, .unset, .unset, .unset, .unset, .unset, .unset, .unset, .unset, .unset, .unset, .unset, .unset, .unset, .unset, .unset, .unset, .unset, .unset, .unset] [(.ref b24), (.ref b24)])) _
    refine XS.bipush X42.here hx rfl (hb hby at_128) ?_
    show Steps p.tables e below (T42.setTop (mkF m 130 #[.val (.int p1), .val (.long j0), .second, .val (.long j1), .second, .val (.long j2), .second, .val (.long j3), .second, .val (.ref b2), .unset, .unset, .unset, .unset, .unset, .unset, .unset, .unset, .unset, .unset, .unset, .unset, .unset, .unset, .unset, .unset, .unset, .unset, .unset, .unset, .unset, .unset, .unset, .unset, .unset, .unset, .unset, .unset] [(.int (9 : Int32)), (.ref b24), (.ref b24)])) _
    refine X42.ldc2Long hx hown (mvT hZ (hw _ (List.mem_of_getElem? (i := 18) rfl))) (g := (mkF m 130 #[.val (.int p1), .val (.long j0), .second, .val (.long j1), .second, .val (.long j2), .second, .val (.long j3), .second, .val (.ref b2), .unset, .unset, .unset, .unset, .unset, .unset, .unset, .unset, .unset, .unset, .unset, .unset, .unset, .unset, .unset, .unset, .unset, .unset, .unset, .unset, .unset, .unset, .unset, .unset, .unset, .unset, .unset, .unset] [(.int (9 : Int32)), (.ref b24), (.ref b24)])) rfl (hb hby at_130) _ ?_
    exact kt
  refine Go.adv sg43 ?_
  obtain ⟨cl_b24_133, Ar_b24_133, q_b24_133, S_b24_133, N_b24_133, H_b24_133, G_b24_133⟩ := V_b24_42
  have hin_b24_133 : ¬ ((9 : Int32) < 0 ∨ cl_b24_133.slots.size ≤ ((9 : Int32)).toNatClampNeg) := inb_of S_b24_133 ⟨by decide, by decide⟩
  obtain ⟨T44, h44, X44, e44, W44, st44⟩ := stJ X42 hx hZ e42 Ar_b24_133 (j := (9 : Int32)) hin_b24_133 (g := (mkF m 133 #[.val (.int p1), .val (.long j0), .second, .val (.long j1), .second, .val (.long j2), .second, .val (.long j3), .second, .val (.ref b2), .unset, .unset, .unset, .unset, .unset, .unset, .unset, .unset, .unset, .unset, .unset, .unset, .unset, .unset, .unset, .unset, .unset, .unset, .unset, .unset, .unset, .unset, .unset, .unset, .unset, .unset, .unset, .unset] [(.long (1953125 : Int64)), (.int (9 : Int32)), (.ref b24), (.ref b24)])) rfl rfl (hb hby at_133)
  have V_b24_44 : Arv Z h44 b24 k24 .long (10 : Int32) [(.long (1 : Int64)), (.long (5 : Int64)), (.long (25 : Int64)), (.long (125 : Int64)), (.long (625 : Int64)), (.long (3125 : Int64)), (.long (15625 : Int64)), (.long (78125 : Int64)), (.long (390625 : Int64)), (.long (1953125 : Int64))] (.long (0 : Int64)) := Arv.set Ar_b24_133 q_b24_133 S_b24_133 N_b24_133 H_b24_133 G_b24_133 rfl W44 9 rfl (Nat.le_of_ble_eq_true rfl)
  have K44 : Keep h0 h44 [] := K42.wr W44 (Or.inr sz_b24)
  have Z44 : n0 ≤ h44.size := Nat.le_trans Z42 (Keep.of_wr W44).1
  have N44 := Fr.snoc X44 N42 g_b24
  refine Go.adv st44 ?_
  show Go p.tables e below s _ _ _ (T44.setTop (mkF m 134 #[.val (.int p1), .val (.long j0), .second, .val (.long j1), .second, .val (.long j2), .second, .val (.long j3), .second, .val (.ref b2), .unset, .unset, .unset, .unset, .unset, .unset, .unset, .unset, .unset, .unset, .unset, .unset, .unset, .unset, .unset, .unset, .unset, .unset, .unset, .unset, .unset, .unset, .unset, .unset, .unset, .unset, .unset, .unset] [(.ref b24)]))
  have sg45 : ∀ t, Steps p.tables e below (T44.setTop (mkF m 136 #[.val (.int p1), .val (.long j0), .second, .val (.long j1), .second, .val (.long j2), .second, .val (.long j3), .second, .val (.ref b2), .val (.ref b24), .unset, .unset, .unset, .unset, .unset, .unset, .unset, .unset, .unset, .unset, .unset, .unset, .unset, .unset, .unset, .unset, .unset, .unset, .unset, .unset, .unset, .unset, .unset, .unset, .unset, .unset, .unset] [])) t → Steps p.tables e below (T44.setTop (mkF m 134 #[.val (.int p1), .val (.long j0), .second, .val (.long j1), .second, .val (.long j2), .second, .val (.long j3), .second, .val (.ref b2), .unset, .unset, .unset, .unset, .unset, .unset, .unset, .unset, .unset, .unset, .unset, .unset, .unset, .unset, .unset, .unset, .unset, .unset, .unset, .unset, .unset, .unset, .unset, .unset, .unset, .unset, .unset, .unset] [(.ref b24)])) t := by
    intro t kt
    show Steps p.tables e below (T44.setTop (mkF m 134 #[.val (.int p1), .val (.long j0), .second, .val (.long j1), .second, .val (.long j2), .second, .val (.long j3), .second, .val (.ref b2), .unset, .unset, .unset, .unset, .unset, .unset, .unset, .unset, .unset, .unset, .unset, .unset, .unset, .unset, .unset, .unset, .unset, .unset, .unset, .unset, .unset, .unset, .unset, .unset, .unset, .unset, .unset, .unset] [(.ref b24)])) _
    refine XS.astore X44.here hx rfl (hb hby at_134) rfl rfl (l' := #[.val (.int p1), .val (.long j0), .second, .val (.long j1), .second, .val (.long j2), .second, .val (.long j3), .second, .val (.ref b2), .val (.ref b24), .unset, .unset, .unset, .unset, .unset, .unset, .unset, .unset, .unset, .unset, .unset, .unset, .unset, .unset, .unset, .unset, .unset, .unset, .unset, .unset, .unset, .unset, .unset, .unset, .unset, .unset, .unset]) rfl ?_
    exact kt
  refine Go.adv sg45 ?_
  obtain ⟨LH1, XH1, NH1⟩ := own_hide X44 N44
  have sg46 : ∀ t, Steps p.tables e below (T44.setTop (mkF m 159 #[.val (.int p1), .val (.long j0), .second, .val (.long j1), .second, .val (.long j2), .second, .val (.long j3), .second, .val (.ref b2), .val (.ref b24), .val (.int ((p1 &&& (255 : Int32)) % (10 : Int32))), .val (.int ((((p1.toUInt32 >>> ((8 : Int32) &&& 31).toUInt32).toInt32) &&& (255 : Int32)) % (10 : Int32))), .unset, .unset, .unset, .unset, .unset, .unset, .unset, .unset, .unset, .unset, .unset, .unset, .unset, .unset, .unset, .unset, .unset, .unset, .unset, .unset, .unset, .unset, .unset, .unset, .unset] [])) t → Steps p.tables e below (T44.setTop (mkF m 136 #[.val (.int p1), .val (.long j0), .second, .val (.long j1), .second, .val (.long j2), .second, .val (.long j3), .second, .val (.ref b2), .val (.ref b24), .unset, .unset, .unset, .unset, .unset, .unset, .unset, .unset, .unset, .unset, .unset, .unset, .unset, .unset, .unset, .unset, .unset, .unset, .unset, .unset, .unset, .unset, .unset, .unset, .unset, .unset, .unset] [])) t := by
    intro t kt
    show Steps p.tables e below (T44.setTop (mkF m 136 #[.val (.int p1), .val (.long j0), .second, .val (.long j1), .second, .val (.long j2), .second, .val (.long j3), .second, .val (.ref b2), .val (.ref b24), .unset, .unset, .unset, .unset, .unset, .unset, .unset, .unset, .unset, .unset, .unset, .unset, .unset, .unset, .unset, .unset, .unset, .unset, .unset, .unset, .unset, .unset, .unset, .unset, .unset, .unset, .unset] [])) _
    refine XS.iloadN XH1.here hx rfl (hb hby at_136) rfl ?_
    show Steps p.tables e below (T44.setTop (mkF m 137 #[.val (.int p1), .val (.long j0), .second, .val (.long j1), .second, .val (.long j2), .second, .val (.long j3), .second, .val (.ref b2), .val (.ref b24), .unset, .unset, .unset, .unset, .unset, .unset, .unset, .unset, .unset, .unset, .unset, .unset, .unset, .unset, .unset, .unset, .unset, .unset, .unset, .unset, .unset, .unset, .unset, .unset, .unset, .unset, .unset] [(.int p1)])) _
    refine XS.sipush XH1.here hx rfl (hb hby at_137) ?_
    show Steps p.tables e below (T44.setTop (mkF m 140 #[.val (.int p1), .val (.long j0), .second, .val (.long j1), .second, .val (.long j2), .second, .val (.long j3), .second, .val (.ref b2), .val (.ref b24), .unset, .unset, .unset, .unset, .unset, .unset, .unset, .unset, .unset, .unset, .unset, .unset, .unset, .unset, .unset, .unset, .unset, .unset, .unset, .unset, .unset, .unset, .unset, .unset, .unset, .unset, .unset] [(.int (255 : Int32)), (.int p1)])) _
    refine XS.iand XH1.here hx rfl (hb hby at_140) rfl ?_
    show Steps p.tables e below (T44.setTop (mkF m 141 #[.val (.int p1), .val (.long j0), .second, .val (.long j1), .second, .val (.long j2), .second, .val (.long j3), .second, .val (.ref b2), .val (.ref b24), .unset, .unset, .unset, .unset, .unset, .unset, .unset, .unset, .unset, .unset, .unset, .unset, .unset, .unset, .unset, .unset, .unset, .unset, .unset, .unset, .unset, .unset, .unset, .unset, .unset, .unset, .unset] [(.int (p1 &&& (255 : Int32)))])) _
    refine XS.bipush XH1.here hx rfl (hb hby at_141) ?_
    show Steps p.tables e below (T44.setTop (mkF m 143 #[.val (.int p1), .val (.long j0), .second, .val (.long j1), .second, .val (.long j2), .second, .val (.long j3), .second, .val (.ref b2), .val (.ref b24), .unset, .unset, .unset, .unset, .unset, .unset, .unset, .unset, .unset, .unset, .unset, .unset, .unset, .unset, .unset, .unset, .unset, .unset, .unset, .unset, .unset, .unset, .unset, .unset, .unset, .unset, .unset] [(.int (10 : Int32)), (.int (p1 &&& (255 : Int32)))])) _
    refine iremM XH1 hx rfl (hb hby at_143) rfl (by decide) ?_
    show Steps p.tables e below (T44.setTop (mkF m 144 #[.val (.int p1), .val (.long j0), .second, .val (.long j1), .second, .val (.long j2), .second, .val (.long j3), .second, .val (.ref b2), .val (.ref b24), .unset, .unset, .unset, .unset, .unset, .unset, .unset, .unset, .unset, .unset, .unset, .unset, .unset, .unset, .unset, .unset, .unset, .unset, .unset, .unset, .unset, .unset, .unset, .unset, .unset, .unset, .unset] [(.int ((p1 &&& (255 : Int32)) % (10 : Int32)))])) _
    refine XS.istore XH1.here hx rfl (hb hby at_144) rfl (l' := #[.val (.int p1), .val (.long j0), .second, .val (.long j1), .second, .val (.long j2), .second, .val (.long j3), .second, .val (.ref b2), .val (.ref b24), .val (.int ((p1 &&& (255 : Int32)) % (10 : Int32))), .unset, .unset, .unset, .unset, .unset, .unset, .unset, .unset, .unset, .unset, .unset, .unset, .unset, .unset, .unset, .unset, .unset, .unset, .unset, .unset, .unset, .unset, .unset, .unset, .unset, .unset]) rfl ?_
    show Steps p.tables e below (T44.setTop (mkF m 146 #[.val (.int p1), .val (.long j0), .second, .val (.long j1), .second, .val (.long j2), .second, .val (.long j3), .second, .val (.ref b2), .val (.ref b24), .val (.int ((p1 &&& (255 : Int32)) % (10 : Int32))), .unset, .unset, .unset, .unset, .unset, .unset, .unset, .unset, .unset, .unset, .unset, .unset, .unset, .unset, .unset, .unset, .unset, .unset, .unset, .unset, .unset, .unset, .unset, .unset, .unset, .unset] [])) _
    refine XS.iloadN XH1.here hx rfl (hb hby at_146) rfl ?_
    show Steps p.tables e below (T44.setTop (mkF m 147 #[.val (.int p1), .val (.long j0), .second, .val (.long j1), .second, .val (.long j2), .second, .val (.long j3), .second, .val (.ref b2), .val (.ref b24), .val (.int ((p1 &&& (255 : Int32)) % (10 : Int32))), .unset, .unset, .unset, .unset, .unset, .unset, .unset, .unset, .unset, .unset, .unset, .unset, .unset, .unset, .unset, .unset, .unset, .unset, .unset, .unset, .unset, .unset, .unset, .unset, .unset, .unset] [(.int p1)])) _
    refine XS.bipush XH1.here hx rfl (hb hby at_147) ?_
    show Steps p.tables e below (T44.setTop (mkF m 149 #[.val (.int p1), .val (.long j0), .second, .val (.long j1), .second, .val (.long j2), .second, .val (.long j3), .second, .val (.ref b2), .val (.ref b24), .val (.int ((p1 &&& (255 : Int32)) % (10 : Int32))), .unset, .unset, .unset, .unset, .unset, .unset, .unset, .unset, .unset, .unset, .unset, .unset, .unset, .unset, .unset, .unset, .unset, .unset, .unset, .unset, .unset, .unset, .unset, .unset, .unset, .unset] [(.int (8 : Int32)), (.int p1)])) _
    refine XS.iushr XH1.here hx rfl (hb hby at_149) rfl ?_
    show Steps p.tables e below (T44.setTop (mkF m 150 #[.val (.int p1), .val (.long j0), .second, .val (.long j1), .second, .val (.long j2), .second, .val (.long j3), .second, .val (.ref b2), .val (.ref b24), .val (.int ((p1 &&& (255 : Int32)) % (10 : Int32))), .unset, .unset, .unset, .unset, .unset, .unset, .unset, .unset, .unset, .unset, .unset, .unset, .unset, .unset, .unset, .unset, .unset, .unset, .unset, .unset, .unset, .unset, .unset, .unset, .unset, .unset] [(.int ((p1.toUInt32 >>> ((8 : Int32) &&& 31).toUInt32).toInt32))])) _
    refine XS.sipush XH1.here hx rfl (hb hby at_150) ?_
    show Steps p.tables e below (T44.setTop (mkF m 153 #[.val (.int p1), .val (.long j0), .second, .val (.long j1), .second, .val (.long j2), .second, .val (.long j3), .second, .val (.ref b2), .val (.ref b24), .val (.int ((p1 &&& (255 : Int32)) % (10 : Int32))), .unset, .unset, .unset, .unset, .unset, .unset, .unset, .unset, .unset, .unset, .unset, .unset, .unset, .unset, .unset, .unset, .unset, .unset, .unset, .unset, .unset, .unset, .unset, .unset, .unset, .unset] [(.int (255 : Int32)), (.int ((p1.toUInt32 >>> ((8 : Int32) &&& 31).toUInt32).toInt32))])) _
    refine XS.iand XH1.here hx rfl (hb hby at_153) rfl ?_
    show Steps p.tables e below (T44.setTop (mkF m 154 #[.val (.int p1), .val (.long j0), .second, .val (.long j1), .second, .val (.long j2), .second, .val (.long j3), .second, .val (.ref b2), .val (.ref b24), .val (.int ((p1 &&& (255 : Int32)) % (10 : Int32))), .unset, .unset, .unset, .unset, .unset, .unset, .unset, .unset, .unset, .unset, .unset, .unset, .unset, .unset, .unset, .unset, .unset, .unset, .unset, .unset, .unset, .unset, .unset, .unset, .unset, .unset] [(.int (((p1.toUInt32 >>> ((8 : Int32) &&& 31).toUInt32).toInt32) &&& (255 : Int32)))])) _
    refine XS.bipush XH1.here hx rfl (hb hby at_154) ?_
    show Steps p.tables e below (T44.setTop (mkF m 156 #[.val (.int p1), .val (.long j0), .second, .val (.long j1), .second, .val (.long j2), .second, .val (.long j3), .second, .val (.ref b2), .val (.ref b24), .val (.int ((p1 &&& (255 : Int32)) % (10 : Int32))), .unset, .unset, .unset, .unset, .unset, .unset, .unset, .unset, .unset, .unset, .unset, .unset, .unset, .unset, .unset, .unset, .unset, .unset, .unset, .unset, .unset, .unset, .unset, .unset, .unset, .unset] [(.int (10 : Int32)), (.int (((p1.toUInt32 >>> ((8 : Int32) &&& 31).toUInt32).toInt32) &&& (255 : Int32)))])) _
    refine iremM XH1 hx rfl (hb hby at_156) rfl (by decide) ?_
    show Steps p.tables e below (T44.setTop (mkF m 157 #[.val (.int p1), .val (.long j0), .second, .val (.long j1), .second, .val (.long j2), .second, .val (.long j3), .second, .val (.ref b2), .val (.ref b24), .val (.int ((p1 &&& (255 : Int32)) % (10 : Int32))), .unset, .unset, .unset, .unset, .unset, .unset, .unset, .unset, .unset, .unset, .unset, .unset, .unset, .unset, .unset, .unset, .unset, .unset, .unset, .unset, .unset, .unset, .unset, .unset, .unset, .unset] [(.int ((((p1.toUInt32 >>> ((8 : Int32) &&& 31).toUInt32).toInt32) &&& (255 : Int32)) % (10 : Int32)))])) _
    refine XS.istore XH1.here hx rfl (hb hby at_157) rfl (l' := #[.val (.int p1), .val (.long j0), .second, .val (.long j1), .second, .val (.long j2), .second, .val (.long j3), .second, .val (.ref b2), .val (.ref b24), .val (.int ((p1 &&& (255 : Int32)) % (10 : Int32))), .val (.int ((((p1.toUInt32 >>> ((8 : Int32) &&& 31).toUInt32).toInt32) &&& (255 : Int32)) % (10 : Int32))), .unset, .unset, .unset, .unset, .unset, .unset, .unset, .unset, .unset, .unset, .unset, .unset, .unset, .unset, .unset, .unset, .unset, .unset, .unset, .unset, .unset, .unset, .unset, .unset, .unset]) rfl ?_
    exact kt
  refine Go.adv sg46 ?_
  have hia := own_idx p1
  generalize h_ia : ((p1 &&& (255 : Int32)) % (10 : Int32)) = ia
  show Go p.tables e below s _ _ _ (T44.setTop (mkF m 159 #[.val (.int p1), .val (.long j0), .second, .val (.long j1), .second, .val (.long j2), .second, .val (.long j3), .second, .val (.ref b2), .val (.ref b24), .val (.int ia), .val (.int ((((p1.toUInt32 >>> ((8 : Int32) &&& 31).toUInt32).toInt32) &&& (255 : Int32)) % (10 : Int32))), .unset, .unset, .unset, .unset, .unset, .unset, .unset, .unset, .unset, .unset, .unset, .unset, .unset, .unset, .unset, .unset, .unset, .unset, .unset, .unset, .unset, .unset, .unset, .unset, .unset] []))
  rw [h_ia] at hia
  have hib := own_idx (((p1.toUInt32 >>> ((8 : Int32) &&& 31).toUInt32).toInt32))
  generalize h_ib : ((((p1.toUInt32 >>> ((8 : Int32) &&& 31).toUInt32).toInt32) &&& (255 : Int32)) % (10 : Int32)) = ib
  show Go p.tables e below s _ _ _ (T44.setTop (mkF m 159 #[.val (.int p1), .val (.long j0), .second, .val (.long j1), .second, .val (.long j2), .second, .val (.long j3), .second, .val (.ref b2), .val (.ref b24), .val (.int ia), .val (.int ib), .unset, .unset, .unset, .unset, .unset, .unset, .unset, .unset, .unset, .unset, .unset, .unset, .unset, .unset, .unset, .unset, .unset, .unset, .unset, .unset, .unset, .unset, .unset, .unset, .unset] []))
  rw [h_ib] at hib
  have f47 := (((((((((((V_b2_22.ext E24).other W26 ne_b2_b24).other W28 ne_b2_b24).other W30 ne_b2_b24).other W32 ne_b2_b24).other W34 ne_b2_b24).other W36 ne_b2_b24).other W38 ne_b2_b24).other W40 ne_b2_b24).other W42 ne_b2_b24).other W44 ne_b2_b24)
  have hka := own_clamp hia
  have hkb := own_clamp hib
  obtain ⟨hr1, hr2⟩ := own_rate _ hka _ hkb
  have sg48 : ∀ t, Steps p.tables e below (T44.setTop (mkF m 172 #[.val (.int p1), .val (.long j0), .second, .val (.long j1), .second, .val (.long j2), .second, .val (.long j3), .second, .val (.ref b2), .val (.ref b24), .val (.int ia), .val (.int ib), .val (.long ((own_t2 (ia).toNatClampNeg) * (own_t5 (ib).toNatClampNeg))), .second, .unset, .unset, .unset, .unset, .unset, .unset, .unset, .unset, .unset, .unset, .unset, .unset, .unset, .unset, .unset, .unset, .unset, .unset, .unset, .unset, .unset, .unset, .unset] [])) t → Steps p.tables e below (T44.setTop (mkF m 159 #[.val (.int p1), .val (.long j0), .second, .val (.long j1), .second, .val (.long j2), .second, .val (.long j3), .second, .val (.ref b2), .val (.ref b24), .val (.int ia), .val (.int ib), .unset, .unset, .unset, .unset, .unset, .unset, .unset, .unset, .unset, .unset, .unset, .unset, .unset, .unset, .unset, .unset, .unset, .unset, .unset, .unset, .unset, .unset, .unset, .unset, .unset] [])) t := by
    intro t kt
    show Steps p.tables e below (T44.setTop (mkF m 159 #[.val (.int p1), .val (.long j0), .second, .val (.long j1), .second, .val (.long j2), .second, .val (.long j3), .second, .val (.ref b2), .val (.ref b24), .val (.int ia), .val (.int ib), .unset, .unset, .unset, .unset, .unset, .unset, .unset, .unset, .unset, .unset, .unset, .unset, .unset, .unset, .unset, .unset, .unset, .unset, .unset, .unset, .unset, .unset, .unset, .unset, .unset] [])) _
    refine XS.aload XH1.here hx rfl (hb hby at_159) rfl rfl ?_
    show Steps p.tables e below (T44.setTop (mkF m 161 #[.val (.int p1), .val (.long j0), .second, .val (.long j1), .second, .val (.long j2), .second, .val (.long j3), .second, .val (.ref b2), .val (.ref b24), .val (.int ia), .val (.int ib), .unset, .unset, .unset, .unset, .unset, .unset, .unset, .unset, .unset, .unset, .unset, .unset, .unset, .unset, .unset, .unset, .unset, .unset, .unset, .unset, .unset, .unset, .unset, .unset, .unset] [(.ref b2)])) _
    refine XS.iload XH1.here hx rfl (hb hby at_161) rfl ?_
    obtain ⟨cl_b2_163, Ar_b2_163, q_b2_163, S_b2_163, N_b2_163, H_b2_163, G_b2_163⟩ := f47
    have hin_b2_163 : ¬ (ia < 0 ∨ cl_b2_163.slots.size ≤ (ia).toNatClampNeg) := inb_of S_b2_163 hia
    have hat_b2_163 : cl_b2_163.slots[(ia).toNatClampNeg]? = some (.long (own_t2 (ia).toNatClampNeg)) := Has.at H_b2_163 hin_b2_163 (own_t2_at hka)
    show Steps p.tables e below (T44.setTop (mkF m 163 #[.val (.int p1), .val (.long j0), .second, .val (.long j1), .second, .val (.long j2), .second, .val (.long j3), .second, .val (.ref b2), .val (.ref b24), .val (.int ia), .val (.int ib), .unset, .unset, .unset, .unset, .unset, .unset, .unset, .unset, .unset, .unset, .unset, .unset, .unset, .unset, .unset, .unset, .unset, .unset, .unset, .unset, .unset, .unset, .unset, .unset, .unset] [(.int ia), (.ref b2)])) _
    refine XH1.laload hx (j := ia) (v := (.long (own_t2 (ia).toNatClampNeg))) (by rw [e44]; exact Ar_b2_163.1) (State.isArrayOf_alike hZ.alike Ar_b2_163.2.1) Ar_b2_163.2.2 hin_b2_163 hat_b2_163 (g := (mkF m 163 #[.val (.int p1), .val (.long j0), .second, .val (.long j1), .second, .val (.long j2), .second, .val (.long j3), .second, .val (.ref b2), .val (.ref b24), .val (.int ia), .val (.int ib), .unset, .unset, .unset, .unset, .unset, .unset, .unset, .unset, .unset, .unset, .unset, .unset, .unset, .unset, .unset, .unset, .unset, .unset, .unset, .unset, .unset, .unset, .unset, .unset, .unset] [(.int ia), (.ref b2)])) rfl rfl (hb hby at_163) _ ?_
    show Steps p.tables e below (T44.setTop (mkF m 164 #[.val (.int p1), .val (.long j0), .second, .val (.long j1), .second, .val (.long j2), .second, .val (.long j3), .second, .val (.ref b2), .val (.ref b24), .val (.int ia), .val (.int ib), .unset, .unset, .unset, .unset, .unset, .unset, .unset, .unset, .unset, .unset, .unset, .unset, .unset, .unset, .unset, .unset, .unset, .unset, .unset, .unset, .unset, .unset, .unset, .unset, .unset] [(.long (own_t2 (ia).toNatClampNeg))])) _
    refine XS.aload XH1.here hx rfl (hb hby at_164) rfl rfl ?_
    show Steps p.tables e below (T44.setTop (mkF m 166 #[.val (.int p1), .val (.long j0), .second, .val (.long j1), .second, .val (.long j2), .second, .val (.long j3), .second, .val (.ref b2), .val (.ref b24), .val (.int ia), .val (.int ib), .unset, .unset, .unset, .unset, .unset, .unset, .unset, .unset, .unset, .unset, .unset, .unset, .unset, .unset, .unset, .unset, .unset, .unset, .unset, .unset, .unset, .unset, .unset, .unset, .unset] [(.ref b24), (.long (own_t2 (ia).toNatClampNeg))])) _
    refine XS.iload XH1.here hx rfl (hb hby at_166) rfl ?_
    obtain ⟨cl_b24_168, Ar_b24_168, q_b24_168, S_b24_168, N_b24_168, H_b24_168, G_b24_168⟩ := V_b24_44
    have hin_b24_168 : ¬ (ib < 0 ∨ cl_b24_168.slots.size ≤ (ib).toNatClampNeg) := inb_of S_b24_168 hib
    have hat_b24_168 : cl_b24_168.slots[(ib).toNatClampNeg]? = some (.long (own_t5 (ib).toNatClampNeg)) := Has.at H_b24_168 hin_b24_168 (own_t5_at hkb)
    show Steps p.tables e below (T44.setTop (mkF m 168 #[.val (.int p1), .val (.long j0), .second, .val (.long j1), .second, .val (.long j2), .second, .val (.long j3), .second, .val (.ref b2), .val (.ref b24), .val (.int ia), .val (.int ib), .unset, .unset, .unset, .unset, .unset, .unset, .unset, .unset, .unset, .unset, .unset, .unset, .unset, .unset, .unset, .unset, .unset, .unset, .unset, .unset, .unset, .unset, .unset, .unset, .unset] [(.int ib), (.ref b24), (.long (own_t2 (ia).toNatClampNeg))])) _
    refine XH1.laload hx (j := ib) (v := (.long (own_t5 (ib).toNatClampNeg))) (by rw [e44]; exact Ar_b24_168.1) (State.isArrayOf_alike hZ.alike Ar_b24_168.2.1) Ar_b24_168.2.2 hin_b24_168 hat_b24_168 (g := (mkF m 168 #[.val (.int p1), .val (.long j0), .second, .val (.long j1), .second, .val (.long j2), .second, .val (.long j3), .second, .val (.ref b2), .val (.ref b24), .val (.int ia), .val (.int ib), .unset, .unset, .unset, .unset, .unset, .unset, .unset, .unset, .unset, .unset, .unset, .unset, .unset, .unset, .unset, .unset, .unset, .unset, .unset, .unset, .unset, .unset, .unset, .unset, .unset] [(.int ib), (.ref b24), (.long (own_t2 (ia).toNatClampNeg))])) rfl rfl (hb hby at_168) _ ?_
    show Steps p.tables e below (T44.setTop (mkF m 169 #[.val (.int p1), .val (.long j0), .second, .val (.long j1), .second, .val (.long j2), .second, .val (.long j3), .second, .val (.ref b2), .val (.ref b24), .val (.int ia), .val (.int ib), .unset, .unset, .unset, .unset, .unset, .unset, .unset, .unset, .unset, .unset, .unset, .unset, .unset, .unset, .unset, .unset, .unset, .unset, .unset, .unset, .unset, .unset, .unset, .unset, .unset] [(.long (own_t5 (ib).toNatClampNeg)), (.long (own_t2 (ia).toNatClampNeg))])) _
    refine XS.lmul XH1.here hx rfl (hb hby at_169) rfl ?_
    show Steps p.tables e below (T44.setTop (mkF m 170 #[.val (.int p1), .val (.long j0), .second, .val (.long j1), .second, .val (.long j2), .second, .val (.long j3), .second, .val (.ref b2), .val (.ref b24), .val (.int ia), .val (.int ib), .unset, .unset, .unset, .unset, .unset, .unset, .unset, .unset, .unset, .unset, .unset, .unset, .unset, .unset, .unset, .unset, .unset, .unset, .unset, .unset, .unset, .unset, .unset, .unset, .unset] [(.long ((own_t2 (ia).toNatClampNeg) * (own_t5 (ib).toNatClampNeg)))])) _
    refine XS.lstore XH1.here hx rfl (hb hby at_170) rfl (l' := #[.val (.int p1), .val (.long j0), .second, .val (.long j1), .second, .val (.long j2), .second, .val (.long j3), .second, .val (.ref b2), .val (.ref b24), .val (.int ia), .val (.int ib), .val (.long ((own_t2 (ia).toNatClampNeg) * (own_t5 (ib).toNatClampNeg))), .second, .unset, .unset, .unset, .unset, .unset, .unset, .unset, .unset, .unset, .unset, .unset, .unset, .unset, .unset, .unset, .unset, .unset, .unset, .unset, .unset, .unset, .unset, .unset]) rfl ?_
    exact kt
  refine Go.adv sg48 ?_
  generalize h_rr : ((own_t2 (ia).toNatClampNeg) * (own_t5 (ib).toNatClampNeg)) = rr
  show Go p.tables e below s _ _ _ (T44.setTop (mkF m 172 #[.val (.int p1), .val (.long j0), .second, .val (.long j1), .second, .val (.long j2), .second, .val (.long j3), .second, .val (.ref b2), .val (.ref b24), .val (.int ia), .val (.int ib), .val (.long rr), .second, .unset, .unset, .unset, .unset, .unset, .unset, .unset, .unset, .unset, .unset, .unset, .unset, .unset, .unset, .unset, .unset, .unset, .unset, .unset, .unset, .unset, .unset, .unset] []))
  rw [h_rr] at hr1 hr2
  have hrz : ¬ (rr = (0 : Int64)) := fun q => by rw [q] at hr2; exact absurd hr2 (by decide)
  have sg49 : ∀ t, Steps p.tables e below (T44.setTop (mkF m 180 #[.val (.int p1), .val (.long j0), .second, .val (.long j1), .second, .val (.long j2), .second, .val (.long j3), .second, .val (.ref b2), .val (.ref b24), .val (.int ia), .val (.int ib), .val (.long rr), .second, .val (.long ((1000000000 : Int64) / rr)), .second, .unset, .unset, .unset, .unset, .unset, .unset, .unset, .unset, .unset, .unset, .unset, .unset, .unset, .unset, .unset, .unset, .unset, .unset, .unset, .unset, .unset] [])) t → Steps p.tables e below (T44.setTop (mkF m 172 #[.val (.int p1), .val (.long j0), .second, .val (.long j1), .second, .val (.long j2), .second, .val (.long j3), .second, .val (.ref b2), .val (.ref b24), .val (.int ia), .val (.int ib), .val (.long rr), .second, .unset, .unset, .unset, .unset, .unset, .unset, .unset, .unset, .unset, .unset, .unset, .unset, .unset, .unset, .unset, .unset, .unset, .unset, .unset, .unset, .unset, .unset, .unset] [])) t := by
    intro t kt
    show Steps p.tables e below (T44.setTop (mkF m 172 #[.val (.int p1), .val (.long j0), .second, .val (.long j1), .second, .val (.long j2), .second, .val (.long j3), .second, .val (.ref b2), .val (.ref b24), .val (.int ia), .val (.int ib), .val (.long rr), .second, .unset, .unset, .unset, .unset, .unset, .unset, .unset, .unset, .unset, .unset, .unset, .unset, .unset, .unset, .unset, .unset, .unset, .unset, .unset, .unset, .unset, .unset, .unset] [])) _
    refine XH1.ldc2Long hx hown (mvT hZ (hw _ (List.mem_of_getElem? (i := 19) rfl))) (g := (mkF m 172 #[.val (.int p1), .val (.long j0), .second, .val (.long j1), .second, .val (.long j2), .second, .val (.long j3), .second, .val (.ref b2), .val (.ref b24), .val (.int ia), .val (.int ib), .val (.long rr), .second, .unset, .unset, .unset, .unset, .unset, .unset, .unset, .unset, .unset, .unset, .unset, .unset, .unset, .unset, .unset, .unset, .unset, .unset, .unset, .unset, .unset, .unset, .unset] [])) rfl (hb hby at_172) _ ?_
    show Steps p.tables e below (T44.setTop (mkF m 175 #[.val (.int p1), .val (.long j0), .second, .val (.long j1), .second, .val (.long j2), .second, .val (.long j3), .second, .val (.ref b2), .val (.ref b24), .val (.int ia), .val (.int ib), .val (.long rr), .second, .unset, .unset, .unset, .unset, .unset, .unset, .unset, .unset, .unset, .unset, .unset, .unset, .unset, .unset, .unset, .unset, .unset, .unset, .unset, .unset, .unset, .unset, .unset] [(.long (1000000000 : Int64))])) _
    refine XS.lload XH1.here hx rfl (hb hby at_175) rfl ?_
    show Steps p.tables e below (T44.setTop (mkF m 177 #[.val (.int p1), .val (.long j0), .second, .val (.long j1), .second, .val (.long j2), .second, .val (.long j3), .second, .val (.ref b2), .val (.ref b24), .val (.int ia), .val (.int ib), .val (.long rr), .second, .unset, .unset, .unset, .unset, .unset, .unset, .unset, .unset, .unset, .unset, .unset, .unset, .unset, .unset, .unset, .unset, .unset, .unset, .unset, .unset, .unset, .unset, .unset] [(.long rr), (.long (1000000000 : Int64))])) _
    refine XS.ldiv XH1.here hx rfl (hb hby at_177) rfl hrz ?_
    show Steps p.tables e below (T44.setTop (mkF m 178 #[.val (.int p1), .val (.long j0), .second, .val (.long j1), .second, .val (.long j2), .second, .val (.long j3), .second, .val (.ref b2), .val (.ref b24), .val (.int ia), .val (.int ib), .val (.long rr), .second, .unset, .unset, .unset, .unset, .unset, .unset, .unset, .unset, .unset, .unset, .unset, .unset, .unset, .unset, .unset, .unset, .unset, .unset, .unset, .unset, .unset, .unset, .unset] [(.long ((1000000000 : Int64) / rr))])) _
    refine XS.lstore XH1.here hx rfl (hb hby at_178) rfl (l' := #[.val (.int p1), .val (.long j0), .second, .val (.long j1), .second, .val (.long j2), .second, .val (.long j3), .second, .val (.ref b2), .val (.ref b24), .val (.int ia), .val (.int ib), .val (.long rr), .second, .val (.long ((1000000000 : Int64) / rr)), .second, .unset, .unset, .unset, .unset, .unset, .unset, .unset, .unset, .unset, .unset, .unset, .unset, .unset, .unset, .unset, .unset, .unset, .unset, .unset, .unset, .unset]) rfl ?_
    exact kt
  refine Go.adv sg49 ?_
  generalize h_nn : ((1000000000 : Int64) / rr) = nn
  show Go p.tables e below s _ _ _ (T44.setTop (mkF m 180 #[.val (.int p1), .val (.long j0), .second, .val (.long j1), .second, .val (.long j2), .second, .val (.long j3), .second, .val (.ref b2), .val (.ref b24), .val (.int ia), .val (.int ib), .val (.long rr), .second, .val (.long nn), .second, .unset, .unset, .unset, .unset, .unset, .unset, .unset, .unset, .unset, .unset, .unset, .unset, .unset, .unset, .unset, .unset, .unset, .unset, .unset, .unset, .unset] []))
  rw [h_nn] at hr1
  obtain ⟨hN, hD, hn1, hn2⟩ := own_npr hr1 hr2
  obtain ⟨m0, d0⟩ := own_turn (0 : Int64) hD hn1 hn2 (by decide)
  obtain ⟨m1, d1⟩ := own_turn (1 : Int64) hD hn1 hn2 (by decide)
  obtain ⟨m2, d2⟩ := own_turn (2 : Int64) hD hn1 hn2 (by decide)
  obtain ⟨m3, d3⟩ := own_turn (3 : Int64) hD hn1 hn2 (by decide)
  have z0 : (0 : Int64) * nn = 0 := Int64.zero_mul
  have z1 : (1 : Int64) * nn = nn := Int64.one_mul nn
  rw [z0] at d0
  rw [z1] at d1
  have m1' : OwnNum (FP.dmul (FP.l2d ((0 : Int64) + (1 : Int64))) (FP.ddiv (4741671816366391296 : UInt64) (FP.l2d rr))) := m1
  have d1' : FP.d2l (FP.dmul (FP.l2d ((0 : Int64) + (1 : Int64))) (FP.ddiv (4741671816366391296 : UInt64) (FP.l2d rr))) = nn := d1
  have m2' : OwnNum (FP.dmul (FP.l2d (((0 : Int64) + (1 : Int64)) + (1 : Int64))) (FP.ddiv (4741671816366391296 : UInt64) (FP.l2d rr))) := m2
  have d2' : FP.d2l (FP.dmul (FP.l2d (((0 : Int64) + (1 : Int64)) + (1 : Int64))) (FP.ddiv (4741671816366391296 : UInt64) (FP.l2d rr))) = ((2 : Int64) * nn) := d2
  have m3' : OwnNum (FP.dmul (FP.l2d ((((0 : Int64) + (1 : Int64)) + (1 : Int64)) + (1 : Int64))) (FP.ddiv (4741671816366391296 : UInt64) (FP.l2d rr))) := m3
  have d3' : FP.d2l (FP.dmul (FP.l2d ((((0 : Int64) + (1 : Int64)) + (1 : Int64)) + (1 : Int64))) (FP.ddiv (4741671816366391296 : UInt64) (FP.l2d rr))) = ((3 : Int64) * nn) := d3
  have l1 : ((j0 + j1) - (j0 + (0 : Int64))) = j1 := by rw [Int64.add_zero]; exact own_back _ _
  have l2 : ((((j0 + (own_shift j1)) + nn) + j2) - ((j0 + (own_shift j1)) + nn)) = j2 := own_back _ _
  have l3 : (((((j0 + (own_shift j1)) + (own_shift j2)) + ((2 : Int64) * nn)) + j3) - (((j0 + (own_shift j1)) + (own_shift j2)) + ((2 : Int64) * nn))) = j3 := own_back _ _
  obtain ⟨T50, h50, X50, e50, E50, A50, D50, -, st50⟩ := newO XH1 hx hZ hown (hw _ (List.mem_of_getElem? (i := 20) rfl)) (hw _ (List.mem_of_getElem? (i := 21) rfl)) (hw _ (List.mem_of_getElem? (i := 22) rfl)) e44 (g := (mkF m 180 #[.val (.int p1), .val (.long j0), .second, .val (.long j1), .second, .val (.long j2), .second, .val (.long j3), .second, .val (.ref b2), .val (.ref b24), .val (.int ia), .val (.int ib), .val (.long rr), .second, .val (.long nn), .second, .unset, .unset, .unset, .unset, .unset, .unset, .unset, .unset, .unset, .unset, .unset, .unset, .unset, .unset, .unset, .unset, .unset, .unset, .unset, .unset, .unset] [])) rfl (hb hby at_180) (by decide) (by decide)
  obtain ⟨b50, gb50⟩ : ∃ z, z = h44.size := ⟨_, rfl⟩
  rw [← gb50] at A50 D50 st50
  have g_b50 : n0 ≤ b50 := Nat.le_trans Z44 (Nat.le_of_eq gb50.symm)
  have sz_b50 : h0.size ≤ b50 := Nat.le_trans K44.1 (Nat.le_of_eq gb50.symm)
  have ne_b2_b50 : b2 ≠ b50 := Nat.ne_of_lt (Nat.lt_of_lt_of_le f47.lt (Nat.le_of_eq gb50.symm))
  have ne_b24_b50 : b24 ≠ b50 := Nat.ne_of_lt (Nat.lt_of_lt_of_le V_b24_44.lt (Nat.le_of_eq gb50.symm))
  have K50 : Keep h0 h50 [] := K44.ext E50
  have Z50 : n0 ≤ h50.size := Nat.le_trans Z44 E50.1
  have F_perSecond_b50 : Fld Z h50 b50 "com/example/ballast/ballast/Pacer" "perSecond" "J" (.long (0 : Int64)) := D50 (Or.inr (hw _ (List.mem_of_getElem? (i := 30) rfl))) (ty := .long) (by decide)
  have F_nanosPerRecord_b50 : Fld Z h50 b50 "com/example/ballast/ballast/Pacer" "nanosPerRecord" "D" (.double (0 : UInt64)) := D50 (Or.inr (hw _ (List.mem_of_getElem? (i := 33) rfl))) (ty := .double) (by decide)
  have F_origin_b50 : Fld Z h50 b50 "com/example/ballast/ballast/Pacer" "origin" "J" (.long (0 : Int64)) := D50 (Or.inl (hw _ (List.mem_of_getElem? (i := 35) rfl))) (ty := .long) (by decide)
  have F_windowStart_b50 : Fld Z h50 b50 "com/example/ballast/ballast/Pacer" "windowStart" "J" (.long (0 : Int64)) := D50 (Or.inl (hw _ (List.mem_of_getElem? (i := 37) rfl))) (ty := .long) (by decide)
  have F_taken_b50 : Fld Z h50 b50 "com/example/ballast/ballast/Pacer" "taken" "J" (.long (0 : Int64)) := D50 (Or.inl (hw _ (List.mem_of_getElem? (i := 49) rfl))) (ty := .long) (by decide)
  have F_windowTaken_b50 : Fld Z h50 b50 "com/example/ballast/ballast/Pacer" "windowTaken" "J" (.long (0 : Int64)) := D50 (Or.inl (hw _ (List.mem_of_getElem? (i := 52) rfl))) (ty := .long) (by decide)
  refine Go.adv st50 ?_
  show Go p.tables e below s _ _ _ (T50.setTop (mkF m 183 #[.val (.int p1), .val (.long j0), .second, .val (.long j1), .second, .val (.long j2), .second, .val (.long j3), .second, .val (.ref b2), .val (.ref b24), .val (.int ia), .val (.int ib), .val (.long rr), .second, .val (.long nn), .second, .unset, .unset, .unset, .unset, .unset, .unset, .unset, .unset, .unset, .unset, .unset, .unset, .unset, .unset, .unset, .unset, .unset, .unset, .unset, .unset, .unset] [(.ref b50)]))
  have sg51 : ∀ t, Steps p.tables e below (T50.setTop (mkF m 187 #[.val (.int p1), .val (.long j0), .second, .val (.long j1), .second, .val (.long j2), .second, .val (.long j3), .second, .val (.ref b2), .val (.ref b24), .val (.int ia), .val (.int ib), .val (.long rr), .second, .val (.long nn), .second, .unset, .unset, .unset, .unset, .unset, .unset, .unset, .unset, .unset, .unset, .unset, .unset, .unset, .unset, .unset, .unset, .unset, .unset, .unset, .unset, .unset] [(.long j0), (.long rr), (.ref b50), (.ref b50)])) t → Steps p.tables e below (T50.setTop (mkF m 183 #[.val (.int p1), .val (.long j0), .second, .val (.long j1), .second, .val (.long j2), .second, .val (.long j3), .second, .val (.ref b2), .val (.ref b24), .val (.int ia), .val (.int ib), .val (.long rr), .second, .val (.long nn), .second, .unset, .unset, .unset, .unset, .unset, .unset, .unset, .unset, .unset, .unset, .unset, .unset, .unset, .unset, .unset, .unset, .unset, .unset, .unset, .unset, .unset] [(.ref b50)])) t := by
    intro t kt
    show Steps p.tables e below (T50.setTop (mkF m 183 #[.val (.int p1), .val (.long j0), .second, .val (.long j1), .second, .val (.long j2), .second, .val (.long j3), .second, .val (.ref b2), .val (.ref b24), .val (.int ia), .val (.int ib), .val (.long rr), .second, .val (.long nn), .second, .unset, .unset, .unset, .unset, .unset, .unset, .unset, .unset, .unset, .unset, .unset, .unset, .unset, .unset, .unset, .unset, .unset, .unset, .unset, .unset, .unset] [(.ref b50)])) _
    refine XS.dup X50.here hx rfl (hb hby at_183) rfl rfl ?_
    show Steps p.tables e below (T50.setTop (mkF m 184 #[.val (.int p1), .val (.long j0), .second, .val (.long j1), .second, .val (.long j2), .second, .val (.long j3), .second, .val (.ref b2), .val (.ref b24), .val (.int ia), .val (.int ib), .val (.long rr), .second, .val (.long nn), .second, .unset, .unset, .unset, .unset, .unset, .unset, .unset, .unset, .unset, .unset, .unset, .unset, .unset, .unset, .unset, .unset, .unset, .unset, .unset, .unset, .unset] [(.ref b50), (.ref b50)])) _
    refine XS.lload X50.here hx rfl (hb hby at_184) rfl ?_
    show Steps p.tables e below (T50.setTop (mkF m 186 #[.val (.int p1), .val (.long j0), .second, .val (.long j1), .second, .val (.long j2), .second, .val (.long j3), .second, .val (.ref b2), .val (.ref b24), .val (.int ia), .val (.int ib), .val (.long rr), .second, .val (.long nn), .second, .unset, .unset, .unset, .unset, .unset, .unset, .unset, .unset, .unset, .unset, .unset, .unset, .unset, .unset, .unset, .unset, .unset, .unset, .unset, .unset, .unset] [(.long rr), (.ref b50), (.ref b50)])) _
    refine XS.lloadN X50.here hx rfl (hb hby at_186) rfl ?_
    exact kt
  refine Go.adv sg51 ?_
  obtain ⟨_, _, ⟨T52, L52, k52, n52⟩, -, X52, ⟨Lc52, hQ52, l52, y52, z52⟩, st52⟩ := X50.specialBack hx (y := (⟨"com/example/ballast/ballast/Pacer", "<init>", "(JJ)V"⟩ : MethodName)) rfl hown (mvT hZ (hw _ (List.mem_of_getElem? (i := 23) rfl))) (mvT hZ (hw _ (List.mem_of_getElem? (i := 24) rfl))) (mvT hZ (hw _ (List.mem_of_getElem? (i := 25) rfl))) (by decide) (backOf (W := 1) (rm_init l Z a0 hw [] b50 rr j0 (.long (0 : Int64)) (.double (0 : UInt64)) (.long (0 : Int64)) (.long (0 : Int64)) (.long (0 : Int64)) (.long (0 : Int64)) h50 n0 Z50 A50 g_b50 F_perSecond_b50 F_nanosPerRecord_b50 F_origin_b50 F_windowStart_b50 F_taken_b50 F_windowTaken_b50 hN) hZ (hw _ (List.mem_of_getElem? (i := 25) rfl)) (hw _ (List.mem_of_getElem? (i := 22) rfl)) (by decide) (by decide)) (g := (mkF m 187 #[.val (.int p1), .val (.long j0), .second, .val (.long j1), .second, .val (.long j2), .second, .val (.long j3), .second, .val (.ref b2), .val (.ref b24), .val (.int ia), .val (.int ib), .val (.long rr), .second, .val (.long nn), .second, .unset, .unset, .unset, .unset, .unset, .unset, .unset, .unset, .unset, .unset, .unset, .unset, .unset, .unset, .unset, .unset, .unset, .unset, .unset, .unset, .unset] [(.long j0), (.long rr), (.ref b50), (.ref b50)])) rfl (by rw [hml]; rfl) (Steps.refl _) (a := b50) (argsL := [(.long rr), (.long j0)]) (rest := [(.ref b50)]) (lenOf pd_oJJcV rfl) rfl (by show 2 * 0 + _ ≤ _; exact Nat.le_of_eq rfl) (hb hby at_187) (fun _ _ => ⟨rfl, e50, (by decide : 3 + 0 ≤ _), (by decide : 26 + 0 ≤ _)⟩)
  dsimp only [Pt.U, Pt.locs, Pt.cells, Pt.slots] at X52 l52 y52 z52 st52 hQ52
  subst l52 y52 z52
  obtain ⟨rfl, N52q, Kc52, p52_0, p52_1, p52_2, p52_3, p52_4, p52_5, p52_6⟩ := hQ52
  have N52 := Fr.app NH1 N52q
  have K52 : Keep h0 T52.heap [] := K50.trans Kc52 (allS (Or.inr sz_b50) all0)
  have Z52 : n0 ≤ T52.heap.size := Nat.le_trans Z50 Kc52.1
  refine Go.tr st52 ?_
  show Go p.tables e below s _ _ _ (T52.setTop (mkF m 190 #[.val (.int p1), .val (.long j0), .second, .val (.long j1), .second, .val (.long j2), .second, .val (.long j3), .second, .val (.ref b2), .val (.ref b24), .val (.int ia), .val (.int ib), .val (.long rr), .second, .val (.long nn), .second, .unset, .unset, .unset, .unset, .unset, .unset, .unset, .unset, .unset, .unset, .unset, .unset, .unset, .unset, .unset, .unset, .unset, .unset, .unset, .unset, .unset] [(.ref b50)]))
  have sg53 : ∀ t, Steps p.tables e below (T52.setTop (mkF m 204 #[.val (.int p1), .val (.long j0), .second, .val (.long j1), .second, .val (.long j2), .second, .val (.long j3), .second, .val (.ref b2), .val (.ref b24), .val (.int ia), .val (.int ib), .val (.long rr), .second, .val (.long nn), .second, .val (.ref b50), .val (.long j0), .second, .val (.long (j0 + j1)), .second, .unset, .unset, .unset, .unset, .unset, .unset, .unset, .unset, .unset, .unset, .unset, .unset, .unset, .unset, .unset, .unset] [(.long (j0 + j1)), (.ref b50)])) t → Steps p.tables e below (T52.setTop (mkF m 190 #[.val (.int p1), .val (.long j0), .second, .val (.long j1), .second, .val (.long j2), .second, .val (.long j3), .second, .val (.ref b2), .val (.ref b24), .val (.int ia), .val (.int ib), .val (.long rr), .second, .val (.long nn), .second, .unset, .unset, .unset, .unset, .unset, .unset, .unset, .unset, .unset, .unset, .unset, .unset, .unset, .unset, .unset, .unset, .unset, .unset, .unset, .unset, .unset] [(.ref b50)])) t := by
    intro t kt
    show Steps p.tables e below (T52.setTop (mkF m 190 #[.val (.int p1), .val (.long j0), .second, .val (.long j1), .second, .val (.long j2), .second, .val (.long j3), .second, .val (.ref b2), .val (.ref b24), .val (.int ia), .val (.int ib), .val (.long rr), .second, .val (.long nn), .second, .unset, .unset, .unset, .unset, .unset, .unset, .unset, .unset, .unset, .unset, .unset, .unset, .unset, .unset, .unset, .unset, .unset, .unset, .unset, .unset, .unset] [(.ref b50)])) _
    refine XS.astore X52.here hx rfl (hb hby at_190) rfl rfl (l' := #[.val (.int p1), .val (.long j0), .second, .val (.long j1), .second, .val (.long j2), .second, .val (.long j3), .second, .val (.ref b2), .val (.ref b24), .val (.int ia), .val (.int ib), .val (.long rr), .second, .val (.long nn), .second, .val (.ref b50), .unset, .unset, .unset, .unset, .unset, .unset, .unset, .unset, .unset, .unset, .unset, .unset, .unset, .unset, .unset, .unset, .unset, .unset, .unset, .unset]) rfl ?_
    show Steps p.tables e below (T52.setTop (mkF m 192 #[.val (.int p1), .val (.long j0), .second, .val (.long j1), .second, .val (.long j2), .second, .val (.long j3), .second, .val (.ref b2), .val (.ref b24), .val (.int ia), .val (.int ib), .val (.long rr), .second, .val (.long nn), .second, .val (.ref b50), .unset, .unset, .unset, .unset, .unset, .unset, .unset, .unset, .unset, .unset, .unset, .unset, .unset, .unset, .unset, .unset, .unset, .unset, .unset, .unset] [])) _
    refine XS.lloadN X52.here hx rfl (hb hby at_192) rfl ?_
    show Steps p.tables e below (T52.setTop (mkF m 193 #[.val (.int p1), .val (.long j0), .second, .val (.long j1), .second, .val (.long j2), .second, .val (.long j3), .second, .val (.ref b2), .val (.ref b24), .val (.int ia), .val (.int ib), .val (.long rr), .second, .val (.long nn), .second, .val (.ref b50), .unset, .unset, .unset, .unset, .unset, .unset, .unset, .unset, .unset, .unset, .unset, .unset, .unset, .unset, .unset, .unset, .unset, .unset, .unset, .unset] [(.long j0)])) _
    refine XS.lstore X52.here hx rfl (hb hby at_193) rfl (l' := #[.val (.int p1), .val (.long j0), .second, .val (.long j1), .second, .val (.long j2), .second, .val (.long j3), .second, .val (.ref b2), .val (.ref b24), .val (.int ia), .val (.int ib), .val (.long rr), .second, .val (.long nn), .second, .val (.ref b50), .val (.long j0), .second, .unset, .unset, .unset, .unset, .unset, .unset, .unset, .unset, .unset, .unset, .unset, .unset, .unset, .unset, .unset, .unset, .unset, .unset]) rfl ?_
    show Steps p.tables e below (T52.setTop (mkF m 195 #[.val (.int p1), .val (.long j0), .second, .val (.long j1), .second, .val (.long j2), .second, .val (.long j3), .second, .val (.ref b2), .val (.ref b24), .val (.int ia), .val (.int ib), .val (.long rr), .second, .val (.long nn), .second, .val (.ref b50), .val (.long j0), .second, .unset, .unset, .unset, .unset, .unset, .unset, .unset, .unset, .unset, .unset, .unset, .unset, .unset, .unset, .unset, .unset, .unset, .unset] [])) _
    refine XS.lloadN X52.here hx rfl (hb hby at_195) rfl ?_
    show Steps p.tables e below (T52.setTop (mkF m 196 #[.val (.int p1), .val (.long j0), .second, .val (.long j1), .second, .val (.long j2), .second, .val (.long j3), .second, .val (.ref b2), .val (.ref b24), .val (.int ia), .val (.int ib), .val (.long rr), .second, .val (.long nn), .second, .val (.ref b50), .val (.long j0), .second, .unset, .unset, .unset, .unset, .unset, .unset, .unset, .unset, .unset, .unset, .unset, .unset, .unset, .unset, .unset, .unset, .unset, .unset] [(.long j0)])) _
    refine XS.lloadN X52.here hx rfl (hb hby at_196) rfl ?_
    show Steps p.tables e below (T52.setTop (mkF m 197 #[.val (.int p1), .val (.long j0), .second, .val (.long j1), .second, .val (.long j2), .second, .val (.long j3), .second, .val (.ref b2), .val (.ref b24), .val (.int ia), .val (.int ib), .val (.long rr), .second, .val (.long nn), .second, .val (.ref b50), .val (.long j0), .second, .unset, .unset, .unset, .unset, .unset, .unset, .unset, .unset, .unset, .unset, .unset, .unset, .unset, .unset, .unset, .unset, .unset, .unset] [(.long j1), (.long j0)])) _
    refine XS.ladd X52.here hx rfl (hb hby at_197) rfl ?_
    show Steps p.tables e below (T52.setTop (mkF m 198 #[.val (.int p1), .val (.long j0), .second, .val (.long j1), .second, .val (.long j2), .second, .val (.long j3), .second, .val (.ref b2), .val (.ref b24), .val (.int ia), .val (.int ib), .val (.long rr), .second, .val (.long nn), .second, .val (.ref b50), .val (.long j0), .second, .unset, .unset, .unset, .unset, .unset, .unset, .unset, .unset, .unset, .unset, .unset, .unset, .unset, .unset, .unset, .unset, .unset, .unset] [(.long (j0 + j1))])) _
    refine XS.lstore X52.here hx rfl (hb hby at_198) rfl (l' := #[.val (.int p1), .val (.long j0), .second, .val (.long j1), .second, .val (.long j2), .second, .val (.long j3), .second, .val (.ref b2), .val (.ref b24), .val (.int ia), .val (.int ib), .val (.long rr), .second, .val (.long nn), .second, .val (.ref b50), .val (.long j0), .second, .val (.long (j0 + j1)), .second, .unset, .unset, .unset, .unset, .unset, .unset, .unset, .unset, .unset, .unset, .unset, .unset, .unset, .unset, .unset, .unset]) rfl ?_
    show Steps p.tables e below (T52.setTop (mkF m 200 #[.val (.int p1), .val (.long j0), .second, .val (.long j1), .second, .val (.long j2), .second, .val (.long j3), .second, .val (.ref b2), .val (.ref b24), .val (.int ia), .val (.int ib), .val (.long rr), .second, .val (.long nn), .second, .val (.ref b50), .val (.long j0), .second, .val (.long (j0 + j1)), .second, .unset, .unset, .unset, .unset, .unset, .unset, .unset, .unset, .unset, .unset, .unset, .unset, .unset, .unset, .unset, .unset] [])) _
    refine XS.aload X52.here hx rfl (hb hby at_200) rfl rfl ?_
    show Steps p.tables e below (T52.setTop (mkF m 202 #[.val (.int p1), .val (.long j0), .second, .val (.long j1), .second, .val (.long j2), .second, .val (.long j3), .second, .val (.ref b2), .val (.ref b24), .val (.int ia), .val (.int ib), .val (.long rr), .second, .val (.long nn), .second, .val (.ref b50), .val (.long j0), .second, .val (.long (j0 + j1)), .second, .unset, .unset, .unset, .unset, .unset, .unset, .unset, .unset, .unset, .unset, .unset, .unset, .unset, .unset, .unset, .unset] [(.ref b50)])) _
    refine XS.lload X52.here hx rfl (hb hby at_202) rfl ?_
    exact kt
  refine Go.adv sg53 ?_
  obtain ⟨cq54, kq54, q54a, q54b, q54c⟩ := isOf hZ rfl p52_0
  obtain ⟨_, _, ⟨T54, L54, k54, n54⟩, -, X54, ⟨Lc54, hQ54, l54, y54, z54⟩, st54⟩ := X52.virtualBack hx (y := (⟨"com/example/ballast/ballast/Pacer", "take", "(J)V"⟩ : MethodName)) (z := (⟨"com/example/ballast/ballast/Pacer", "take", "(J)V"⟩ : MethodName)) hown (mvT hZ (hw _ (List.mem_of_getElem? (i := 38) rfl))) (mvT hZ (hw _ (List.mem_of_getElem? (i := 39) rfl))) (notFace_of_selects (args := #[]) (mvT hZ (hw _ (List.mem_of_getElem? (i := 41) rfl)))) (mvT hZ (hw _ (List.mem_of_getElem? (i := 41) rfl))) (mvT hZ (hw _ (List.mem_of_getElem? (i := 40) rfl))) (by decide) (backOf (W := 0) (rm_take l Z a0 hw [] b50 (j0 + j1) j0 (0 : Int64) (0 : Int64) (FP.ddiv (4741671816366391296 : UInt64) (FP.l2d rr)) (0 : Int64) j1 T52.heap n0 Z52 p52_0 g_b50 p52_3 p52_5 p52_6 p52_2 m0 d0 l1) hZ (hw _ (List.mem_of_getElem? (i := 42) rfl)) (hw _ (List.mem_of_getElem? (i := 22) rfl)) (by decide) (by decide)) q54a q54c (g := (mkF m 204 #[.val (.int p1), .val (.long j0), .second, .val (.long j1), .second, .val (.long j2), .second, .val (.long j3), .second, .val (.ref b2), .val (.ref b24), .val (.int ia), .val (.int ib), .val (.long rr), .second, .val (.long nn), .second, .val (.ref b50), .val (.long j0), .second, .val (.long (j0 + j1)), .second, .unset, .unset, .unset, .unset, .unset, .unset, .unset, .unset, .unset, .unset, .unset, .unset, .unset, .unset, .unset, .unset] [(.long (j0 + j1)), (.ref b50)])) rfl (by rw [hml]; rfl) (Steps.refl _) (argsL := [(.long (j0 + j1))]) (rest := []) (lenOf pd_oJcV rfl) rfl (by show 2 * 0 + _ ≤ _; exact Nat.le_of_eq rfl) (hb hby at_204) (fun _ _ => ⟨rfl, rfl, (by decide : 3 + 0 ≤ _), (by decide : 26 + 0 ≤ _)⟩)
  dsimp only [Pt.U, Pt.locs, Pt.cells, Pt.slots] at X54 l54 y54 z54 st54 hQ54
  subst l54 y54 z54
  obtain ⟨rfl, N54q, Kc54, p54_0, p54_1, p54_2, p54_3, p54_4⟩ := hQ54
  have N54 := Fr.app N52 N54q
  have K54 : Keep h0 T54.heap [] := K52.trans Kc54 (allS (Or.inr sz_b50) all0)
  have Z54 : n0 ≤ T54.heap.size := Nat.le_trans Z52 Kc54.1
  refine Go.tr st54 ?_
  show Go p.tables e below s _ _ _ (T54.setTop (mkF m 207 #[.val (.int p1), .val (.long j0), .second, .val (.long j1), .second, .val (.long j2), .second, .val (.long j3), .second, .val (.ref b2), .val (.ref b24), .val (.int ia), .val (.int ib), .val (.long rr), .second, .val (.long nn), .second, .val (.ref b50), .val (.long j0), .second, .val (.long (j0 + j1)), .second, .unset, .unset, .unset, .unset, .unset, .unset, .unset, .unset, .unset, .unset, .unset, .unset, .unset, .unset, .unset, .unset] []))
  have sg55 : ∀ t, Steps p.tables e below (T54.setTop (mkF m 210 #[.val (.int p1), .val (.long j0), .second, .val (.long j1), .second, .val (.long j2), .second, .val (.long j3), .second, .val (.ref b2), .val (.ref b24), .val (.int ia), .val (.int ib), .val (.long rr), .second, .val (.long nn), .second, .val (.ref b50), .val (.long j0), .second, .val (.long (j0 + j1)), .second, .unset, .unset, .unset, .unset, .unset, .unset, .unset, .unset, .unset, .unset, .unset, .unset, .unset, .unset, .unset, .unset] [(.long j1), (.long j0)])) t → Steps p.tables e below (T54.setTop (mkF m 207 #[.val (.int p1), .val (.long j0), .second, .val (.long j1), .second, .val (.long j2), .second, .val (.long j3), .second, .val (.ref b2), .val (.ref b24), .val (.int ia), .val (.int ib), .val (.long rr), .second, .val (.long nn), .second, .val (.ref b50), .val (.long j0), .second, .val (.long (j0 + j1)), .second, .unset, .unset, .unset, .unset, .unset, .unset, .unset, .unset, .unset, .unset, .unset, .unset, .unset, .unset, .unset, .unset] [])) t := by
    intro t kt
    show Steps p.tables e below (T54.setTop (mkF m 207 #[.val (.int p1), .val (.long j0), .second, .val (.long j1), .second, .val (.long j2), .second, .val (.long j3), .second, .val (.ref b2), .val (.ref b24), .val (.int ia), .val (.int ib), .val (.long rr), .second, .val (.long nn), .second, .val (.ref b50), .val (.long j0), .second, .val (.long (j0 + j1)), .second, .unset, .unset, .unset, .unset, .unset, .unset, .unset, .unset, .unset, .unset, .unset, .unset, .unset, .unset, .unset, .unset] [])) _
    refine XS.lload X54.here hx rfl (hb hby at_207) rfl ?_
    show Steps p.tables e below (T54.setTop (mkF m 209 #[.val (.int p1), .val (.long j0), .second, .val (.long j1), .second, .val (.long j2), .second, .val (.long j3), .second, .val (.ref b2), .val (.ref b24), .val (.int ia), .val (.int ib), .val (.long rr), .second, .val (.long nn), .second, .val (.ref b50), .val (.long j0), .second, .val (.long (j0 + j1)), .second, .unset, .unset, .unset, .unset, .unset, .unset, .unset, .unset, .unset, .unset, .unset, .unset, .unset, .unset, .unset, .unset] [(.long j0)])) _
    refine XS.lloadN X54.here hx rfl (hb hby at_209) rfl ?_
    exact kt
  refine Go.adv sg55 ?_
  obtain ⟨_, _, ⟨T56, L56, k56, n56⟩, -, X56, ⟨Lc56, hQ56, l56, y56, z56⟩, st56⟩ := Jvm.LawKit.callS X54 hx (y := (⟨"com/example/ballast/ballast/PacerTakePinLaw", "shift", "(J)J"⟩ : MethodName)) hown (mvT hZ (hw _ (List.mem_of_getElem? (i := 53) rfl))) (mvT hZ (hw _ (List.mem_of_getElem? (i := 54) rfl))) (mvT hZ (hw _ (List.mem_of_getElem? (i := 55) rfl))) (mvT hZ (hw _ (List.mem_of_getElem? (i := 56) rfl))) (by decide) (backOf (W := 2) (rm_shift l Z a0 hw [] j1  T54.heap n0 Z54 ) hZ (hw _ (List.mem_of_getElem? (i := 56) rfl)) (hw _ (List.mem_of_getElem? (i := 55) rfl)) (by decide) (by decide)) (g := (mkF m 210 #[.val (.int p1), .val (.long j0), .second, .val (.long j1), .second, .val (.long j2), .second, .val (.long j3), .second, .val (.ref b2), .val (.ref b24), .val (.int ia), .val (.int ib), .val (.long rr), .second, .val (.long nn), .second, .val (.ref b50), .val (.long j0), .second, .val (.long (j0 + j1)), .second, .unset, .unset, .unset, .unset, .unset, .unset, .unset, .unset, .unset, .unset, .unset, .unset, .unset, .unset, .unset, .unset] [(.long j1), (.long j0)])) rfl (by rw [hml]; rfl) (argsL := [(.long j1)]) (rest := [(.long j0)]) (lenOf pd_oJcJ rfl) rfl (by show 2 * 0 + _ ≤ _; exact Nat.le_of_eq rfl) (hb hby at_210) (fun _ _ => ⟨rfl, rfl, (by decide : 3 + 0 ≤ _), (by decide : 26 + 0 ≤ _)⟩)
  dsimp only [Pt.U, Pt.locs, Pt.cells, Pt.slots] at X56 l56 y56 z56 st56 hQ56
  subst l56 y56 z56
  obtain ⟨rfl, N56q, e56⟩ := hQ56
  have N56 := Fr.app N54 N56q
  refine Go.adv st56 ?_
  show Go p.tables e below s _ _ _ (T56.setTop (mkF m 213 #[.val (.int p1), .val (.long j0), .second, .val (.long j1), .second, .val (.long j2), .second, .val (.long j3), .second, .val (.ref b2), .val (.ref b24), .val (.int ia), .val (.int ib), .val (.long rr), .second, .val (.long nn), .second, .val (.ref b50), .val (.long j0), .second, .val (.long (j0 + j1)), .second, .unset, .unset, .unset, .unset, .unset, .unset, .unset, .unset, .unset, .unset, .unset, .unset, .unset, .unset, .unset, .unset] [(.long (own_shift j1)), (.long j0)]))
  have sg57 : ∀ t, Steps p.tables e below (T56.setTop (mkF m 225 #[.val (.int p1), .val (.long j0), .second, .val (.long j1), .second, .val (.long j2), .second, .val (.long j3), .second, .val (.ref b2), .val (.ref b24), .val (.int ia), .val (.int ib), .val (.long rr), .second, .val (.long nn), .second, .val (.ref b50), .val (.long (j0 + (own_shift j1))), .second, .val (.long (j0 + j1)), .second, .val (.long ((j0 + (own_shift j1)) + nn)), .second, .unset, .unset, .unset, .unset, .unset, .unset, .unset, .unset, .unset, .unset, .unset, .unset, .unset, .unset] [(.ref b50)])) t → Steps p.tables e below (T56.setTop (mkF m 213 #[.val (.int p1), .val (.long j0), .second, .val (.long j1), .second, .val (.long j2), .second, .val (.long j3), .second, .val (.ref b2), .val (.ref b24), .val (.int ia), .val (.int ib), .val (.long rr), .second, .val (.long nn), .second, .val (.ref b50), .val (.long j0), .second, .val (.long (j0 + j1)), .second, .unset, .unset, .unset, .unset, .unset, .unset, .unset, .unset, .unset, .unset, .unset, .unset, .unset, .unset, .unset, .unset] [(.long (own_shift j1)), (.long j0)])) t := by
    intro t kt
    show Steps p.tables e below (T56.setTop (mkF m 213 #[.val (.int p1), .val (.long j0), .second, .val (.long j1), .second, .val (.long j2), .second, .val (.long j3), .second, .val (.ref b2), .val (.ref b24), .val (.int ia), .val (.int ib), .val (.long rr), .second, .val (.long nn), .second, .val (.ref b50), .val (.long j0), .second, .val (.long (j0 + j1)), .second, .unset, .unset, .unset, .unset, .unset, .unset, .unset, .unset, .unset, .unset, .unset, .unset, .unset, .unset, .unset, .unset] [(.long (own_shift j1)), (.long j0)])) _
    refine XS.ladd X56.here hx rfl (hb hby at_213) rfl ?_
    show Steps p.tables e below (T56.setTop (mkF m 214 #[.val (.int p1), .val (.long j0), .second, .val (.long j1), .second, .val (.long j2), .second, .val (.long j3), .second, .val (.ref b2), .val (.ref b24), .val (.int ia), .val (.int ib), .val (.long rr), .second, .val (.long nn), .second, .val (.ref b50), .val (.long j0), .second, .val (.long (j0 + j1)), .second, .unset, .unset, .unset, .unset, .unset, .unset, .unset, .unset, .unset, .unset, .unset, .unset, .unset, .unset, .unset, .unset] [(.long (j0 + (own_shift j1)))])) _
    refine XS.lstore X56.here hx rfl (hb hby at_214) rfl (l' := #[.val (.int p1), .val (.long j0), .second, .val (.long j1), .second, .val (.long j2), .second, .val (.long j3), .second, .val (.ref b2), .val (.ref b24), .val (.int ia), .val (.int ib), .val (.long rr), .second, .val (.long nn), .second, .val (.ref b50), .val (.long (j0 + (own_shift j1))), .second, .val (.long (j0 + j1)), .second, .unset, .unset, .unset, .unset, .unset, .unset, .unset, .unset, .unset, .unset, .unset, .unset, .unset, .unset, .unset, .unset]) rfl ?_
    show Steps p.tables e below (T56.setTop (mkF m 216 #[.val (.int p1), .val (.long j0), .second, .val (.long j1), .second, .val (.long j2), .second, .val (.long j3), .second, .val (.ref b2), .val (.ref b24), .val (.int ia), .val (.int ib), .val (.long rr), .second, .val (.long nn), .second, .val (.ref b50), .val (.long (j0 + (own_shift j1))), .second, .val (.long (j0 + j1)), .second, .unset, .unset, .unset, .unset, .unset, .unset, .unset, .unset, .unset, .unset, .unset, .unset, .unset, .unset, .unset, .unset] [])) _
    refine XS.lload X56.here hx rfl (hb hby at_216) rfl ?_
    show Steps p.tables e below (T56.setTop (mkF m 218 #[.val (.int p1), .val (.long j0), .second, .val (.long j1), .second, .val (.long j2), .second, .val (.long j3), .second, .val (.ref b2), .val (.ref b24), .val (.int ia), .val (.int ib), .val (.long rr), .second, .val (.long nn), .second, .val (.ref b50), .val (.long (j0 + (own_shift j1))), .second, .val (.long (j0 + j1)), .second, .unset, .unset, .unset, .unset, .unset, .unset, .unset, .unset, .unset, .unset, .unset, .unset, .unset, .unset, .unset, .unset] [(.long (j0 + (own_shift j1)))])) _
    refine XS.lload X56.here hx rfl (hb hby at_218) rfl ?_
    show Steps p.tables e below (T56.setTop (mkF m 220 #[.val (.int p1), .val (.long j0), .second, .val (.long j1), .second, .val (.long j2), .second, .val (.long j3), .second, .val (.ref b2), .val (.ref b24), .val (.int ia), .val (.int ib), .val (.long rr), .second, .val (.long nn), .second, .val (.ref b50), .val (.long (j0 + (own_shift j1))), .second, .val (.long (j0 + j1)), .second, .unset, .unset, .unset, .unset, .unset, .unset, .unset, .unset, .unset, .unset, .unset, .unset, .unset, .unset, .unset, .unset] [(.long nn), (.long (j0 + (own_shift j1)))])) _
    refine XS.ladd X56.here hx rfl (hb hby at_220) rfl ?_
    show Steps p.tables e below (T56.setTop (mkF m 221 #[.val (.int p1), .val (.long j0), .second, .val (.long j1), .second, .val (.long j2), .second, .val (.long j3), .second, .val (.ref b2), .val (.ref b24), .val (.int ia), .val (.int ib), .val (.long rr), .second, .val (.long nn), .second, .val (.ref b50), .val (.long (j0 + (own_shift j1))), .second, .val (.long (j0 + j1)), .second, .unset, .unset, .unset, .unset, .unset, .unset, .unset, .unset, .unset, .unset, .unset, .unset, .unset, .unset, .unset, .unset] [(.long ((j0 + (own_shift j1)) + nn))])) _
    refine XS.lstore X56.here hx rfl (hb hby at_221) rfl (l' := #[.val (.int p1), .val (.long j0), .second, .val (.long j1), .second, .val (.long j2), .second, .val (.long j3), .second, .val (.ref b2), .val (.ref b24), .val (.int ia), .val (.int ib), .val (.long rr), .second, .val (.long nn), .second, .val (.ref b50), .val (.long (j0 + (own_shift j1))), .second, .val (.long (j0 + j1)), .second, .val (.long ((j0 + (own_shift j1)) + nn)), .second, .unset, .unset, .unset, .unset, .unset, .unset, .unset, .unset, .unset, .unset, .unset, .unset, .unset, .unset]) rfl ?_
    show Steps p.tables e below (T56.setTop (mkF m 223 #[.val (.int p1), .val (.long j0), .second, .val (.long j1), .second, .val (.long j2), .second, .val (.long j3), .second, .val (.ref b2), .val (.ref b24), .val (.int ia), .val (.int ib), .val (.long rr), .second, .val (.long nn), .second, .val (.ref b50), .val (.long (j0 + (own_shift j1))), .second, .val (.long (j0 + j1)), .second, .val (.long ((j0 + (own_shift j1)) + nn)), .second, .unset, .unset, .unset, .unset, .unset, .unset, .unset, .unset, .unset, .unset, .unset, .unset, .unset, .unset] [])) _
    refine XS.aload X56.here hx rfl (hb hby at_223) rfl rfl ?_
    exact kt
  refine Go.adv sg57 ?_
  obtain ⟨cq58, kq58, q58a, q58b, q58c⟩ := isOf hZ e56 p54_0
  obtain ⟨_, _, ⟨T58, L58, k58, n58⟩, -, X58, ⟨Lc58, hQ58, l58, y58, z58⟩, st58⟩ := X56.virtualBack hx (y := (⟨"com/example/ballast/ballast/Pacer", "due", "()J"⟩ : MethodName)) (z := (⟨"com/example/ballast/ballast/Pacer", "due", "()J"⟩ : MethodName)) hown (mvT hZ (hw _ (List.mem_of_getElem? (i := 58) rfl))) (mvT hZ (hw _ (List.mem_of_getElem? (i := 44) rfl))) (notFace_of_selects (args := #[]) (mvT hZ (hw _ (List.mem_of_getElem? (i := 46) rfl)))) (mvT hZ (hw _ (List.mem_of_getElem? (i := 46) rfl))) (mvT hZ (hw _ (List.mem_of_getElem? (i := 45) rfl))) (by decide) (backOf (W := 0) (rm_due l Z a0 hw [] b50 (j0 + (own_shift j1)) ((0 : Int64) + (1 : Int64)) (FP.ddiv (4741671816366391296 : UInt64) (FP.l2d rr)) nn T54.heap n0 Z54 p54_1 p54_2 p54_4 m1' d1') hZ (hw _ (List.mem_of_getElem? (i := 47) rfl)) (hw _ (List.mem_of_getElem? (i := 22) rfl)) (by decide) (by decide)) q58a q58c (g := (mkF m 225 #[.val (.int p1), .val (.long j0), .second, .val (.long j1), .second, .val (.long j2), .second, .val (.long j3), .second, .val (.ref b2), .val (.ref b24), .val (.int ia), .val (.int ib), .val (.long rr), .second, .val (.long nn), .second, .val (.ref b50), .val (.long (j0 + (own_shift j1))), .second, .val (.long (j0 + j1)), .second, .val (.long ((j0 + (own_shift j1)) + nn)), .second, .unset, .unset, .unset, .unset, .unset, .unset, .unset, .unset, .unset, .unset, .unset, .unset, .unset, .unset] [(.ref b50)])) rfl (by rw [hml]; rfl) (Steps.refl _) (argsL := []) (rest := []) (lenOf pd_ocJ rfl) rfl (by show 2 * 0 + _ ≤ _; exact Nat.le_of_eq rfl) (hb hby at_225) (fun _ _ => ⟨rfl, e56, (by decide : 3 + 0 ≤ _), (by decide : 26 + 0 ≤ _)⟩)
  dsimp only [Pt.U, Pt.locs, Pt.cells, Pt.slots] at X58 l58 y58 z58 st58 hQ58
  subst l58 y58 z58
  obtain ⟨rfl, N58q, e58⟩ := hQ58
  have N58 := Fr.app N56 N58q
  refine Go.tr st58 ?_
  show Go p.tables e below s _ _ _ (T58.setTop (mkF m 228 #[.val (.int p1), .val (.long j0), .second, .val (.long j1), .second, .val (.long j2), .second, .val (.long j3), .second, .val (.ref b2), .val (.ref b24), .val (.int ia), .val (.int ib), .val (.long rr), .second, .val (.long nn), .second, .val (.ref b50), .val (.long (j0 + (own_shift j1))), .second, .val (.long (j0 + j1)), .second, .val (.long ((j0 + (own_shift j1)) + nn)), .second, .unset, .unset, .unset, .unset, .unset, .unset, .unset, .unset, .unset, .unset, .unset, .unset, .unset, .unset] [(.long ((j0 + (own_shift j1)) + nn))]))
  have sg59 : ∀ t, Steps p.tables e below (T58.setTop (mkF m 241 #[.val (.int p1), .val (.long j0), .second, .val (.long j1), .second, .val (.long j2), .second, .val (.long j3), .second, .val (.ref b2), .val (.ref b24), .val (.int ia), .val (.int ib), .val (.long rr), .second, .val (.long nn), .second, .val (.ref b50), .val (.long (j0 + (own_shift j1))), .second, .val (.long (j0 + j1)), .second, .val (.long ((j0 + (own_shift j1)) + nn)), .second, .val (.long ((j0 + (own_shift j1)) + nn)), .second, .val (.long (((j0 + (own_shift j1)) + nn) + j2)), .second, .unset, .unset, .unset, .unset, .unset, .unset, .unset, .unset, .unset, .unset] [(.long (((j0 + (own_shift j1)) + nn) + j2)), (.ref b50)])) t → Steps p.tables e below (T58.setTop (mkF m 228 #[.val (.int p1), .val (.long j0), .second, .val (.long j1), .second, .val (.long j2), .second, .val (.long j3), .second, .val (.ref b2), .val (.ref b24), .val (.int ia), .val (.int ib), .val (.long rr), .second, .val (.long nn), .second, .val (.ref b50), .val (.long (j0 + (own_shift j1))), .second, .val (.long (j0 + j1)), .second, .val (.long ((j0 + (own_shift j1)) + nn)), .second, .unset, .unset, .unset, .unset, .unset, .unset, .unset, .unset, .unset, .unset, .unset, .unset, .unset, .unset] [(.long ((j0 + (own_shift j1)) + nn))])) t := by
    intro t kt
    show Steps p.tables e below (T58.setTop (mkF m 228 #[.val (.int p1), .val (.long j0), .second, .val (.long j1), .second, .val (.long j2), .second, .val (.long j3), .second, .val (.ref b2), .val (.ref b24), .val (.int ia), .val (.int ib), .val (.long rr), .second, .val (.long nn), .second, .val (.ref b50), .val (.long (j0 + (own_shift j1))), .second, .val (.long (j0 + j1)), .second, .val (.long ((j0 + (own_shift j1)) + nn)), .second, .unset, .unset, .unset, .unset, .unset, .unset, .unset, .unset, .unset, .unset, .unset, .unset, .unset, .unset] [(.long ((j0 + (own_shift j1)) + nn))])) _
    refine XS.lstore X58.here hx rfl (hb hby at_228) rfl (l' := #[.val (.int p1), .val (.long j0), .second, .val (.long j1), .second, .val (.long j2), .second, .val (.long j3), .second, .val (.ref b2), .val (.ref b24), .val (.int ia), .val (.int ib), .val (.long rr), .second, .val (.long nn), .second, .val (.ref b50), .val (.long (j0 + (own_shift j1))), .second, .val (.long (j0 + j1)), .second, .val (.long ((j0 + (own_shift j1)) + nn)), .second, .val (.long ((j0 + (own_shift j1)) + nn)), .second, .unset, .unset, .unset, .unset, .unset, .unset, .unset, .unset, .unset, .unset, .unset, .unset]) rfl ?_
    show Steps p.tables e below (T58.setTop (mkF m 230 #[.val (.int p1), .val (.long j0), .second, .val (.long j1), .second, .val (.long j2), .second, .val (.long j3), .second, .val (.ref b2), .val (.ref b24), .val (.int ia), .val (.int ib), .val (.long rr), .second, .val (.long nn), .second, .val (.ref b50), .val (.long (j0 + (own_shift j1))), .second, .val (.long (j0 + j1)), .second, .val (.long ((j0 + (own_shift j1)) + nn)), .second, .val (.long ((j0 + (own_shift j1)) + nn)), .second, .unset, .unset, .unset, .unset, .unset, .unset, .unset, .unset, .unset, .unset, .unset, .unset] [])) _
    refine XS.lload X58.here hx rfl (hb hby at_230) rfl ?_
    show Steps p.tables e below (T58.setTop (mkF m 232 #[.val (.int p1), .val (.long j0), .second, .val (.long j1), .second, .val (.long j2), .second, .val (.long j3), .second, .val (.ref b2), .val (.ref b24), .val (.int ia), .val (.int ib), .val (.long rr), .second, .val (.long nn), .second, .val (.ref b50), .val (.long (j0 + (own_shift j1))), .second, .val (.long (j0 + j1)), .second, .val (.long ((j0 + (own_shift j1)) + nn)), .second, .val (.long ((j0 + (own_shift j1)) + nn)), .second, .unset, .unset, .unset, .unset, .unset, .unset, .unset, .unset, .unset, .unset, .unset, .unset] [(.long ((j0 + (own_shift j1)) + nn))])) _
    refine XS.lload X58.here hx rfl (hb hby at_232) rfl ?_
    show Steps p.tables e below (T58.setTop (mkF m 234 #[.val (.int p1), .val (.long j0), .second, .val (.long j1), .second, .val (.long j2), .second, .val (.long j3), .second, .val (.ref b2), .val (.ref b24), .val (.int ia), .val (.int ib), .val (.long rr), .second, .val (.long nn), .second, .val (.ref b50), .val (.long (j0 + (own_shift j1))), .second, .val (.long (j0 + j1)), .second, .val (.long ((j0 + (own_shift j1)) + nn)), .second, .val (.long ((j0 + (own_shift j1)) + nn)), .second, .unset, .unset, .unset, .unset, .unset, .unset, .unset, .unset, .unset, .unset, .unset, .unset] [(.long j2), (.long ((j0 + (own_shift j1)) + nn))])) _
    refine XS.ladd X58.here hx rfl (hb hby at_234) rfl ?_
    show Steps p.tables e below (T58.setTop (mkF m 235 #[.val (.int p1), .val (.long j0), .second, .val (.long j1), .second, .val (.long j2), .second, .val (.long j3), .second, .val (.ref b2), .val (.ref b24), .val (.int ia), .val (.int ib), .val (.long rr), .second, .val (.long nn), .second, .val (.ref b50), .val (.long (j0 + (own_shift j1))), .second, .val (.long (j0 + j1)), .second, .val (.long ((j0 + (own_shift j1)) + nn)), .second, .val (.long ((j0 + (own_shift j1)) + nn)), .second, .unset, .unset, .unset, .unset, .unset, .unset, .unset, .unset, .unset, .unset, .unset, .unset] [(.long (((j0 + (own_shift j1)) + nn) + j2))])) _
    refine XS.lstore X58.here hx rfl (hb hby at_235) rfl (l' := #[.val (.int p1), .val (.long j0), .second, .val (.long j1), .second, .val (.long j2), .second, .val (.long j3), .second, .val (.ref b2), .val (.ref b24), .val (.int ia), .val (.int ib), .val (.long rr), .second, .val (.long nn), .second, .val (.ref b50), .val (.long (j0 + (own_shift j1))), .second, .val (.long (j0 + j1)), .second, .val (.long ((j0 + (own_shift j1)) + nn)), .second, .val (.long ((j0 + (own_shift j1)) + nn)), .second, .val (.long (((j0 + (own_shift j1)) + nn) + j2)), .second, .unset, .unset, .unset, .unset, .unset, .unset, .unset, .unset, .unset, .unset]) rfl ?_
    show Steps p.tables e below (T58.setTop (mkF m 237 #[.val (.int p1), .val (.long j0), .second, .val (.long j1), .second, .val (.long j2), .second, .val (.long j3), .second, .val (.ref b2), .val (.ref b24), .val (.int ia), .val (.int ib), .val (.long rr), .second, .val (.long nn), .second, .val (.ref b50), .val (.long (j0 + (own_shift j1))), .second, .val (.long (j0 + j1)), .second, .val (.long ((j0 + (own_shift j1)) + nn)), .second, .val (.long ((j0 + (own_shift j1)) + nn)), .second, .val (.long (((j0 + (own_shift j1)) + nn) + j2)), .second, .unset, .unset, .unset, .unset, .unset, .unset, .unset, .unset, .unset, .unset] [])) _
    refine XS.aload X58.here hx rfl (hb hby at_237) rfl rfl ?_
    show Steps p.tables e below (T58.setTop (mkF m 239 #[.val (.int p1), .val (.long j0), .second, .val (.long j1), .second, .val (.long j2), .second, .val (.long j3), .second, .val (.ref b2), .val (.ref b24), .val (.int ia), .val (.int ib), .val (.long rr), .second, .val (.long nn), .second, .val (.ref b50), .val (.long (j0 + (own_shift j1))), .second, .val (.long (j0 + j1)), .second, .val (.long ((j0 + (own_shift j1)) + nn)), .second, .val (.long ((j0 + (own_shift j1)) + nn)), .second, .val (.long (((j0 + (own_shift j1)) + nn) + j2)), .second, .unset, .unset, .unset, .unset, .unset, .unset, .unset, .unset, .unset, .unset] [(.ref b50)])) _
    refine XS.lload X58.here hx rfl (hb hby at_239) rfl ?_
    exact kt
  refine Go.adv sg59 ?_
  obtain ⟨cq60, kq60, q60a, q60b, q60c⟩ := isOf hZ e58 p54_0
  obtain ⟨_, _, ⟨T60, L60, k60, n60⟩, -, X60, ⟨Lc60, hQ60, l60, y60, z60⟩, st60⟩ := X58.virtualBack hx (y := (⟨"com/example/ballast/ballast/Pacer", "take", "(J)V"⟩ : MethodName)) (z := (⟨"com/example/ballast/ballast/Pacer", "take", "(J)V"⟩ : MethodName)) hown (mvT hZ (hw _ (List.mem_of_getElem? (i := 38) rfl))) (mvT hZ (hw _ (List.mem_of_getElem? (i := 39) rfl))) (notFace_of_selects (args := #[]) (mvT hZ (hw _ (List.mem_of_getElem? (i := 41) rfl)))) (mvT hZ (hw _ (List.mem_of_getElem? (i := 41) rfl))) (mvT hZ (hw _ (List.mem_of_getElem? (i := 40) rfl))) (by decide) (backOf (W := 0) (rm_take l Z a0 hw [] b50 (((j0 + (own_shift j1)) + nn) + j2) (j0 + (own_shift j1)) ((0 : Int64) + (1 : Int64)) ((0 : Int64) + (1 : Int64)) (FP.ddiv (4741671816366391296 : UInt64) (FP.l2d rr)) nn j2 T54.heap n0 Z54 p54_0 g_b50 p54_1 p54_2 p54_3 p54_4 m1' d1' l2) hZ (hw _ (List.mem_of_getElem? (i := 42) rfl)) (hw _ (List.mem_of_getElem? (i := 22) rfl)) (by decide) (by decide)) q60a q60c (g := (mkF m 241 #[.val (.int p1), .val (.long j0), .second, .val (.long j1), .second, .val (.long j2), .second, .val (.long j3), .second, .val (.ref b2), .val (.ref b24), .val (.int ia), .val (.int ib), .val (.long rr), .second, .val (.long nn), .second, .val (.ref b50), .val (.long (j0 + (own_shift j1))), .second, .val (.long (j0 + j1)), .second, .val (.long ((j0 + (own_shift j1)) + nn)), .second, .val (.long ((j0 + (own_shift j1)) + nn)), .second, .val (.long (((j0 + (own_shift j1)) + nn) + j2)), .second, .unset, .unset, .unset, .unset, .unset, .unset, .unset, .unset, .unset, .unset] [(.long (((j0 + (own_shift j1)) + nn) + j2)), (.ref b50)])) rfl (by rw [hml]; rfl) (Steps.refl _) (argsL := [(.long (((j0 + (own_shift j1)) + nn) + j2))]) (rest := []) (lenOf pd_oJcV rfl) rfl (by show 2 * 0 + _ ≤ _; exact Nat.le_of_eq rfl) (hb hby at_241) (fun _ _ => ⟨rfl, e58, (by decide : 3 + 0 ≤ _), (by decide : 26 + 0 ≤ _)⟩)
  dsimp only [Pt.U, Pt.locs, Pt.cells, Pt.slots] at X60 l60 y60 z60 st60 hQ60
  subst l60 y60 z60
  obtain ⟨rfl, N60q, Kc60, p60_0, p60_1, p60_2, p60_3, p60_4⟩ := hQ60
  have N60 := Fr.app N58 N60q
  have K60 : Keep h0 T60.heap [] := K54.trans Kc60 (allS (Or.inr sz_b50) all0)
  have Z60 : n0 ≤ T60.heap.size := Nat.le_trans Z54 Kc60.1
  refine Go.tr st60 ?_
  show Go p.tables e below s _ _ _ (T60.setTop (mkF m 244 #[.val (.int p1), .val (.long j0), .second, .val (.long j1), .second, .val (.long j2), .second, .val (.long j3), .second, .val (.ref b2), .val (.ref b24), .val (.int ia), .val (.int ib), .val (.long rr), .second, .val (.long nn), .second, .val (.ref b50), .val (.long (j0 + (own_shift j1))), .second, .val (.long (j0 + j1)), .second, .val (.long ((j0 + (own_shift j1)) + nn)), .second, .val (.long ((j0 + (own_shift j1)) + nn)), .second, .val (.long (((j0 + (own_shift j1)) + nn) + j2)), .second, .unset, .unset, .unset, .unset, .unset, .unset, .unset, .unset, .unset, .unset] []))
  have sg61 : ∀ t, Steps p.tables e below (T60.setTop (mkF m 248 #[.val (.int p1), .val (.long j0), .second, .val (.long j1), .second, .val (.long j2), .second, .val (.long j3), .second, .val (.ref b2), .val (.ref b24), .val (.int ia), .val (.int ib), .val (.long rr), .second, .val (.long nn), .second, .val (.ref b50), .val (.long (j0 + (own_shift j1))), .second, .val (.long (j0 + j1)), .second, .val (.long ((j0 + (own_shift j1)) + nn)), .second, .val (.long ((j0 + (own_shift j1)) + nn)), .second, .val (.long (((j0 + (own_shift j1)) + nn) + j2)), .second, .unset, .unset, .unset, .unset, .unset, .unset, .unset, .unset, .unset, .unset] [(.long j2), (.long (j0 + (own_shift j1)))])) t → Steps p.tables e below (T60.setTop (mkF m 244 #[.val (.int p1), .val (.long j0), .second, .val (.long j1), .second, .val (.long j2), .second, .val (.long j3), .second, .val (.ref b2), .val (.ref b24), .val (.int ia), .val (.int ib), .val (.long rr), .second, .val (.long nn), .second, .val (.ref b50), .val (.long (j0 + (own_shift j1))), .second, .val (.long (j0 + j1)), .second, .val (.long ((j0 + (own_shift j1)) + nn)), .second, .val (.long ((j0 + (own_shift j1)) + nn)), .second, .val (.long (((j0 + (own_shift j1)) + nn) + j2)), .second, .unset, .unset, .unset, .unset, .unset, .unset, .unset, .unset, .unset, .unset] [])) t := by
    intro t kt
    show Steps p.tables e below (T60.setTop (mkF m 244 #[.val (.int p1), .val (.long j0), .second, .val (.long j1), .second, .val (.long j2), .second, .val (.long j3), .second, .val (.ref b2), .val (.ref b24), .val (.int ia), .val (.int ib), .val (.long rr), .second, .val (.long nn), .second, .val (.ref b50), .val (.long (j0 + (own_shift j1))), .second, .val (.long (j0 + j1)), .second, .val (.long ((j0 + (own_shift j1)) + nn)), .second, .val (.long ((j0 + (own_shift j1)) + nn)), .second, .val (.long (((j0 + (own_shift j1)) + nn) + j2)), .second, .unset, .unset, .unset, .unset, .unset, .unset, .unset, .unset, .unset, .unset] [])) _
    refine XS.lload X60.here hx rfl (hb hby at_244) rfl ?_
    show Steps p.tables e below (T60.setTop (mkF m 246 #[.val (.int p1), .val (.long j0), .second, .val (.long j1), .second, .val (.long j2), .second, .val (.long j3), .second, .val (.ref b2), .val (.ref b24), .val (.int ia), .val (.int ib), .val (.long rr), .second, .val (.long nn), .second, .val (.ref b50), .val (.long (j0 + (own_shift j1))), .second, .val (.long (j0 + j1)), .second, .val (.long ((j0 + (own_shift j1)) + nn)), .second, .val (.long ((j0 + (own_shift j1)) + nn)), .second, .val (.long (((j0 + (own_shift j1)) + nn) + j2)), .second, .unset, .unset, .unset, .unset, .unset, .unset, .unset, .unset, .unset, .unset] [(.long (j0 + (own_shift j1)))])) _
    refine XS.lload X60.here hx rfl (hb hby at_246) rfl ?_
    exact kt
  refine Go.adv sg61 ?_
  obtain ⟨_, _, ⟨T62, L62, k62, n62⟩, -, X62, ⟨Lc62, hQ62, l62, y62, z62⟩, st62⟩ := Jvm.LawKit.callS X60 hx (y := (⟨"com/example/ballast/ballast/PacerTakePinLaw", "shift", "(J)J"⟩ : MethodName)) hown (mvT hZ (hw _ (List.mem_of_getElem? (i := 53) rfl))) (mvT hZ (hw _ (List.mem_of_getElem? (i := 54) rfl))) (mvT hZ (hw _ (List.mem_of_getElem? (i := 55) rfl))) (mvT hZ (hw _ (List.mem_of_getElem? (i := 56) rfl))) (by decide) (backOf (W := 2) (rm_shift l Z a0 hw [] j2  T60.heap n0 Z60 ) hZ (hw _ (List.mem_of_getElem? (i := 56) rfl)) (hw _ (List.mem_of_getElem? (i := 55) rfl)) (by decide) (by decide)) (g := (mkF m 248 #[.val (.int p1), .val (.long j0), .second, .val (.long j1), .second, .val (.long j2), .second, .val (.long j3), .second, .val (.ref b2), .val (.ref b24), .val (.int ia), .val (.int ib), .val (.long rr), .second, .val (.long nn), .second, .val (.ref b50), .val (.long (j0 + (own_shift j1))), .second, .val (.long (j0 + j1)), .second, .val (.long ((j0 + (own_shift j1)) + nn)), .second, .val (.long ((j0 + (own_shift j1)) + nn)), .second, .val (.long (((j0 + (own_shift j1)) + nn) + j2)), .second, .unset, .unset, .unset, .unset, .unset, .unset, .unset, .unset, .unset, .unset] [(.long j2), (.long (j0 + (own_shift j1)))])) rfl (by rw [hml]; rfl) (argsL := [(.long j2)]) (rest := [(.long (j0 + (own_shift j1)))]) (lenOf pd_oJcJ rfl) rfl (by show 2 * 0 + _ ≤ _; exact Nat.le_of_eq rfl) (hb hby at_248) (fun _ _ => ⟨rfl, rfl, (by decide : 3 + 0 ≤ _), (by decide : 26 + 0 ≤ _)⟩)
  dsimp only [Pt.U, Pt.locs, Pt.cells, Pt.slots] at X62 l62 y62 z62 st62 hQ62
  subst l62 y62 z62
  obtain ⟨rfl, N62q, e62⟩ := hQ62
  have N62 := Fr.app N60 N62q
  refine Go.adv st62 ?_
  show Go p.tables e below s _ _ _ (T62.setTop (mkF m 251 #[.val (.int p1), .val (.long j0), .second, .val (.long j1), .second, .val (.long j2), .second, .val (.long j3), .second, .val (.ref b2), .val (.ref b24), .val (.int ia), .val (.int ib), .val (.long rr), .second, .val (.long nn), .second, .val (.ref b50), .val (.long (j0 + (own_shift j1))), .second, .val (.long (j0 + j1)), .second, .val (.long ((j0 + (own_shift j1)) + nn)), .second, .val (.long ((j0 + (own_shift j1)) + nn)), .second, .val (.long (((j0 + (own_shift j1)) + nn) + j2)), .second, .unset, .unset, .unset, .unset, .unset, .unset, .unset, .unset, .unset, .unset] [(.long (own_shift j2)), (.long (j0 + (own_shift j1)))]))
  have sg63 : ∀ t, Steps p.tables e below (T62.setTop (mkF m 267 #[.val (.int p1), .val (.long j0), .second, .val (.long j1), .second, .val (.long j2), .second, .val (.long j3), .second, .val (.ref b2), .val (.ref b24), .val (.int ia), .val (.int ib), .val (.long rr), .second, .val (.long nn), .second, .val (.ref b50), .val (.long ((j0 + (own_shift j1)) + (own_shift j2))), .second, .val (.long (j0 + j1)), .second, .val (.long ((j0 + (own_shift j1)) + nn)), .second, .val (.long ((j0 + (own_shift j1)) + nn)), .second, .val (.long (((j0 + (own_shift j1)) + nn) + j2)), .second, .val (.long (((j0 + (own_shift j1)) + (own_shift j2)) + ((2 : Int64) * nn))), .second, .unset, .unset, .unset, .unset, .unset, .unset, .unset, .unset] [(.ref b50)])) t → Steps p.tables e below (T62.setTop (mkF m 251 #[.val (.int p1), .val (.long j0), .second, .val (.long j1), .second, .val (.long j2), .second, .val (.long j3), .second, .val (.ref b2), .val (.ref b24), .val (.int ia), .val (.int ib), .val (.long rr), .second, .val (.long nn), .second, .val (.ref b50), .val (.long (j0 + (own_shift j1))), .second, .val (.long (j0 + j1)), .second, .val (.long ((j0 + (own_shift j1)) + nn)), .second, .val (.long ((j0 + (own_shift j1)) + nn)), .second, .val (.long (((j0 + (own_shift j1)) + nn) + j2)), .second, .unset, .unset, .unset, .unset, .unset, .unset, .unset, .unset, .unset, .unset] [(.long (own_shift j2)), (.long (j0 + (own_shift j1)))])) t := by
    intro t kt
    show Steps p.tables e below (T62.setTop (mkF m 251 #[.val (.int p1), .val (.long j0), .second, .val (.long j1), .second, .val (.long j2), .second, .val (.long j3), .second, .val (.ref b2), .val (.ref b24), .val (.int ia), .val (.int ib), .val (.long rr), .second, .val (.long nn), .second, .val (.ref b50), .val (.long (j0 + (own_shift j1))), .second, .val (.long (j0 + j1)), .second, .val (.long ((j0 + (own_shift j1)) + nn)), .second, .val (.long ((j0 + (own_shift j1)) + nn)), .second, .val (.long (((j0 + (own_shift j1)) + nn) + j2)), .second, .unset, .unset, .unset, .unset, .unset, .unset, .unset, .unset, .unset, .unset] [(.long (own_shift j2)), (.long (j0 + (own_shift j1)))])) _
    refine XS.ladd X62.here hx rfl (hb hby at_251) rfl ?_
    show Steps p.tables e below (T62.setTop (mkF m 252 #[.val (.int p1), .val (.long j0), .second, .val (.long j1), .second, .val (.long j2), .second, .val (.long j3), .second, .val (.ref b2), .val (.ref b24), .val (.int ia), .val (.int ib), .val (.long rr), .second, .val (.long nn), .second, .val (.ref b50), .val (.long (j0 + (own_shift j1))), .second, .val (.long (j0 + j1)), .second, .val (.long ((j0 + (own_shift j1)) + nn)), .second, .val (.long ((j0 + (own_shift j1)) + nn)), .second, .val (.long (((j0 + (own_shift j1)) + nn) + j2)), .second, .unset, .unset, .unset, .unset, .unset, .unset, .unset, .unset, .unset, .unset] [(.long ((j0 + (own_shift j1)) + (own_shift j2)))])) _
    refine XS.lstore X62.here hx rfl (hb hby at_252) rfl (l' := #[.val (.int p1), .val (.long j0), .second, .val (.long j1), .second, .val (.long j2), .second, .val (.long j3), .second, .val (.ref b2), .val (.ref b24), .val (.int ia), .val (.int ib), .val (.long rr), .second, .val (.long nn), .second, .val (.ref b50), .val (.long ((j0 + (own_shift j1)) + (own_shift j2))), .second, .val (.long (j0 + j1)), .second, .val (.long ((j0 + (own_shift j1)) + nn)), .second, .val (.long ((j0 + (own_shift j1)) + nn)), .second, .val (.long (((j0 + (own_shift j1)) + nn) + j2)), .second, .unset, .unset, .unset, .unset, .unset, .unset, .unset, .unset, .unset, .unset]) rfl ?_
    show Steps p.tables e below (T62.setTop (mkF m 254 #[.val (.int p1), .val (.long j0), .second, .val (.long j1), .second, .val (.long j2), .second, .val (.long j3), .second, .val (.ref b2), .val (.ref b24), .val (.int ia), .val (.int ib), .val (.long rr), .second, .val (.long nn), .second, .val (.ref b50), .val (.long ((j0 + (own_shift j1)) + (own_shift j2))), .second, .val (.long (j0 + j1)), .second, .val (.long ((j0 + (own_shift j1)) + nn)), .second, .val (.long ((j0 + (own_shift j1)) + nn)), .second, .val (.long (((j0 + (own_shift j1)) + nn) + j2)), .second, .unset, .unset, .unset, .unset, .unset, .unset, .unset, .unset, .unset, .unset] [])) _
    refine XS.lload X62.here hx rfl (hb hby at_254) rfl ?_
    show Steps p.tables e below (T62.setTop (mkF m 256 #[.val (.int p1), .val (.long j0), .second, .val (.long j1), .second, .val (.long j2), .second, .val (.long j3), .second, .val (.ref b2), .val (.ref b24), .val (.int ia), .val (.int ib), .val (.long rr), .second, .val (.long nn), .second, .val (.ref b50), .val (.long ((j0 + (own_shift j1)) + (own_shift j2))), .second, .val (.long (j0 + j1)), .second, .val (.long ((j0 + (own_shift j1)) + nn)), .second, .val (.long ((j0 + (own_shift j1)) + nn)), .second, .val (.long (((j0 + (own_shift j1)) + nn) + j2)), .second, .unset, .unset, .unset, .unset, .unset, .unset, .unset, .unset, .unset, .unset] [(.long ((j0 + (own_shift j1)) + (own_shift j2)))])) _
    refine X62.ldc2Long hx hown (mvT hZ (hw _ (List.mem_of_getElem? (i := 1) rfl))) (g := (mkF m 256 #[.val (.int p1), .val (.long j0), .second, .val (.long j1), .second, .val (.long j2), .second, .val (.long j3), .second, .val (.ref b2), .val (.ref b24), .val (.int ia), .val (.int ib), .val (.long rr), .second, .val (.long nn), .second, .val (.ref b50), .val (.long ((j0 + (own_shift j1)) + (own_shift j2))), .second, .val (.long (j0 + j1)), .second, .val (.long ((j0 + (own_shift j1)) + nn)), .second, .val (.long ((j0 + (own_shift j1)) + nn)), .second, .val (.long (((j0 + (own_shift j1)) + nn) + j2)), .second, .unset, .unset, .unset, .unset, .unset, .unset, .unset, .unset, .unset, .unset] [(.long ((j0 + (own_shift j1)) + (own_shift j2)))])) rfl (hb hby at_256) _ ?_
    show Steps p.tables e below (T62.setTop (mkF m 259 #[.val (.int p1), .val (.long j0), .second, .val (.long j1), .second, .val (.long j2), .second, .val (.long j3), .second, .val (.ref b2), .val (.ref b24), .val (.int ia), .val (.int ib), .val (.long rr), .second, .val (.long nn), .second, .val (.ref b50), .val (.long ((j0 + (own_shift j1)) + (own_shift j2))), .second, .val (.long (j0 + j1)), .second, .val (.long ((j0 + (own_shift j1)) + nn)), .second, .val (.long ((j0 + (own_shift j1)) + nn)), .second, .val (.long (((j0 + (own_shift j1)) + nn) + j2)), .second, .unset, .unset, .unset, .unset, .unset, .unset, .unset, .unset, .unset, .unset] [(.long (2 : Int64)), (.long ((j0 + (own_shift j1)) + (own_shift j2)))])) _
    refine XS.lload X62.here hx rfl (hb hby at_259) rfl ?_
    show Steps p.tables e below (T62.setTop (mkF m 261 #[.val (.int p1), .val (.long j0), .second, .val (.long j1), .second, .val (.long j2), .second, .val (.long j3), .second, .val (.ref b2), .val (.ref b24), .val (.int ia), .val (.int ib), .val (.long rr), .second, .val (.long nn), .second, .val (.ref b50), .val (.long ((j0 + (own_shift j1)) + (own_shift j2))), .second, .val (.long (j0 + j1)), .second, .val (.long ((j0 + (own_shift j1)) + nn)), .second, .val (.long ((j0 + (own_shift j1)) + nn)), .second, .val (.long (((j0 + (own_shift j1)) + nn) + j2)), .second, .unset, .unset, .unset, .unset, .unset, .unset, .unset, .unset, .unset, .unset] [(.long nn), (.long (2 : Int64)), (.long ((j0 + (own_shift j1)) + (own_shift j2)))])) _
    refine XS.lmul X62.here hx rfl (hb hby at_261) rfl ?_
    show Steps p.tables e below (T62.setTop (mkF m 262 #[.val (.int p1), .val (.long j0), .second, .val (.long j1), .second, .val (.long j2), .second, .val (.long j3), .second, .val (.ref b2), .val (.ref b24), .val (.int ia), .val (.int ib), .val (.long rr), .second, .val (.long nn), .second, .val (.ref b50), .val (.long ((j0 + (own_shift j1)) + (own_shift j2))), .second, .val (.long (j0 + j1)), .second, .val (.long ((j0 + (own_shift j1)) + nn)), .second, .val (.long ((j0 + (own_shift j1)) + nn)), .second, .val (.long (((j0 + (own_shift j1)) + nn) + j2)), .second, .unset, .unset, .unset, .unset, .unset, .unset, .unset, .unset, .unset, .unset] [(.long ((2 : Int64) * nn)), (.long ((j0 + (own_shift j1)) + (own_shift j2)))])) _
    refine XS.ladd X62.here hx rfl (hb hby at_262) rfl ?_
    show Steps p.tables e below (T62.setTop (mkF m 263 #[.val (.int p1), .val (.long j0), .second, .val (.long j1), .second, .val (.long j2), .second, .val (.long j3), .second, .val (.ref b2), .val (.ref b24), .val (.int ia), .val (.int ib), .val (.long rr), .second, .val (.long nn), .second, .val (.ref b50), .val (.long ((j0 + (own_shift j1)) + (own_shift j2))), .second, .val (.long (j0 + j1)), .second, .val (.long ((j0 + (own_shift j1)) + nn)), .second, .val (.long ((j0 + (own_shift j1)) + nn)), .second, .val (.long (((j0 + (own_shift j1)) + nn) + j2)), .second, .unset, .unset, .unset, .unset, .unset, .unset, .unset, .unset, .unset, .unset] [(.long (((j0 + (own_shift j1)) + (own_shift j2)) + ((2 : Int64) * nn)))])) _
    refine XS.lstore X62.here hx rfl (hb hby at_263) rfl (l' := #[.val (.int p1), .val (.long j0), .second, .val (.long j1), .second, .val (.long j2), .second, .val (.long j3), .second, .val (.ref b2), .val (.ref b24), .val (.int ia), .val (.int ib), .val (.long rr), .second, .val (.long nn), .second, .val (.ref b50), .val (.long ((j0 + (own_shift j1)) + (own_shift j2))), .second, .val (.long (j0 + j1)), .second, .val (.long ((j0 + (own_shift j1)) + nn)), .second, .val (.long ((j0 + (own_shift j1)) + nn)), .second, .val (.long (((j0 + (own_shift j1)) + nn) + j2)), .second, .val (.long (((j0 + (own_shift j1)) + (own_shift j2)) + ((2 : Int64) * nn))), .second, .unset, .unset, .unset, .unset, .unset, .unset, .unset, .unset]) rfl ?_
    show Steps p.tables e below (T62.setTop (mkF m 265 #[.val (.int p1), .val (.long j0), .second, .val (.long j1), .second, .val (.long j2), .second, .val (.long j3), .second, .val (.ref b2), .val (.ref b24), .val (.int ia), .val (.int ib), .val (.long rr), .second, .val (.long nn), .second, .val (.ref b50), .val (.long ((j0 + (own_shift j1)) + (own_shift j2))), .second, .val (.long (j0 + j1)), .second, .val (.long ((j0 + (own_shift j1)) + nn)), .second, .val (.long ((j0 + (own_shift j1)) + nn)), .second, .val (.long (((j0 + (own_shift j1)) + nn) + j2)), .second, .val (.long (((j0 + (own_shift j1)) + (own_shift j2)) + ((2 : Int64) * nn))), .second, .unset, .unset, .unset, .unset, .unset, .unset, .unset, .unset] [])) _
    refine XS.aload X62.here hx rfl (hb hby at_265) rfl rfl ?_
    exact kt
  refine Go.adv sg63 ?_
  obtain ⟨cq64, kq64, q64a, q64b, q64c⟩ := isOf hZ e62 p60_0
  obtain ⟨_, _, ⟨T64, L64, k64, n64⟩, -, X64, ⟨Lc64, hQ64, l64, y64, z64⟩, st64⟩ := X62.virtualBack hx (y := (⟨"com/example/ballast/ballast/Pacer", "due", "()J"⟩ : MethodName)) (z := (⟨"com/example/ballast/ballast/Pacer", "due", "()J"⟩ : MethodName)) hown (mvT hZ (hw _ (List.mem_of_getElem? (i := 58) rfl))) (mvT hZ (hw _ (List.mem_of_getElem? (i := 44) rfl))) (notFace_of_selects (args := #[]) (mvT hZ (hw _ (List.mem_of_getElem? (i := 46) rfl)))) (mvT hZ (hw _ (List.mem_of_getElem? (i := 46) rfl))) (mvT hZ (hw _ (List.mem_of_getElem? (i := 45) rfl))) (by decide) (backOf (W := 0) (rm_due l Z a0 hw [] b50 ((j0 + (own_shift j1)) + (own_shift j2)) (((0 : Int64) + (1 : Int64)) + (1 : Int64)) (FP.ddiv (4741671816366391296 : UInt64) (FP.l2d rr)) ((2 : Int64) * nn) T60.heap n0 Z60 p60_1 p60_2 p60_4 m2' d2') hZ (hw _ (List.mem_of_getElem? (i := 47) rfl)) (hw _ (List.mem_of_getElem? (i := 22) rfl)) (by decide) (by decide)) q64a q64c (g := (mkF m 267 #[.val (.int p1), .val (.long j0), .second, .val (.long j1), .second, .val (.long j2), .second, .val (.long j3), .second, .val (.ref b2), .val (.ref b24), .val (.int ia), .val (.int ib), .val (.long rr), .second, .val (.long nn), .second, .val (.ref b50), .val (.long ((j0 + (own_shift j1)) + (own_shift j2))), .second, .val (.long (j0 + j1)), .second, .val (.long ((j0 + (own_shift j1)) + nn)), .second, .val (.long ((j0 + (own_shift j1)) + nn)), .second, .val (.long (((j0 + (own_shift j1)) + nn) + j2)), .second, .val (.long (((j0 + (own_shift j1)) + (own_shift j2)) + ((2 : Int64) * nn))), .second, .unset, .unset, .unset, .unset, .unset, .unset, .unset, .unset] [(.ref b50)])) rfl (by rw [hml]; rfl) (Steps.refl _) (argsL := []) (rest := []) (lenOf pd_ocJ rfl) rfl (by show 2 * 0 + _ ≤ _; exact Nat.le_of_eq rfl) (hb hby at_267) (fun _ _ => ⟨rfl, e62, (by decide : 3 + 0 ≤ _), (by decide : 26 + 0 ≤ _)⟩)
  dsimp only [Pt.U, Pt.locs, Pt.cells, Pt.slots] at X64 l64 y64 z64 st64 hQ64
  subst l64 y64 z64
  obtain ⟨rfl, N64q, e64⟩ := hQ64
  have N64 := Fr.app N62 N64q
  refine Go.tr st64 ?_
  show Go p.tables e below s _ _ _ (T64.setTop (mkF m 270 #[.val (.int p1), .val (.long j0), .second, .val (.long j1), .second, .val (.long j2), .second, .val (.long j3), .second, .val (.ref b2), .val (.ref b24), .val (.int ia), .val (.int ib), .val (.long rr), .second, .val (.long nn), .second, .val (.ref b50), .val (.long ((j0 + (own_shift j1)) + (own_shift j2))), .second, .val (.long (j0 + j1)), .second, .val (.long ((j0 + (own_shift j1)) + nn)), .second, .val (.long ((j0 + (own_shift j1)) + nn)), .second, .val (.long (((j0 + (own_shift j1)) + nn) + j2)), .second, .val (.long (((j0 + (own_shift j1)) + (own_shift j2)) + ((2 : Int64) * nn))), .second, .unset, .unset, .unset, .unset, .unset, .unset, .unset, .unset] [(.long (((j0 + (own_shift j1)) + (own_shift j2)) + ((2 : Int64) * nn)))]))
  have sg65 : ∀ t, Steps p.tables e below (T64.setTop (mkF m 283 #[.val (.int p1), .val (.long j0), .second, .val (.long j1), .second, .val (.long j2), .second, .val (.long j3), .second, .val (.ref b2), .val (.ref b24), .val (.int ia), .val (.int ib), .val (.long rr), .second, .val (.long nn), .second, .val (.ref b50), .val (.long ((j0 + (own_shift j1)) + (own_shift j2))), .second, .val (.long (j0 + j1)), .second, .val (.long ((j0 + (own_shift j1)) + nn)), .second, .val (.long ((j0 + (own_shift j1)) + nn)), .second, .val (.long (((j0 + (own_shift j1)) + nn) + j2)), .second, .val (.long (((j0 + (own_shift j1)) + (own_shift j2)) + ((2 : Int64) * nn))), .second, .val (.long (((j0 + (own_shift j1)) + (own_shift j2)) + ((2 : Int64) * nn))), .second, .val (.long ((((j0 + (own_shift j1)) + (own_shift j2)) + ((2 : Int64) * nn)) + j3)), .second, .unset, .unset, .unset, .unset] [(.long ((((j0 + (own_shift j1)) + (own_shift j2)) + ((2 : Int64) * nn)) + j3)), (.ref b50)])) t → Steps p.tables e below (T64.setTop (mkF m 270 #[.val (.int p1), .val (.long j0), .second, .val (.long j1), .second, .val (.long j2), .second, .val (.long j3), .second, .val (.ref b2), .val (.ref b24), .val (.int ia), .val (.int ib), .val (.long rr), .second, .val (.long nn), .second, .val (.ref b50), .val (.long ((j0 + (own_shift j1)) + (own_shift j2))), .second, .val (.long (j0 + j1)), .second, .val (.long ((j0 + (own_shift j1)) + nn)), .second, .val (.long ((j0 + (own_shift j1)) + nn)), .second, .val (.long (((j0 + (own_shift j1)) + nn) + j2)), .second, .val (.long (((j0 + (own_shift j1)) + (own_shift j2)) + ((2 : Int64) * nn))), .second, .unset, .unset, .unset, .unset, .unset, .unset, .unset, .unset] [(.long (((j0 + (own_shift j1)) + (own_shift j2)) + ((2 : Int64) * nn)))])) t := by
    intro t kt
    show Steps p.tables e below (T64.setTop (mkF m 270 #[.val (.int p1), .val (.long j0), .second, .val (.long j1), .second, .val (.long j2), .second, .val (.long j3), .second, .val (.ref b2), .val (.ref b24), .val (.int ia), .val (.int ib), .val (.long rr), .second, .val (.long nn), .second, .val (.ref b50), .val (.long ((j0 + (own_shift j1)) + (own_shift j2))), .second, .val (.long (j0 + j1)), .second, .val (.long ((j0 + (own_shift j1)) + nn)), .second, .val (.long ((j0 + (own_shift j1)) + nn)), .second, .val (.long (((j0 + (own_shift j1)) + nn) + j2)), .second, .val (.long (((j0 + (own_shift j1)) + (own_shift j2)) + ((2 : Int64) * nn))), .second, .unset, .unset, .unset, .unset, .unset, .unset, .unset, .unset] [(.long (((j0 + (own_shift j1)) + (own_shift j2)) + ((2 : Int64) * nn)))])) _
    refine XS.lstore X64.here hx rfl (hb hby at_270) rfl (l' := #[.val (.int p1), .val (.long j0), .second, .val (.long j1), .second, .val (.long j2), .second, .val (.long j3), .second, .val (.ref b2), .val (.ref b24), .val (.int ia), .val (.int ib), .val (.long rr), .second, .val (.long nn), .second, .val (.ref b50), .val (.long ((j0 + (own_shift j1)) + (own_shift j2))), .second, .val (.long (j0 + j1)), .second, .val (.long ((j0 + (own_shift j1)) + nn)), .second, .val (.long ((j0 + (own_shift j1)) + nn)), .second, .val (.long (((j0 + (own_shift j1)) + nn) + j2)), .second, .val (.long (((j0 + (own_shift j1)) + (own_shift j2)) + ((2 : Int64) * nn))), .second, .val (.long (((j0 + (own_shift j1)) + (own_shift j2)) + ((2 : Int64) * nn))), .second, .unset, .unset, .unset, .unset, .unset, .unset]) rfl ?_
    show Steps p.tables e below (T64.setTop (mkF m 272 #[.val (.int p1), .val (.long j0), .second, .val (.long j1), .second, .val (.long j2), .second, .val (.long j3), .second, .val (.ref b2), .val (.ref b24), .val (.int ia), .val (.int ib), .val (.long rr), .second, .val (.long nn), .second, .val (.ref b50), .val (.long ((j0 + (own_shift j1)) + (own_shift j2))), .second, .val (.long (j0 + j1)), .second, .val (.long ((j0 + (own_shift j1)) + nn)), .second, .val (.long ((j0 + (own_shift j1)) + nn)), .second, .val (.long (((j0 + (own_shift j1)) + nn) + j2)), .second, .val (.long (((j0 + (own_shift j1)) + (own_shift j2)) + ((2 : Int64) * nn))), .second, .val (.long (((j0 + (own_shift j1)) + (own_shift j2)) + ((2 : Int64) * nn))), .second, .unset, .unset, .unset, .unset, .unset, .unset] [])) _
    refine XS.lload X64.here hx rfl (hb hby at_272) rfl ?_
    show Steps p.tables e below (T64.setTop (mkF m 274 #[.val (.int p1), .val (.long j0), .second, .val (.long j1), .second, .val (.long j2), .second, .val (.long j3), .second, .val (.ref b2), .val (.ref b24), .val (.int ia), .val (.int ib), .val (.long rr), .second, .val (.long nn), .second, .val (.ref b50), .val (.long ((j0 + (own_shift j1)) + (own_shift j2))), .second, .val (.long (j0 + j1)), .second, .val (.long ((j0 + (own_shift j1)) + nn)), .second, .val (.long ((j0 + (own_shift j1)) + nn)), .second, .val (.long (((j0 + (own_shift j1)) + nn) + j2)), .second, .val (.long (((j0 + (own_shift j1)) + (own_shift j2)) + ((2 : Int64) * nn))), .second, .val (.long (((j0 + (own_shift j1)) + (own_shift j2)) + ((2 : Int64) * nn))), .second, .unset, .unset, .unset, .unset, .unset, .unset] [(.long (((j0 + (own_shift j1)) + (own_shift j2)) + ((2 : Int64) * nn)))])) _
    refine XS.lload X64.here hx rfl (hb hby at_274) rfl ?_
    show Steps p.tables e below (T64.setTop (mkF m 276 #[.val (.int p1), .val (.long j0), .second, .val (.long j1), .second, .val (.long j2), .second, .val (.long j3), .second, .val (.ref b2), .val (.ref b24), .val (.int ia), .val (.int ib), .val (.long rr), .second, .val (.long nn), .second, .val (.ref b50), .val (.long ((j0 + (own_shift j1)) + (own_shift j2))), .second, .val (.long (j0 + j1)), .second, .val (.long ((j0 + (own_shift j1)) + nn)), .second, .val (.long ((j0 + (own_shift j1)) + nn)), .second, .val (.long (((j0 + (own_shift j1)) + nn) + j2)), .second, .val (.long (((j0 + (own_shift j1)) + (own_shift j2)) + ((2 : Int64) * nn))), .second, .val (.long (((j0 + (own_shift j1)) + (own_shift j2)) + ((2 : Int64) * nn))), .second, .unset, .unset, .unset, .unset, .unset, .unset] [(.long j3), (.long (((j0 + (own_shift j1)) + (own_shift j2)) + ((2 : Int64) * nn)))])) _
    refine XS.ladd X64.here hx rfl (hb hby at_276) rfl ?_
    show Steps p.tables e below (T64.setTop (mkF m 277 #[.val (.int p1), .val (.long j0), .second, .val (.long j1), .second, .val (.long j2), .second, .val (.long j3), .second, .val (.ref b2), .val (.ref b24), .val (.int ia), .val (.int ib), .val (.long rr), .second, .val (.long nn), .second, .val (.ref b50), .val (.long ((j0 + (own_shift j1)) + (own_shift j2))), .second, .val (.long (j0 + j1)), .second, .val (.long ((j0 + (own_shift j1)) + nn)), .second, .val (.long ((j0 + (own_shift j1)) + nn)), .second, .val (.long (((j0 + (own_shift j1)) + nn) + j2)), .second, .val (.long (((j0 + (own_shift j1)) + (own_shift j2)) + ((2 : Int64) * nn))), .second, .val (.long (((j0 + (own_shift j1)) + (own_shift j2)) + ((2 : Int64) * nn))), .second, .unset, .unset, .unset, .unset, .unset, .unset] [(.long ((((j0 + (own_shift j1)) + (own_shift j2)) + ((2 : Int64) * nn)) + j3))])) _
    refine XS.lstore X64.here hx rfl (hb hby at_277) rfl (l' := #[.val (.int p1), .val (.long j0), .second, .val (.long j1), .second, .val (.long j2), .second, .val (.long j3), .second, .val (.ref b2), .val (.ref b24), .val (.int ia), .val (.int ib), .val (.long rr), .second, .val (.long nn), .second, .val (.ref b50), .val (.long ((j0 + (own_shift j1)) + (own_shift j2))), .second, .val (.long (j0 + j1)), .second, .val (.long ((j0 + (own_shift j1)) + nn)), .second, .val (.long ((j0 + (own_shift j1)) + nn)), .second, .val (.long (((j0 + (own_shift j1)) + nn) + j2)), .second, .val (.long (((j0 + (own_shift j1)) + (own_shift j2)) + ((2 : Int64) * nn))), .second, .val (.long (((j0 + (own_shift j1)) + (own_shift j2)) + ((2 : Int64) * nn))), .second, .val (.long ((((j0 + (own_shift j1)) + (own_shift j2)) + ((2 : Int64) * nn)) + j3)), .second, .unset, .unset, .unset, .unset]) rfl ?_
    show Steps p.tables e below (T64.setTop (mkF m 279 #[.val (.int p1), .val (.long j0), .second, .val (.long j1), .second, .val (.long j2), .second, .val (.long j3), .second, .val (.ref b2), .val (.ref b24), .val (.int ia), .val (.int ib), .val (.long rr), .second, .val (.long nn), .second, .val (.ref b50), .val (.long ((j0 + (own_shift j1)) + (own_shift j2))), .second, .val (.long (j0 + j1)), .second, .val (.long ((j0 + (own_shift j1)) + nn)), .second, .val (.long ((j0 + (own_shift j1)) + nn)), .second, .val (.long (((j0 + (own_shift j1)) + nn) + j2)), .second, .val (.long (((j0 + (own_shift j1)) + (own_shift j2)) + ((2 : Int64) * nn))), .second, .val (.long (((j0 + (own_shift j1)) + (own_shift j2)) + ((2 : Int64) * nn))), .second, .val (.long ((((j0 + (own_shift j1)) + (own_shift j2)) + ((2 : Int64) * nn)) + j3)), .second, .unset, .unset, .unset, .unset] [])) _
    refine XS.aload X64.here hx rfl (hb hby at_279) rfl rfl ?_
    show Steps p.tables e below (T64.setTop (mkF m 281 #[.val (.int p1), .val (.long j0), .second, .val (.long j1), .second, .val (.long j2), .second, .val (.long j3), .second, .val (.ref b2), .val (.ref b24), .val (.int ia), .val (.int ib), .val (.long rr), .second, .val (.long nn), .second, .val (.ref b50), .val (.long ((j0 + (own_shift j1)) + (own_shift j2))), .second, .val (.long (j0 + j1)), .second, .val (.long ((j0 + (own_shift j1)) + nn)), .second, .val (.long ((j0 + (own_shift j1)) + nn)), .second, .val (.long (((j0 + (own_shift j1)) + nn) + j2)), .second, .val (.long (((j0 + (own_shift j1)) + (own_shift j2)) + ((2 : Int64) * nn))), .second, .val (.long (((j0 + (own_shift j1)) + (own_shift j2)) + ((2 : Int64) * nn))), .second, .val (.long ((((j0 + (own_shift j1)) + (own_shift j2)) + ((2 : Int64) * nn)) + j3)), .second, .unset, .unset, .unset, .unset] [(.ref b50)])) _
    refine XS.lload X64.here hx rfl (hb hby at_281) rfl ?_
    exact kt
  refine Go.adv sg65 ?_
  obtain ⟨cq66, kq66, q66a, q66b, q66c⟩ := isOf hZ e64 p60_0
  obtain ⟨_, _, ⟨T66, L66, k66, n66⟩, -, X66, ⟨Lc66, hQ66, l66, y66, z66⟩, st66⟩ := X64.virtualBack hx (y := (⟨"com/example/ballast/ballast/Pacer", "take", "(J)V"⟩ : MethodName)) (z := (⟨"com/example/ballast/ballast/Pacer", "take", "(J)V"⟩ : MethodName)) hown (mvT hZ (hw _ (List.mem_of_getElem? (i := 38) rfl))) (mvT hZ (hw _ (List.mem_of_getElem? (i := 39) rfl))) (notFace_of_selects (args := #[]) (mvT hZ (hw _ (List.mem_of_getElem? (i := 41) rfl)))) (mvT hZ (hw _ (List.mem_of_getElem? (i := 41) rfl))) (mvT hZ (hw _ (List.mem_of_getElem? (i := 40) rfl))) (by decide) (backOf (W := 0) (rm_take l Z a0 hw [] b50 ((((j0 + (own_shift j1)) + (own_shift j2)) + ((2 : Int64) * nn)) + j3) ((j0 + (own_shift j1)) + (own_shift j2)) (((0 : Int64) + (1 : Int64)) + (1 : Int64)) (((0 : Int64) + (1 : Int64)) + (1 : Int64)) (FP.ddiv (4741671816366391296 : UInt64) (FP.l2d rr)) ((2 : Int64) * nn) j3 T60.heap n0 Z60 p60_0 g_b50 p60_1 p60_2 p60_3 p60_4 m2' d2' l3) hZ (hw _ (List.mem_of_getElem? (i := 42) rfl)) (hw _ (List.mem_of_getElem? (i := 22) rfl)) (by decide) (by decide)) q66a q66c (g := (mkF m 283 #[.val (.int p1), .val (.long j0), .second, .val (.long j1), .second, .val (.long j2), .second, .val (.long j3), .second, .val (.ref b2), .val (.ref b24), .val (.int ia), .val (.int ib), .val (.long rr), .second, .val (.long nn), .second, .val (.ref b50), .val (.long ((j0 + (own_shift j1)) + (own_shift j2))), .second, .val (.long (j0 + j1)), .second, .val (.long ((j0 + (own_shift j1)) + nn)), .second, .val (.long ((j0 + (own_shift j1)) + nn)), .second, .val (.long (((j0 + (own_shift j1)) + nn) + j2)), .second, .val (.long (((j0 + (own_shift j1)) + (own_shift j2)) + ((2 : Int64) * nn))), .second, .val (.long (((j0 + (own_shift j1)) + (own_shift j2)) + ((2 : Int64) * nn))), .second, .val (.long ((((j0 + (own_shift j1)) + (own_shift j2)) + ((2 : Int64) * nn)) + j3)), .second, .unset, .unset, .unset, .unset] [(.long ((((j0 + (own_shift j1)) + (own_shift j2)) + ((2 : Int64) * nn)) + j3)), (.ref b50)])) rfl (by rw [hml]; rfl) (Steps.refl _) (argsL := [(.long ((((j0 + (own_shift j1)) + (own_shift j2)) + ((2 : Int64) * nn)) + j3))]) (rest := []) (lenOf pd_oJcV rfl) rfl (by show 2 * 0 + _ ≤ _; exact Nat.le_of_eq rfl) (hb hby at_283) (fun _ _ => ⟨rfl, e64, (by decide : 3 + 0 ≤ _), (by decide : 26 + 0 ≤ _)⟩)
  dsimp only [Pt.U, Pt.locs, Pt.cells, Pt.slots] at X66 l66 y66 z66 st66 hQ66
  subst l66 y66 z66
  obtain ⟨rfl, N66q, Kc66, p66_0, p66_1, p66_2, p66_3, p66_4⟩ := hQ66
  have N66 := Fr.app N64 N66q
  have K66 : Keep h0 T66.heap [] := K60.trans Kc66 (allS (Or.inr sz_b50) all0)
  have Z66 : n0 ≤ T66.heap.size := Nat.le_trans Z60 Kc66.1
  refine Go.tr st66 ?_
  show Go p.tables e below s _ _ _ (T66.setTop (mkF m 286 #[.val (.int p1), .val (.long j0), .second, .val (.long j1), .second, .val (.long j2), .second, .val (.long j3), .second, .val (.ref b2), .val (.ref b24), .val (.int ia), .val (.int ib), .val (.long rr), .second, .val (.long nn), .second, .val (.ref b50), .val (.long ((j0 + (own_shift j1)) + (own_shift j2))), .second, .val (.long (j0 + j1)), .second, .val (.long ((j0 + (own_shift j1)) + nn)), .second, .val (.long ((j0 + (own_shift j1)) + nn)), .second, .val (.long (((j0 + (own_shift j1)) + nn) + j2)), .second, .val (.long (((j0 + (own_shift j1)) + (own_shift j2)) + ((2 : Int64) * nn))), .second, .val (.long (((j0 + (own_shift j1)) + (own_shift j2)) + ((2 : Int64) * nn))), .second, .val (.long ((((j0 + (own_shift j1)) + (own_shift j2)) + ((2 : Int64) * nn)) + j3)), .second, .unset, .unset, .unset, .unset] []))
  have sg67 : ∀ t, Steps p.tables e below (T66.setTop (mkF m 290 #[.val (.int p1), .val (.long j0), .second, .val (.long j1), .second, .val (.long j2), .second, .val (.long j3), .second, .val (.ref b2), .val (.ref b24), .val (.int ia), .val (.int ib), .val (.long rr), .second, .val (.long nn), .second, .val (.ref b50), .val (.long ((j0 + (own_shift j1)) + (own_shift j2))), .second, .val (.long (j0 + j1)), .second, .val (.long ((j0 + (own_shift j1)) + nn)), .second, .val (.long ((j0 + (own_shift j1)) + nn)), .second, .val (.long (((j0 + (own_shift j1)) + nn) + j2)), .second, .val (.long (((j0 + (own_shift j1)) + (own_shift j2)) + ((2 : Int64) * nn))), .second, .val (.long (((j0 + (own_shift j1)) + (own_shift j2)) + ((2 : Int64) * nn))), .second, .val (.long ((((j0 + (own_shift j1)) + (own_shift j2)) + ((2 : Int64) * nn)) + j3)), .second, .unset, .unset, .unset, .unset] [(.long j3), (.long ((j0 + (own_shift j1)) + (own_shift j2)))])) t → Steps p.tables e below (T66.setTop (mkF m 286 #[.val (.int p1), .val (.long j0), .second, .val (.long j1), .second, .val (.long j2), .second, .val (.long j3), .second, .val (.ref b2), .val (.ref b24), .val (.int ia), .val (.int ib), .val (.long rr), .second, .val (.long nn), .second, .val (.ref b50), .val (.long ((j0 + (own_shift j1)) + (own_shift j2))), .second, .val (.long (j0 + j1)), .second, .val (.long ((j0 + (own_shift j1)) + nn)), .second, .val (.long ((j0 + (own_shift j1)) + nn)), .second, .val (.long (((j0 + (own_shift j1)) + nn) + j2)), .second, .val (.long (((j0 + (own_shift j1)) + (own_shift j2)) + ((2 : Int64) * nn))), .second, .val (.long (((j0 + (own_shift j1)) + (own_shift j2)) + ((2 : Int64) * nn))), .second, .val (.long ((((j0 + (own_shift j1)) + (own_shift j2)) + ((2 : Int64) * nn)) + j3)), .second, .unset, .unset, .unset, .unset] [])) t := by
    intro t kt
    show Steps p.tables e below (T66.setTop (mkF m 286 #[.val (.int p1), .val (.long j0), .second, .val (.long j1), .second, .val (.long j2), .second, .val (.long j3), .second, .val (.ref b2), .val (.ref b24), .val (.int ia), .val (.int ib), .val (.long rr), .second, .val (.long nn), .second, .val (.ref b50), .val (.long ((j0 + (own_shift j1)) + (own_shift j2))), .second, .val (.long (j0 + j1)), .second, .val (.long ((j0 + (own_shift j1)) + nn)), .second, .val (.long ((j0 + (own_shift j1)) + nn)), .second, .val (.long (((j0 + (own_shift j1)) + nn) + j2)), .second, .val (.long (((j0 + (own_shift j1)) + (own_shift j2)) + ((2 : Int64) * nn))), .second, .val (.long (((j0 + (own_shift j1)) + (own_shift j2)) + ((2 : Int64) * nn))), .second, .val (.long ((((j0 + (own_shift j1)) + (own_shift j2)) + ((2 : Int64) * nn)) + j3)), .second, .unset, .unset, .unset, .unset] [])) _
    refine XS.lload X66.here hx rfl (hb hby at_286) rfl ?_
    show Steps p.tables e below (T66.setTop (mkF m 288 #[.val (.int p1), .val (.long j0), .second, .val (.long j1), .second, .val (.long j2), .second, .val (.long j3), .second, .val (.ref b2), .val (.ref b24), .val (.int ia), .val (.int ib), .val (.long rr), .second, .val (.long nn), .second, .val (.ref b50), .val (.long ((j0 + (own_shift j1)) + (own_shift j2))), .second, .val (.long (j0 + j1)), .second, .val (.long ((j0 + (own_shift j1)) + nn)), .second, .val (.long ((j0 + (own_shift j1)) + nn)), .second, .val (.long (((j0 + (own_shift j1)) + nn) + j2)), .second, .val (.long (((j0 + (own_shift j1)) + (own_shift j2)) + ((2 : Int64) * nn))), .second, .val (.long (((j0 + (own_shift j1)) + (own_shift j2)) + ((2 : Int64) * nn))), .second, .val (.long ((((j0 + (own_shift j1)) + (own_shift j2)) + ((2 : Int64) * nn)) + j3)), .second, .unset, .unset, .unset, .unset] [(.long ((j0 + (own_shift j1)) + (own_shift j2)))])) _
    refine XS.lload X66.here hx rfl (hb hby at_288) rfl ?_
    exact kt
  refine Go.adv sg67 ?_
  obtain ⟨_, _, ⟨T68, L68, k68, n68⟩, -, X68, ⟨Lc68, hQ68, l68, y68, z68⟩, st68⟩ := Jvm.LawKit.callS X66 hx (y := (⟨"com/example/ballast/ballast/PacerTakePinLaw", "shift", "(J)J"⟩ : MethodName)) hown (mvT hZ (hw _ (List.mem_of_getElem? (i := 53) rfl))) (mvT hZ (hw _ (List.mem_of_getElem? (i := 54) rfl))) (mvT hZ (hw _ (List.mem_of_getElem? (i := 55) rfl))) (mvT hZ (hw _ (List.mem_of_getElem? (i := 56) rfl))) (by decide) (backOf (W := 2) (rm_shift l Z a0 hw [] j3  T66.heap n0 Z66 ) hZ (hw _ (List.mem_of_getElem? (i := 56) rfl)) (hw _ (List.mem_of_getElem? (i := 55) rfl)) (by decide) (by decide)) (g := (mkF m 290 #[.val (.int p1), .val (.long j0), .second, .val (.long j1), .second, .val (.long j2), .second, .val (.long j3), .second, .val (.ref b2), .val (.ref b24), .val (.int ia), .val (.int ib), .val (.long rr), .second, .val (.long nn), .second, .val (.ref b50), .val (.long ((j0 + (own_shift j1)) + (own_shift j2))), .second, .val (.long (j0 + j1)), .second, .val (.long ((j0 + (own_shift j1)) + nn)), .second, .val (.long ((j0 + (own_shift j1)) + nn)), .second, .val (.long (((j0 + (own_shift j1)) + nn) + j2)), .second, .val (.long (((j0 + (own_shift j1)) + (own_shift j2)) + ((2 : Int64) * nn))), .second, .val (.long (((j0 + (own_shift j1)) + (own_shift j2)) + ((2 : Int64) * nn))), .second, .val (.long ((((j0 + (own_shift j1)) + (own_shift j2)) + ((2 : Int64) * nn)) + j3)), .second, .unset, .unset, .unset, .unset] [(.long j3), (.long ((j0 + (own_shift j1)) + (own_shift j2)))])) rfl (by rw [hml]; rfl) (argsL := [(.long j3)]) (rest := [(.long ((j0 + (own_shift j1)) + (own_shift j2)))]) (lenOf pd_oJcJ rfl) rfl (by show 2 * 0 + _ ≤ _; exact Nat.le_of_eq rfl) (hb hby at_290) (fun _ _ => ⟨rfl, rfl, (by decide : 3 + 0 ≤ _), (by decide : 26 + 0 ≤ _)⟩)
  dsimp only [Pt.U, Pt.locs, Pt.cells, Pt.slots] at X68 l68 y68 z68 st68 hQ68
  subst l68 y68 z68
  obtain ⟨rfl, N68q, e68⟩ := hQ68
  have N68 := Fr.app N66 N68q
  refine Go.adv st68 ?_
  show Go p.tables e below s _ _ _ (T68.setTop (mkF m 293 #[.val (.int p1), .val (.long j0), .second, .val (.long j1), .second, .val (.long j2), .second, .val (.long j3), .second, .val (.ref b2), .val (.ref b24), .val (.int ia), .val (.int ib), .val (.long rr), .second, .val (.long nn), .second, .val (.ref b50), .val (.long ((j0 + (own_shift j1)) + (own_shift j2))), .second, .val (.long (j0 + j1)), .second, .val (.long ((j0 + (own_shift j1)) + nn)), .second, .val (.long ((j0 + (own_shift j1)) + nn)), .second, .val (.long (((j0 + (own_shift j1)) + nn) + j2)), .second, .val (.long (((j0 + (own_shift j1)) + (own_shift j2)) + ((2 : Int64) * nn))), .second, .val (.long (((j0 + (own_shift j1)) + (own_shift j2)) + ((2 : Int64) * nn))), .second, .val (.long ((((j0 + (own_shift j1)) + (own_shift j2)) + ((2 : Int64) * nn)) + j3)), .second, .unset, .unset, .unset, .unset] [(.long (own_shift j3)), (.long ((j0 + (own_shift j1)) + (own_shift j2)))]))
  have sg69 : ∀ t, Steps p.tables e below (T68.setTop (mkF m 309 #[.val (.int p1), .val (.long j0), .second, .val (.long j1), .second, .val (.long j2), .second, .val (.long j3), .second, .val (.ref b2), .val (.ref b24), .val (.int ia), .val (.int ib), .val (.long rr), .second, .val (.long nn), .second, .val (.ref b50), .val (.long (((j0 + (own_shift j1)) + (own_shift j2)) + (own_shift j3))), .second, .val (.long (j0 + j1)), .second, .val (.long ((j0 + (own_shift j1)) + nn)), .second, .val (.long ((j0 + (own_shift j1)) + nn)), .second, .val (.long (((j0 + (own_shift j1)) + nn) + j2)), .second, .val (.long (((j0 + (own_shift j1)) + (own_shift j2)) + ((2 : Int64) * nn))), .second, .val (.long (((j0 + (own_shift j1)) + (own_shift j2)) + ((2 : Int64) * nn))), .second, .val (.long ((((j0 + (own_shift j1)) + (own_shift j2)) + ((2 : Int64) * nn)) + j3)), .second, .val (.long ((((j0 + (own_shift j1)) + (own_shift j2)) + (own_shift j3)) + ((3 : Int64) * nn))), .second, .unset, .unset] [(.ref b50)])) t → Steps p.tables e below (T68.setTop (mkF m 293 #[.val (.int p1), .val (.long j0), .second, .val (.long j1), .second, .val (.long j2), .second, .val (.long j3), .second, .val (.ref b2), .val (.ref b24), .val (.int ia), .val (.int ib), .val (.long rr), .second, .val (.long nn), .second, .val (.ref b50), .val (.long ((j0 + (own_shift j1)) + (own_shift j2))), .second, .val (.long (j0 + j1)), .second, .val (.long ((j0 + (own_shift j1)) + nn)), .second, .val (.long ((j0 + (own_shift j1)) + nn)), .second, .val (.long (((j0 + (own_shift j1)) + nn) + j2)), .second, .val (.long (((j0 + (own_shift j1)) + (own_shift j2)) + ((2 : Int64) * nn))), .second, .val (.long (((j0 + (own_shift j1)) + (own_shift j2)) + ((2 : Int64) * nn))), .second, .val (.long ((((j0 + (own_shift j1)) + (own_shift j2)) + ((2 : Int64) * nn)) + j3)), .second, .unset, .unset, .unset, .unset] [(.long (own_shift j3)), (.long ((j0 + (own_shift j1)) + (own_shift j2)))])) t := by
    intro t kt
    show Steps p.tables e below (T68.setTop (mkF m 293 #[.val (.int p1), .val (.long j0), .second, .val (.long j1), .second, .val (.long j2), .second, .val (.long j3), .second, .val (.ref b2), .val (.ref b24), .val (.int ia), .val (.int ib), .val (.long rr), .second, .val (.long nn), .second, .val (.ref b50), .val (.long ((j0 + (own_shift j1)) + (own_shift j2))), .second, .val (.long (j0 + j1)), .second, .val (.long ((j0 + (own_shift j1)) + nn)), .second, .val (.long ((j0 + (own_shift j1)) + nn)), .second, .val (.long (((j0 + (own_shift j1)) + nn) + j2)), .second, .val (.long (((j0 + (own_shift j1)) + (own_shift j2)) + ((2 : Int64) * nn))), .second, .val (.long (((j0 + (own_shift j1)) + (own_shift j2)) + ((2 : Int64) * nn))), .second, .val (.long ((((j0 + (own_shift j1)) + (own_shift j2)) + ((2 : Int64) * nn)) + j3)), .second, .unset, .unset, .unset, .unset] [(.long (own_shift j3)), (.long ((j0 + (own_shift j1)) + (own_shift j2)))])) _
    refine XS.ladd X68.here hx rfl (hb hby at_293) rfl ?_
    show Steps p.tables e below (T68.setTop (mkF m 294 #[.val (.int p1), .val (.long j0), .second, .val (.long j1), .second, .val (.long j2), .second, .val (.long j3), .second, .val (.ref b2), .val (.ref b24), .val (.int ia), .val (.int ib), .val (.long rr), .second, .val (.long nn), .second, .val (.ref b50), .val (.long ((j0 + (own_shift j1)) + (own_shift j2))), .second, .val (.long (j0 + j1)), .second, .val (.long ((j0 + (own_shift j1)) + nn)), .second, .val (.long ((j0 + (own_shift j1)) + nn)), .second, .val (.long (((j0 + (own_shift j1)) + nn) + j2)), .second, .val (.long (((j0 + (own_shift j1)) + (own_shift j2)) + ((2 : Int64) * nn))), .second, .val (.long (((j0 + (own_shift j1)) + (own_shift j2)) + ((2 : Int64) * nn))), .second, .val (.long ((((j0 + (own_shift j1)) + (own_shift j2)) + ((2 : Int64) * nn)) + j3)), .second, .unset, .unset, .unset, .unset] [(.long (((j0 + (own_shift j1)) + (own_shift j2)) + (own_shift j3)))])) _
    refine XS.lstore X68.here hx rfl (hb hby at_294) rfl (l' := #[.val (.int p1), .val (.long j0), .second, .val (.long j1), .second, .val (.long j2), .second, .val (.long j3), .second, .val (.ref b2), .val (.ref b24), .val (.int ia), .val (.int ib), .val (.long rr), .second, .val (.long nn), .second, .val (.ref b50), .val (.long (((j0 + (own_shift j1)) + (own_shift j2)) + (own_shift j3))), .second, .val (.long (j0 + j1)), .second, .val (.long ((j0 + (own_shift j1)) + nn)), .second, .val (.long ((j0 + (own_shift j1)) + nn)), .second, .val (.long (((j0 + (own_shift j1)) + nn) + j2)), .second, .val (.long (((j0 + (own_shift j1)) + (own_shift j2)) + ((2 : Int64) * nn))), .second, .val (.long (((j0 + (own_shift j1)) + (own_shift j2)) + ((2 : Int64) * nn))), .second, .val (.long ((((j0 + (own_shift j1)) + (own_shift j2)) + ((2 : Int64) * nn)) + j3)), .second, .unset, .unset, .unset, .unset]) rfl ?_
    show Steps p.tables e below (T68.setTop (mkF m 296 #[.val (.int p1), .val (.long j0), .second, .val (.long j1), .second, .val (.long j2), .second, .val (.long j3), .second, .val (.ref b2), .val (.ref b24), .val (.int ia), .val (.int ib), .val (.long rr), .second, .val (.long nn), .second, .val (.ref b50), .val (.long (((j0 + (own_shift j1)) + (own_shift j2)) + (own_shift j3))), .second, .val (.long (j0 + j1)), .second, .val (.long ((j0 + (own_shift j1)) + nn)), .second, .val (.long ((j0 + (own_shift j1)) + nn)), .second, .val (.long (((j0 + (own_shift j1)) + nn) + j2)), .second, .val (.long (((j0 + (own_shift j1)) + (own_shift j2)) + ((2 : Int64) * nn))), .second, .val (.long (((j0 + (own_shift j1)) + (own_shift j2)) + ((2 : Int64) * nn))), .second, .val (.long ((((j0 + (own_shift j1)) + (own_shift j2)) + ((2 : Int64) * nn)) + j3)), .second, .unset, .unset, .unset, .unset] [])) _
    refine XS.lload X68.here hx rfl (hb hby at_296) rfl ?_
    show Steps p.tables e below (T68.setTop (mkF m 298 #[.val (.int p1), .val (.long j0), .second, .val (.long j1), .second, .val (.long j2), .second, .val (.long j3), .second, .val (.ref b2), .val (.ref b24), .val (.int ia), .val (.int ib), .val (.long rr), .second, .val (.long nn), .second, .val (.ref b50), .val (.long (((j0 + (own_shift j1)) + (own_shift j2)) + (own_shift j3))), .second, .val (.long (j0 + j1)), .second, .val (.long ((j0 + (own_shift j1)) + nn)), .second, .val (.long ((j0 + (own_shift j1)) + nn)), .second, .val (.long (((j0 + (own_shift j1)) + nn) + j2)), .second, .val (.long (((j0 + (own_shift j1)) + (own_shift j2)) + ((2 : Int64) * nn))), .second, .val (.long (((j0 + (own_shift j1)) + (own_shift j2)) + ((2 : Int64) * nn))), .second, .val (.long ((((j0 + (own_shift j1)) + (own_shift j2)) + ((2 : Int64) * nn)) + j3)), .second, .unset, .unset, .unset, .unset] [(.long (((j0 + (own_shift j1)) + (own_shift j2)) + (own_shift j3)))])) _
    refine X68.ldc2Long hx hown (mvT hZ (hw _ (List.mem_of_getElem? (i := 59) rfl))) (g := (mkF m 298 #[.val (.int p1), .val (.long j0), .second, .val (.long j1), .second, .val (.long j2), .second, .val (.long j3), .second, .val (.ref b2), .val (.ref b24), .val (.int ia), .val (.int ib), .val (.long rr), .second, .val (.long nn), .second, .val (.ref b50), .val (.long (((j0 + (own_shift j1)) + (own_shift j2)) + (own_shift j3))), .second, .val (.long (j0 + j1)), .second, .val (.long ((j0 + (own_shift j1)) + nn)), .second, .val (.long ((j0 + (own_shift j1)) + nn)), .second, .val (.long (((j0 + (own_shift j1)) + nn) + j2)), .second, .val (.long (((j0 + (own_shift j1)) + (own_shift j2)) + ((2 : Int64) * nn))), .second, .val (.long (((j0 + (own_shift j1)) + (own_shift j2)) + ((2 : Int64) * nn))), .second, .val (.long ((((j0 + (own_shift j1)) + (own_shift j2)) + ((2 : Int64) * nn)) + j3)), .second, .unset, .unset, .unset, .unset] [(.long (((j0 + (own_shift j1)) + (own_shift j2)) + (own_shift j3)))])) rfl (hb hby at_298) _ ?_
    show Steps p.tables e below (T68.setTop (mkF m 301 #[.val (.int p1), .val (.long j0), .second, .val (.long j1), .second, .val (.long j2), .second, .val (.long j3), .second, .val (.ref b2), .val (.ref b24), .val (.int ia), .val (.int ib), .val (.long rr), .second, .val (.long nn), .second, .val (.ref b50), .val (.long (((j0 + (own_shift j1)) + (own_shift j2)) + (own_shift j3))), .second, .val (.long (j0 + j1)), .second, .val (.long ((j0 + (own_shift j1)) + nn)), .second, .val (.long ((j0 + (own_shift j1)) + nn)), .second, .val (.long (((j0 + (own_shift j1)) + nn) + j2)), .second, .val (.long (((j0 + (own_shift j1)) + (own_shift j2)) + ((2 : Int64) * nn))), .second, .val (.long (((j0 + (own_shift j1)) + (own_shift j2)) + ((2 : Int64) * nn))), .second, .val (.long ((((j0 + (own_shift j1)) + (own_shift j2)) + ((2 : Int64) * nn)) + j3)), .second, .unset, .unset, .unset, .unset] [(.long (3 : Int64)), (.long (((j0 + (own_shift j1)) + (own_shift j2)) + (own_shift j3)))])) _
    refine XS.lload X68.here hx rfl (hb hby at_301) rfl ?_
    show Steps p.tables e below (T68.setTop (mkF m 303 #[.val (.int p1), .val (.long j0), .second, .val (.long j1), .second, .val (.long j2), .second, .val (.long j3), .second, .val (.ref b2), .val (.ref b24), .val (.int ia), .val (.int ib), .val (.long rr), .second, .val (.long nn), .second, .val (.ref b50), .val (.long (((j0 + (own_shift j1)) + (own_shift j2)) + (own_shift j3))), .second, .val (.long (j0 + j1)), .second, .val (.long ((j0 + (own_shift j1)) + nn)), .second, .val (.long ((j0 + (own_shift j1)) + nn)), .second, .val (.long (((j0 + (own_shift j1)) + nn) + j2)), .second, .val (.long (((j0 + (own_shift j1)) + (own_shift j2)) + ((2 : Int64) * nn))), .second, .val (.long (((j0 + (own_shift j1)) + (own_shift j2)) + ((2 : Int64) * nn))), .second, .val (.long ((((j0 + (own_shift j1)) + (own_shift j2)) + ((2 : Int64) * nn)) + j3)), .second, .unset, .unset, .unset, .unset] [(.long nn), (.long (3 : Int64)), (.long (((j0 + (own_shift j1)) + (own_shift j2)) + (own_shift j3)))])) _
    refine XS.lmul X68.here hx rfl (hb hby at_303) rfl ?_
    show Steps p.tables e below (T68.setTop (mkF m 304 #[.val (.int p1), .val (.long j0), .second, .val (.long j1), .second, .val (.long j2), .second, .val (.long j3), .second, .val (.ref b2), .val (.ref b24), .val (.int ia), .val (.int ib), .val (.long rr), .second, .val (.long nn), .second, .val (.ref b50), .val (.long (((j0 + (own_shift j1)) + (own_shift j2)) + (own_shift j3))), .second, .val (.long (j0 + j1)), .second, .val (.long ((j0 + (own_shift j1)) + nn)), .second, .val (.long ((j0 + (own_shift j1)) + nn)), .second, .val (.long (((j0 + (own_shift j1)) + nn) + j2)), .second, .val (.long (((j0 + (own_shift j1)) + (own_shift j2)) + ((2 : Int64) * nn))), .second, .val (.long (((j0 + (own_shift j1)) + (own_shift j2)) + ((2 : Int64) * nn))), .second, .val (.long ((((j0 + (own_shift j1)) + (own_shift j2)) + ((2 : Int64) * nn)) + j3)), .second, .unset, .unset, .unset, .unset] [(.long ((3 : Int64) * nn)), (.long (((j0 + (own_shift j1)) + (own_shift j2)) + (own_shift j3)))])) _
    refine XS.ladd X68.here hx rfl (hb hby at_304) rfl ?_
    show Steps p.tables e below (T68.setTop (mkF m 305 #[.val (.int p1), .val (.long j0), .second, .val (.long j1), .second, .val (.long j2), .second, .val (.long j3), .second, .val (.ref b2), .val (.ref b24), .val (.int ia), .val (.int ib), .val (.long rr), .second, .val (.long nn), .second, .val (.ref b50), .val (.long (((j0 + (own_shift j1)) + (own_shift j2)) + (own_shift j3))), .second, .val (.long (j0 + j1)), .second, .val (.long ((j0 + (own_shift j1)) + nn)), .second, .val (.long ((j0 + (own_shift j1)) + nn)), .second, .val (.long (((j0 + (own_shift j1)) + nn) + j2)), .second, .val (.long (((j0 + (own_shift j1)) + (own_shift j2)) + ((2 : Int64) * nn))), .second, .val (.long (((j0 + (own_shift j1)) + (own_shift j2)) + ((2 : Int64) * nn))), .second, .val (.long ((((j0 + (own_shift j1)) + (own_shift j2)) + ((2 : Int64) * nn)) + j3)), .second, .unset, .unset, .unset, .unset] [(.long ((((j0 + (own_shift j1)) + (own_shift j2)) + (own_shift j3)) + ((3 : Int64) * nn)))])) _
    refine XS.lstore X68.here hx rfl (hb hby at_305) rfl (l' := #[.val (.int p1), .val (.long j0), .second, .val (.long j1), .second, .val (.long j2), .second, .val (.long j3), .second, .val (.ref b2), .val (.ref b24), .val (.int ia), .val (.int ib), .val (.long rr), .second, .val (.long nn), .second, .val (.ref b50), .val (.long (((j0 + (own_shift j1)) + (own_shift j2)) + (own_shift j3))), .second, .val (.long (j0 + j1)), .second, .val (.long ((j0 + (own_shift j1)) + nn)), .second, .val (.long ((j0 + (own_shift j1)) + nn)), .second, .val (.long (((j0 + (own_shift j1)) + nn) + j2)), .second, .val (.long (((j0 + (own_shift j1)) + (own_shift j2)) + ((2 : Int64) * nn))), .second, .val (.long (((j0 + (own_shift j1)) + (own_shift j2)) + ((2 : Int64) * nn))), .second, .val (.long ((((j0 + (own_shift j1)) + (own_shift j2)) + ((2 : Int64) * nn)) + j3)), .second, .val (.long ((((j0 + (own_shift j1)) + (own_shift j2)) + (own_shift j3)) + ((3 : Int64) * nn))), .second, .unset, .unset]) rfl ?_
    show Steps p.tables e below (T68.setTop (mkF m 307 #[.val (.int p1), .val (.long j0), .second, .val (.long j1), .second, .val (.long j2), .second, .val (.long j3), .second, .val (.ref b2), .val (.ref b24), .val (.int ia), .val (.int ib), .val (.long rr), .second, .val (.long nn), .second, .val (.ref b50), .val (.long (((j0 + (own_shift j1)) + (own_shift j2)) + (own_shift j3))), .second, .val (.long (j0 + j1)), .second, .val (.long ((j0 + (own_shift j1)) + nn)), .second, .val (.long ((j0 + (own_shift j1)) + nn)), .second, .val (.long (((j0 + (own_shift j1)) + nn) + j2)), .second, .val (.long (((j0 + (own_shift j1)) + (own_shift j2)) + ((2 : Int64) * nn))), .second, .val (.long (((j0 + (own_shift j1)) + (own_shift j2)) + ((2 : Int64) * nn))), .second, .val (.long ((((j0 + (own_shift j1)) + (own_shift j2)) + ((2 : Int64) * nn)) + j3)), .second, .val (.long ((((j0 + (own_shift j1)) + (own_shift j2)) + (own_shift j3)) + ((3 : Int64) * nn))), .second, .unset, .unset] [])) _
    refine XS.aload X68.here hx rfl (hb hby at_307) rfl rfl ?_
    exact kt
  refine Go.adv sg69 ?_
  obtain ⟨cq70, kq70, q70a, q70b, q70c⟩ := isOf hZ e68 p66_0
  obtain ⟨_, _, ⟨T70, L70, k70, n70⟩, -, X70, ⟨Lc70, hQ70, l70, y70, z70⟩, st70⟩ := X68.virtualBack hx (y := (⟨"com/example/ballast/ballast/Pacer", "due", "()J"⟩ : MethodName)) (z := (⟨"com/example/ballast/ballast/Pacer", "due", "()J"⟩ : MethodName)) hown (mvT hZ (hw _ (List.mem_of_getElem? (i := 58) rfl))) (mvT hZ (hw _ (List.mem_of_getElem? (i := 44) rfl))) (notFace_of_selects (args := #[]) (mvT hZ (hw _ (List.mem_of_getElem? (i := 46) rfl)))) (mvT hZ (hw _ (List.mem_of_getElem? (i := 46) rfl))) (mvT hZ (hw _ (List.mem_of_getElem? (i := 45) rfl))) (by decide) (backOf (W := 0) (rm_due l Z a0 hw [] b50 (((j0 + (own_shift j1)) + (own_shift j2)) + (own_shift j3)) ((((0 : Int64) + (1 : Int64)) + (1 : Int64)) + (1 : Int64)) (FP.ddiv (4741671816366391296 : UInt64) (FP.l2d rr)) ((3 : Int64) * nn) T66.heap n0 Z66 p66_1 p66_2 p66_4 m3' d3') hZ (hw _ (List.mem_of_getElem? (i := 47) rfl)) (hw _ (List.mem_of_getElem? (i := 22) rfl)) (by decide) (by decide)) q70a q70c (g := (mkF m 309 #[.val (.int p1), .val (.long j0), .second, .val (.long j1), .second, .val (.long j2), .second, .val (.long j3), .second, .val (.ref b2), .val (.ref b24), .val (.int ia), .val (.int ib), .val (.long rr), .second, .val (.long nn), .second, .val (.ref b50), .val (.long (((j0 + (own_shift j1)) + (own_shift j2)) + (own_shift j3))), .second, .val (.long (j0 + j1)), .second, .val (.long ((j0 + (own_shift j1)) + nn)), .second, .val (.long ((j0 + (own_shift j1)) + nn)), .second, .val (.long (((j0 + (own_shift j1)) + nn) + j2)), .second, .val (.long (((j0 + (own_shift j1)) + (own_shift j2)) + ((2 : Int64) * nn))), .second, .val (.long (((j0 + (own_shift j1)) + (own_shift j2)) + ((2 : Int64) * nn))), .second, .val (.long ((((j0 + (own_shift j1)) + (own_shift j2)) + ((2 : Int64) * nn)) + j3)), .second, .val (.long ((((j0 + (own_shift j1)) + (own_shift j2)) + (own_shift j3)) + ((3 : Int64) * nn))), .second, .unset, .unset] [(.ref b50)])) rfl (by rw [hml]; rfl) (Steps.refl _) (argsL := []) (rest := []) (lenOf pd_ocJ rfl) rfl (by show 2 * 0 + _ ≤ _; exact Nat.le_of_eq rfl) (hb hby at_309) (fun _ _ => ⟨rfl, e68, (by decide : 3 + 0 ≤ _), (by decide : 26 + 0 ≤ _)⟩)
  dsimp only [Pt.U, Pt.locs, Pt.cells, Pt.slots] at X70 l70 y70 z70 st70 hQ70
  subst l70 y70 z70
  obtain ⟨rfl, N70q, e70⟩ := hQ70
  have N70 := Fr.app N68 N70q
  refine Go.tr st70 ?_
  show Go p.tables e below s _ _ _ (T70.setTop (mkF m 312 #[.val (.int p1), .val (.long j0), .second, .val (.long j1), .second, .val (.long j2), .second, .val (.long j3), .second, .val (.ref b2), .val (.ref b24), .val (.int ia), .val (.int ib), .val (.long rr), .second, .val (.long nn), .second, .val (.ref b50), .val (.long (((j0 + (own_shift j1)) + (own_shift j2)) + (own_shift j3))), .second, .val (.long (j0 + j1)), .second, .val (.long ((j0 + (own_shift j1)) + nn)), .second, .val (.long ((j0 + (own_shift j1)) + nn)), .second, .val (.long (((j0 + (own_shift j1)) + nn) + j2)), .second, .val (.long (((j0 + (own_shift j1)) + (own_shift j2)) + ((2 : Int64) * nn))), .second, .val (.long (((j0 + (own_shift j1)) + (own_shift j2)) + ((2 : Int64) * nn))), .second, .val (.long ((((j0 + (own_shift j1)) + (own_shift j2)) + ((2 : Int64) * nn)) + j3)), .second, .val (.long ((((j0 + (own_shift j1)) + (own_shift j2)) + (own_shift j3)) + ((3 : Int64) * nn))), .second, .unset, .unset] [(.long ((((j0 + (own_shift j1)) + (own_shift j2)) + (own_shift j3)) + ((3 : Int64) * nn)))]))
  have sg71 : ∀ t, Steps p.tables e below (T70.setTop (mkF m 343 #[.val (.int p1), .val (.long j0), .second, .val (.long j1), .second, .val (.long j2), .second, .val (.long j3), .second, .val (.ref b2), .val (.ref b24), .val (.int ia), .val (.int ib), .val (.long rr), .second, .val (.long nn), .second, .val (.ref b50), .val (.long (((j0 + (own_shift j1)) + (own_shift j2)) + (own_shift j3))), .second, .val (.long (j0 + j1)), .second, .val (.long ((j0 + (own_shift j1)) + nn)), .second, .val (.long ((j0 + (own_shift j1)) + nn)), .second, .val (.long (((j0 + (own_shift j1)) + nn) + j2)), .second, .val (.long (((j0 + (own_shift j1)) + (own_shift j2)) + ((2 : Int64) * nn))), .second, .val (.long (((j0 + (own_shift j1)) + (own_shift j2)) + ((2 : Int64) * nn))), .second, .val (.long ((((j0 + (own_shift j1)) + (own_shift j2)) + ((2 : Int64) * nn)) + j3)), .second, .val (.long ((((j0 + (own_shift j1)) + (own_shift j2)) + (own_shift j3)) + ((3 : Int64) * nn))), .second, .val (.long ((((j0 + (own_shift j1)) + (own_shift j2)) + (own_shift j3)) + ((3 : Int64) * nn))), .second] [(.int (1 : Int32))])) t → Steps p.tables e below (T70.setTop (mkF m 312 #[.val (.int p1), .val (.long j0), .second, .val (.long j1), .second, .val (.long j2), .second, .val (.long j3), .second, .val (.ref b2), .val (.ref b24), .val (.int ia), .val (.int ib), .val (.long rr), .second, .val (.long nn), .second, .val (.ref b50), .val (.long (((j0 + (own_shift j1)) + (own_shift j2)) + (own_shift j3))), .second, .val (.long (j0 + j1)), .second, .val (.long ((j0 + (own_shift j1)) + nn)), .second, .val (.long ((j0 + (own_shift j1)) + nn)), .second, .val (.long (((j0 + (own_shift j1)) + nn) + j2)), .second, .val (.long (((j0 + (own_shift j1)) + (own_shift j2)) + ((2 : Int64) * nn))), .second, .val (.long (((j0 + (own_shift j1)) + (own_shift j2)) + ((2 : Int64) * nn))), .second, .val (.long ((((j0 + (own_shift j1)) + (own_shift j2)) + ((2 : Int64) * nn)) + j3)), .second, .val (.long ((((j0 + (own_shift j1)) + (own_shift j2)) + (own_shift j3)) + ((3 : Int64) * nn))), .second, .unset, .unset] [(.long ((((j0 + (own_shift j1)) + (own_shift j2)) + (own_shift j3)) + ((3 : Int64) * nn)))])) t := by
    intro t kt
    show Steps p.tables e below (T70.setTop (mkF m 312 #[.val (.int p1), .val (.long j0), .second, .val (.long j1), .second, .val (.long j2), .second, .val (.long j3), .second, .val (.ref b2), .val (.ref b24), .val (.int ia), .val (.int ib), .val (.long rr), .second, .val (.long nn), .second, .val (.ref b50), .val (.long (((j0 + (own_shift j1)) + (own_shift j2)) + (own_shift j3))), .second, .val (.long (j0 + j1)), .second, .val (.long ((j0 + (own_shift j1)) + nn)), .second, .val (.long ((j0 + (own_shift j1)) + nn)), .second, .val (.long (((j0 + (own_shift j1)) + nn) + j2)), .second, .val (.long (((j0 + (own_shift j1)) + (own_shift j2)) + ((2 : Int64) * nn))), .second, .val (.long (((j0 + (own_shift j1)) + (own_shift j2)) + ((2 : Int64) * nn))), .second, .val (.long ((((j0 + (own_shift j1)) + (own_shift j2)) + ((2 : Int64) * nn)) + j3)), .second, .val (.long ((((j0 + (own_shift j1)) + (own_shift j2)) + (own_shift j3)) + ((3 : Int64) * nn))), .second, .unset, .unset] [(.long ((((j0 + (own_shift j1)) + (own_shift j2)) + (own_shift j3)) + ((3 : Int64) * nn)))])) _
    refine XS.lstore X70.here hx rfl (hb hby at_312) rfl (l' := #[.val (.int p1), .val (.long j0), .second, .val (.long j1), .second, .val (.long j2), .second, .val (.long j3), .second, .val (.ref b2), .val (.ref b24), .val (.int ia), .val (.int ib), .val (.long rr), .second, .val (.long nn), .second, .val (.ref b50), .val (.long (((j0 + (own_shift j1)) + (own_shift j2)) + (own_shift j3))), .second, .val (.long (j0 + j1)), .second, .val (.long ((j0 + (own_shift j1)) + nn)), .second, .val (.long ((j0 + (own_shift j1)) + nn)), .second, .val (.long (((j0 + (own_shift j1)) + nn) + j2)), .second, .val (.long (((j0 + (own_shift j1)) + (own_shift j2)) + ((2 : Int64) * nn))), .second, .val (.long (((j0 + (own_shift j1)) + (own_shift j2)) + ((2 : Int64) * nn))), .second, .val (.long ((((j0 + (own_shift j1)) + (own_shift j2)) + ((2 : Int64) * nn)) + j3)), .second, .val (.long ((((j0 + (own_shift j1)) + (own_shift j2)) + (own_shift j3)) + ((3 : Int64) * nn))), .second, .val (.long ((((j0 + (own_shift j1)) + (own_shift j2)) + (own_shift j3)) + ((3 : Int64) * nn))), .second]) rfl ?_
    show Steps p.tables e below (T70.setTop (mkF m 314 #[.val (.int p1), .val (.long j0), .second, .val (.long j1), .second, .val (.long j2), .second, .val (.long j3), .second, .val (.ref b2), .val (.ref b24), .val (.int ia), .val (.int ib), .val (.long rr), .second, .val (.long nn), .second, .val (.ref b50), .val (.long (((j0 + (own_shift j1)) + (own_shift j2)) + (own_shift j3))), .second, .val (.long (j0 + j1)), .second, .val (.long ((j0 + (own_shift j1)) + nn)), .second, .val (.long ((j0 + (own_shift j1)) + nn)), .second, .val (.long (((j0 + (own_shift j1)) + nn) + j2)), .second, .val (.long (((j0 + (own_shift j1)) + (own_shift j2)) + ((2 : Int64) * nn))), .second, .val (.long (((j0 + (own_shift j1)) + (own_shift j2)) + ((2 : Int64) * nn))), .second, .val (.long ((((j0 + (own_shift j1)) + (own_shift j2)) + ((2 : Int64) * nn)) + j3)), .second, .val (.long ((((j0 + (own_shift j1)) + (own_shift j2)) + (own_shift j3)) + ((3 : Int64) * nn))), .second, .val (.long ((((j0 + (own_shift j1)) + (own_shift j2)) + (own_shift j3)) + ((3 : Int64) * nn))), .second] [])) _
    refine XS.lload X70.here hx rfl (hb hby at_314) rfl ?_
    show Steps p.tables e below (T70.setTop (mkF m 316 #[.val (.int p1), .val (.long j0), .second, .val (.long j1), .second, .val (.long j2), .second, .val (.long j3), .second, .val (.ref b2), .val (.ref b24), .val (.int ia), .val (.int ib), .val (.long rr), .second, .val (.long nn), .second, .val (.ref b50), .val (.long (((j0 + (own_shift j1)) + (own_shift j2)) + (own_shift j3))), .second, .val (.long (j0 + j1)), .second, .val (.long ((j0 + (own_shift j1)) + nn)), .second, .val (.long ((j0 + (own_shift j1)) + nn)), .second, .val (.long (((j0 + (own_shift j1)) + nn) + j2)), .second, .val (.long (((j0 + (own_shift j1)) + (own_shift j2)) + ((2 : Int64) * nn))), .second, .val (.long (((j0 + (own_shift j1)) + (own_shift j2)) + ((2 : Int64) * nn))), .second, .val (.long ((((j0 + (own_shift j1)) + (own_shift j2)) + ((2 : Int64) * nn)) + j3)), .second, .val (.long ((((j0 + (own_shift j1)) + (own_shift j2)) + (own_shift j3)) + ((3 : Int64) * nn))), .second, .val (.long ((((j0 + (own_shift j1)) + (own_shift j2)) + (own_shift j3)) + ((3 : Int64) * nn))), .second] [(.long ((j0 + (own_shift j1)) + nn))])) _
    refine XS.lload X70.here hx rfl (hb hby at_316) rfl ?_
    show Steps p.tables e below (T70.setTop (mkF m 318 #[.val (.int p1), .val (.long j0), .second, .val (.long j1), .second, .val (.long j2), .second, .val (.long j3), .second, .val (.ref b2), .val (.ref b24), .val (.int ia), .val (.int ib), .val (.long rr), .second, .val (.long nn), .second, .val (.ref b50), .val (.long (((j0 + (own_shift j1)) + (own_shift j2)) + (own_shift j3))), .second, .val (.long (j0 + j1)), .second, .val (.long ((j0 + (own_shift j1)) + nn)), .second, .val (.long ((j0 + (own_shift j1)) + nn)), .second, .val (.long (((j0 + (own_shift j1)) + nn) + j2)), .second, .val (.long (((j0 + (own_shift j1)) + (own_shift j2)) + ((2 : Int64) * nn))), .second, .val (.long (((j0 + (own_shift j1)) + (own_shift j2)) + ((2 : Int64) * nn))), .second, .val (.long ((((j0 + (own_shift j1)) + (own_shift j2)) + ((2 : Int64) * nn)) + j3)), .second, .val (.long ((((j0 + (own_shift j1)) + (own_shift j2)) + (own_shift j3)) + ((3 : Int64) * nn))), .second, .val (.long ((((j0 + (own_shift j1)) + (own_shift j2)) + (own_shift j3)) + ((3 : Int64) * nn))), .second] [(.long ((j0 + (own_shift j1)) + nn)), (.long ((j0 + (own_shift j1)) + nn))])) _
    refine XS.lcmp X70.here hx rfl (hb hby at_318) rfl ?_
    show Steps p.tables e below (T70.setTop (mkF m 319 #[.val (.int p1), .val (.long j0), .second, .val (.long j1), .second, .val (.long j2), .second, .val (.long j3), .second, .val (.ref b2), .val (.ref b24), .val (.int ia), .val (.int ib), .val (.long rr), .second, .val (.long nn), .second, .val (.ref b50), .val (.long (((j0 + (own_shift j1)) + (own_shift j2)) + (own_shift j3))), .second, .val (.long (j0 + j1)), .second, .val (.long ((j0 + (own_shift j1)) + nn)), .second, .val (.long ((j0 + (own_shift j1)) + nn)), .second, .val (.long (((j0 + (own_shift j1)) + nn) + j2)), .second, .val (.long (((j0 + (own_shift j1)) + (own_shift j2)) + ((2 : Int64) * nn))), .second, .val (.long (((j0 + (own_shift j1)) + (own_shift j2)) + ((2 : Int64) * nn))), .second, .val (.long ((((j0 + (own_shift j1)) + (own_shift j2)) + ((2 : Int64) * nn)) + j3)), .second, .val (.long ((((j0 + (own_shift j1)) + (own_shift j2)) + (own_shift j3)) + ((3 : Int64) * nn))), .second, .val (.long ((((j0 + (own_shift j1)) + (own_shift j2)) + (own_shift j3)) + ((3 : Int64) * nn))), .second] [(.int (lcmpW ((j0 + (own_shift j1)) + nn) ((j0 + (own_shift j1)) + nn)))])) _
    refine XS.ifNo X70.here hx rfl (hb hby at_319) rfl ((if0 _ _).trans (teq (own_lc_eq rfl : (lcmpW ((j0 + (own_shift j1)) + nn) ((j0 + (own_shift j1)) + nn)) = (0 : Int32))).2) ?_
    show Steps p.tables e below (T70.setTop (mkF m 322 #[.val (.int p1), .val (.long j0), .second, .val (.long j1), .second, .val (.long j2), .second, .val (.long j3), .second, .val (.ref b2), .val (.ref b24), .val (.int ia), .val (.int ib), .val (.long rr), .second, .val (.long nn), .second, .val (.ref b50), .val (.long (((j0 + (own_shift j1)) + (own_shift j2)) + (own_shift j3))), .second, .val (.long (j0 + j1)), .second, .val (.long ((j0 + (own_shift j1)) + nn)), .second, .val (.long ((j0 + (own_shift j1)) + nn)), .second, .val (.long (((j0 + (own_shift j1)) + nn) + j2)), .second, .val (.long (((j0 + (own_shift j1)) + (own_shift j2)) + ((2 : Int64) * nn))), .second, .val (.long (((j0 + (own_shift j1)) + (own_shift j2)) + ((2 : Int64) * nn))), .second, .val (.long ((((j0 + (own_shift j1)) + (own_shift j2)) + ((2 : Int64) * nn)) + j3)), .second, .val (.long ((((j0 + (own_shift j1)) + (own_shift j2)) + (own_shift j3)) + ((3 : Int64) * nn))), .second, .val (.long ((((j0 + (own_shift j1)) + (own_shift j2)) + (own_shift j3)) + ((3 : Int64) * nn))), .second] [])) _
    refine XS.lload X70.here hx rfl (hb hby at_322) rfl ?_
    show Steps p.tables e below (T70.setTop (mkF m 324 #[.val (.int p1), .val (.long j0), .second, .val (.long j1), .second, .val (.long j2), .second, .val (.long j3), .second, .val (.ref b2), .val (.ref b24), .val (.int ia), .val (.int ib), .val (.long rr), .second, .val (.long nn), .second, .val (.ref b50), .val (.long (((j0 + (own_shift j1)) + (own_shift j2)) + (own_shift j3))), .second, .val (.long (j0 + j1)), .second, .val (.long ((j0 + (own_shift j1)) + nn)), .second, .val (.long ((j0 + (own_shift j1)) + nn)), .second, .val (.long (((j0 + (own_shift j1)) + nn) + j2)), .second, .val (.long (((j0 + (own_shift j1)) + (own_shift j2)) + ((2 : Int64) * nn))), .second, .val (.long (((j0 + (own_shift j1)) + (own_shift j2)) + ((2 : Int64) * nn))), .second, .val (.long ((((j0 + (own_shift j1)) + (own_shift j2)) + ((2 : Int64) * nn)) + j3)), .second, .val (.long ((((j0 + (own_shift j1)) + (own_shift j2)) + (own_shift j3)) + ((3 : Int64) * nn))), .second, .val (.long ((((j0 + (own_shift j1)) + (own_shift j2)) + (own_shift j3)) + ((3 : Int64) * nn))), .second] [(.long (((j0 + (own_shift j1)) + (own_shift j2)) + ((2 : Int64) * nn)))])) _
    refine XS.lload X70.here hx rfl (hb hby at_324) rfl ?_
    show Steps p.tables e below (T70.setTop (mkF m 326 #[.val (.int p1), .val (.long j0), .second, .val (.long j1), .second, .val (.long j2), .second, .val (.long j3), .second, .val (.ref b2), .val (.ref b24), .val (.int ia), .val (.int ib), .val (.long rr), .second, .val (.long nn), .second, .val (.ref b50), .val (.long (((j0 + (own_shift j1)) + (own_shift j2)) + (own_shift j3))), .second, .val (.long (j0 + j1)), .second, .val (.long ((j0 + (own_shift j1)) + nn)), .second, .val (.long ((j0 + (own_shift j1)) + nn)), .second, .val (.long (((j0 + (own_shift j1)) + nn) + j2)), .second, .val (.long (((j0 + (own_shift j1)) + (own_shift j2)) + ((2 : Int64) * nn))), .second, .val (.long (((j0 + (own_shift j1)) + (own_shift j2)) + ((2 : Int64) * nn))), .second, .val (.long ((((j0 + (own_shift j1)) + (own_shift j2)) + ((2 : Int64) * nn)) + j3)), .second, .val (.long ((((j0 + (own_shift j1)) + (own_shift j2)) + (own_shift j3)) + ((3 : Int64) * nn))), .second, .val (.long ((((j0 + (own_shift j1)) + (own_shift j2)) + (own_shift j3)) + ((3 : Int64) * nn))), .second] [(.long (((j0 + (own_shift j1)) + (own_shift j2)) + ((2 : Int64) * nn))), (.long (((j0 + (own_shift j1)) + (own_shift j2)) + ((2 : Int64) * nn)))])) _
    refine XS.lcmp X70.here hx rfl (hb hby at_326) rfl ?_
    show Steps p.tables e below (T70.setTop (mkF m 327 #[.val (.int p1), .val (.long j0), .second, .val (.long j1), .second, .val (.long j2), .second, .val (.long j3), .second, .val (.ref b2), .val (.ref b24), .val (.int ia), .val (.int ib), .val (.long rr), .second, .val (.long nn), .second, .val (.ref b50), .val (.long (((j0 + (own_shift j1)) + (own_shift j2)) + (own_shift j3))), .second, .val (.long (j0 + j1)), .second, .val (.long ((j0 + (own_shift j1)) + nn)), .second, .val (.long ((j0 + (own_shift j1)) + nn)), .second, .val (.long (((j0 + (own_shift j1)) + nn) + j2)), .second, .val (.long (((j0 + (own_shift j1)) + (own_shift j2)) + ((2 : Int64) * nn))), .second, .val (.long (((j0 + (own_shift j1)) + (own_shift j2)) + ((2 : Int64) * nn))), .second, .val (.long ((((j0 + (own_shift j1)) + (own_shift j2)) + ((2 : Int64) * nn)) + j3)), .second, .val (.long ((((j0 + (own_shift j1)) + (own_shift j2)) + (own_shift j3)) + ((3 : Int64) * nn))), .second, .val (.long ((((j0 + (own_shift j1)) + (own_shift j2)) + (own_shift j3)) + ((3 : Int64) * nn))), .second] [(.int (lcmpW (((j0 + (own_shift j1)) + (own_shift j2)) + ((2 : Int64) * nn)) (((j0 + (own_shift j1)) + (own_shift j2)) + ((2 : Int64) * nn))))])) _
    refine XS.ifNo X70.here hx rfl (hb hby at_327) rfl ((if0 _ _).trans (teq (own_lc_eq rfl : (lcmpW (((j0 + (own_shift j1)) + (own_shift j2)) + ((2 : Int64) * nn)) (((j0 + (own_shift j1)) + (own_shift j2)) + ((2 : Int64) * nn))) = (0 : Int32))).2) ?_
    show Steps p.tables e below (T70.setTop (mkF m 330 #[.val (.int p1), .val (.long j0), .second, .val (.long j1), .second, .val (.long j2), .second, .val (.long j3), .second, .val (.ref b2), .val (.ref b24), .val (.int ia), .val (.int ib), .val (.long rr), .second, .val (.long nn), .second, .val (.ref b50), .val (.long (((j0 + (own_shift j1)) + (own_shift j2)) + (own_shift j3))), .second, .val (.long (j0 + j1)), .second, .val (.long ((j0 + (own_shift j1)) + nn)), .second, .val (.long ((j0 + (own_shift j1)) + nn)), .second, .val (.long (((j0 + (own_shift j1)) + nn) + j2)), .second, .val (.long (((j0 + (own_shift j1)) + (own_shift j2)) + ((2 : Int64) * nn))), .second, .val (.long (((j0 + (own_shift j1)) + (own_shift j2)) + ((2 : Int64) * nn))), .second, .val (.long ((((j0 + (own_shift j1)) + (own_shift j2)) + ((2 : Int64) * nn)) + j3)), .second, .val (.long ((((j0 + (own_shift j1)) + (own_shift j2)) + (own_shift j3)) + ((3 : Int64) * nn))), .second, .val (.long ((((j0 + (own_shift j1)) + (own_shift j2)) + (own_shift j3)) + ((3 : Int64) * nn))), .second] [])) _
    refine XS.lload X70.here hx rfl (hb hby at_330) rfl ?_
    show Steps p.tables e below (T70.setTop (mkF m 332 #[.val (.int p1), .val (.long j0), .second, .val (.long j1), .second, .val (.long j2), .second, .val (.long j3), .second, .val (.ref b2), .val (.ref b24), .val (.int ia), .val (.int ib), .val (.long rr), .second, .val (.long nn), .second, .val (.ref b50), .val (.long (((j0 + (own_shift j1)) + (own_shift j2)) + (own_shift j3))), .second, .val (.long (j0 + j1)), .second, .val (.long ((j0 + (own_shift j1)) + nn)), .second, .val (.long ((j0 + (own_shift j1)) + nn)), .second, .val (.long (((j0 + (own_shift j1)) + nn) + j2)), .second, .val (.long (((j0 + (own_shift j1)) + (own_shift j2)) + ((2 : Int64) * nn))), .second, .val (.long (((j0 + (own_shift j1)) + (own_shift j2)) + ((2 : Int64) * nn))), .second, .val (.long ((((j0 + (own_shift j1)) + (own_shift j2)) + ((2 : Int64) * nn)) + j3)), .second, .val (.long ((((j0 + (own_shift j1)) + (own_shift j2)) + (own_shift j3)) + ((3 : Int64) * nn))), .second, .val (.long ((((j0 + (own_shift j1)) + (own_shift j2)) + (own_shift j3)) + ((3 : Int64) * nn))), .second] [(.long ((((j0 + (own_shift j1)) + (own_shift j2)) + (own_shift j3)) + ((3 : Int64) * nn)))])) _
    refine XS.lload X70.here hx rfl (hb hby at_332) rfl ?_
    show Steps p.tables e below (T70.setTop (mkF m 334 #[.val (.int p1), .val (.long j0), .second, .val (.long j1), .second, .val (.long j2), .second, .val (.long j3), .second, .val (.ref b2), .val (.ref b24), .val (.int ia), .val (.int ib), .val (.long rr), .second, .val (.long nn), .second, .val (.ref b50), .val (.long (((j0 + (own_shift j1)) + (own_shift j2)) + (own_shift j3))), .second, .val (.long (j0 + j1)), .second, .val (.long ((j0 + (own_shift j1)) + nn)), .second, .val (.long ((j0 + (own_shift j1)) + nn)), .second, .val (.long (((j0 + (own_shift j1)) + nn) + j2)), .second, .val (.long (((j0 + (own_shift j1)) + (own_shift j2)) + ((2 : Int64) * nn))), .second, .val (.long (((j0 + (own_shift j1)) + (own_shift j2)) + ((2 : Int64) * nn))), .second, .val (.long ((((j0 + (own_shift j1)) + (own_shift j2)) + ((2 : Int64) * nn)) + j3)), .second, .val (.long ((((j0 + (own_shift j1)) + (own_shift j2)) + (own_shift j3)) + ((3 : Int64) * nn))), .second, .val (.long ((((j0 + (own_shift j1)) + (own_shift j2)) + (own_shift j3)) + ((3 : Int64) * nn))), .second] [(.long ((((j0 + (own_shift j1)) + (own_shift j2)) + (own_shift j3)) + ((3 : Int64) * nn))), (.long ((((j0 + (own_shift j1)) + (own_shift j2)) + (own_shift j3)) + ((3 : Int64) * nn)))])) _
    refine XS.lcmp X70.here hx rfl (hb hby at_334) rfl ?_
    show Steps p.tables e below (T70.setTop (mkF m 335 #[.val (.int p1), .val (.long j0), .second, .val (.long j1), .second, .val (.long j2), .second, .val (.long j3), .second, .val (.ref b2), .val (.ref b24), .val (.int ia), .val (.int ib), .val (.long rr), .second, .val (.long nn), .second, .val (.ref b50), .val (.long (((j0 + (own_shift j1)) + (own_shift j2)) + (own_shift j3))), .second, .val (.long (j0 + j1)), .second, .val (.long ((j0 + (own_shift j1)) + nn)), .second, .val (.long ((j0 + (own_shift j1)) + nn)), .second, .val (.long (((j0 + (own_shift j1)) + nn) + j2)), .second, .val (.long (((j0 + (own_shift j1)) + (own_shift j2)) + ((2 : Int64) * nn))), .second, .val (.long (((j0 + (own_shift j1)) + (own_shift j2)) + ((2 : Int64) * nn))), .second, .val (.long ((((j0 + (own_shift j1)) + (own_shift j2)) + ((2 : Int64) * nn)) + j3)), .second, .val (.long ((((j0 + (own_shift j1)) + (own_shift j2)) + (own_shift j3)) + ((3 : Int64) * nn))), .second, .val (.long ((((j0 + (own_shift j1)) + (own_shift j2)) + (own_shift j3)) + ((3 : Int64) * nn))), .second] [(.int (lcmpW ((((j0 + (own_shift j1)) + (own_shift j2)) + (own_shift j3)) + ((3 : Int64) * nn)) ((((j0 + (own_shift j1)) + (own_shift j2)) + (own_shift j3)) + ((3 : Int64) * nn))))])) _
    refine XS.ifNo X70.here hx rfl (hb hby at_335) rfl ((if0 _ _).trans (teq (own_lc_eq rfl : (lcmpW ((((j0 + (own_shift j1)) + (own_shift j2)) + (own_shift j3)) + ((3 : Int64) * nn)) ((((j0 + (own_shift j1)) + (own_shift j2)) + (own_shift j3)) + ((3 : Int64) * nn))) = (0 : Int32))).2) ?_
    show Steps p.tables e below (T70.setTop (mkF m 338 #[.val (.int p1), .val (.long j0), .second, .val (.long j1), .second, .val (.long j2), .second, .val (.long j3), .second, .val (.ref b2), .val (.ref b24), .val (.int ia), .val (.int ib), .val (.long rr), .second, .val (.long nn), .second, .val (.ref b50), .val (.long (((j0 + (own_shift j1)) + (own_shift j2)) + (own_shift j3))), .second, .val (.long (j0 + j1)), .second, .val (.long ((j0 + (own_shift j1)) + nn)), .second, .val (.long ((j0 + (own_shift j1)) + nn)), .second, .val (.long (((j0 + (own_shift j1)) + nn) + j2)), .second, .val (.long (((j0 + (own_shift j1)) + (own_shift j2)) + ((2 : Int64) * nn))), .second, .val (.long (((j0 + (own_shift j1)) + (own_shift j2)) + ((2 : Int64) * nn))), .second, .val (.long ((((j0 + (own_shift j1)) + (own_shift j2)) + ((2 : Int64) * nn)) + j3)), .second, .val (.long ((((j0 + (own_shift j1)) + (own_shift j2)) + (own_shift j3)) + ((3 : Int64) * nn))), .second, .val (.long ((((j0 + (own_shift j1)) + (own_shift j2)) + (own_shift j3)) + ((3 : Int64) * nn))), .second] [])) _
    refine XS.iconst X70.here hx rfl (hb hby at_338) ?_
    show Steps p.tables e below (T70.setTop (mkF m 339 #[.val (.int p1), .val (.long j0), .second, .val (.long j1), .second, .val (.long j2), .second, .val (.long j3), .second, .val (.ref b2), .val (.ref b24), .val (.int ia), .val (.int ib), .val (.long rr), .second, .val (.long nn), .second, .val (.ref b50), .val (.long (((j0 + (own_shift j1)) + (own_shift j2)) + (own_shift j3))), .second, .val (.long (j0 + j1)), .second, .val (.long ((j0 + (own_shift j1)) + nn)), .second, .val (.long ((j0 + (own_shift j1)) + nn)), .second, .val (.long (((j0 + (own_shift j1)) + nn) + j2)), .second, .val (.long (((j0 + (own_shift j1)) + (own_shift j2)) + ((2 : Int64) * nn))), .second, .val (.long (((j0 + (own_shift j1)) + (own_shift j2)) + ((2 : Int64) * nn))), .second, .val (.long ((((j0 + (own_shift j1)) + (own_shift j2)) + ((2 : Int64) * nn)) + j3)), .second, .val (.long ((((j0 + (own_shift j1)) + (own_shift j2)) + (own_shift j3)) + ((3 : Int64) * nn))), .second, .val (.long ((((j0 + (own_shift j1)) + (own_shift j2)) + (own_shift j3)) + ((3 : Int64) * nn))), .second] [(.int (1 : Int32))])) _
    refine XS.goto X70.here hx rfl (pc0 := 339) (pc' := 343) rfl (hb hby at_339) (by decide) (by decide) ?_
    exact kt
  refine Go.adv sg71 ?_
  refine Go.ret (v := (some (.int (1 : Int32)))) X70 (fun h => by rw [Bd.returns] at h; cases h) Bd.notSynchronized (fun fs hr => retN X70 hx (t := .boolean) Bd.returns (by simp) (hb hby at_343) hr) ?_ (by decide) (by decide)
  show Q_rm0 Z p1 j0 j1 j2 j3 h0 n0 (some (.int (1 : Int32))) T70.heap _
  rw [e70]
  exact ⟨rfl, N70⟩
set_option maxRecDepth 65536 in
set_option maxHeartbeats 40000000 in
theorem comes_1 {Post : Tables → Env → Array Value → State → Outcome → State → Prop} (hpost : ∀ tb e args s v u, (limb_1_1.after args s (.returned v) u = true ∧ limb_1_2.after args s (.returned v) u = true ∧ True) → FrameEnd s (.returned v) u (Jvm.fieldLocs frame_1_writes args s ++ Jvm.arrayLocs frame_1_arrays args s ++ Jvm.staticLocs frame_1_statics s) 16 128 → Post tb e args s (.returned v) u) :
    ArmFor flags0 classFile x code maxLocals ret World_1 tables_1 room_1 Calls_1 rest_1 Pre_1 Post := by
  intro l hfl _ _ p e ha hc hk s m args below hf hA hF happ hP
  obtain ⟨hcalls, hrest, hpre⟩ := hP
  obtain ⟨-, -, -, hnamed, -, -, -, hat⟩ := (Spec.applies_iff hf).mp happ
  obtain ⟨hg, hn⟩ := and_e (Cond.before_iff.mp (show (Jvm.Cond.and given_1 narrow_1).before args s = true from hpre))
  obtain ⟨g1, g2⟩ := and_e hg
  obtain ⟨g3, g4⟩ := and_e g2
  obtain ⟨g5, g6⟩ := and_e g4
  obtain ⟨g7, g8⟩ := and_e g6
  obtain ⟨g9, g10⟩ := and_e g8
  obtain ⟨w0, w1, w2, w3, w4, rfl⟩ : ∃ w0 w1 w2 w3 w4 : Value, args = #[w0, w1, w2, w3, w4] := by
    have hs : args.size = 5 := by simpa [Cond.value, given_1] using g1
    obtain ⟨L⟩ := args
    match L, hs with
    | [w0, w1, w2, w3, w4], _ => exact ⟨w0, w1, w2, w3, w4, rfl⟩
  have hw := fun d (hd : d ∈ tables_1) => atoms_spec (ws := Jvm.Cond.code x code maxLocals ret :: tables_1) hat d (List.mem_cons_of_mem _ hd)
  have hfit : Fit s := fun {y c} hc i hi => by
    obtain ⟨ha, rfl⟩ := Array.getElem?_eq_some_iff.mp hc
    have q := List.all_eq_true.mp ((Array.all_eq_true_iff_forall_mem.mp hF) _ (Array.getElem_mem ha)) i (List.mem_range.mpr hi)
    simpa [Array.getElem?_eq_getElem hi] using q
  obtain ⟨i0, ei0⟩ := is_v g3
  obtain rfl : w0 = (.int i0) := Option.some.inj ei0
  obtain ⟨i1, ei1⟩ := isL_v g5
  obtain rfl : w1 = (.long i1) := Option.some.inj ei1
  obtain ⟨i2, ei2⟩ := isL_v g7
  obtain rfl : w2 = (.long i2) := Option.some.inj ei2
  obtain ⟨i3, ei3⟩ := isL_v g9
  obtain rfl : w3 = (.long i3) := Option.some.inj ei3
  obtain ⟨i4, ei4⟩ := isL_v g10
  obtain rfl : w4 = (.long i4) := Option.some.inj ei4
  obtain ⟨n, o, h1, h2, h3, _, L, rfl, ⟨rfl, N⟩, hq⟩ := rm0 l s _ hw tables_1 i0 i1 i2 i3 i4  s.heap s.heap.size (Nat.le_refl _)  p e ha hc hk s m _ below hf ((Spec.applies_iff_loose hf).mp happ).1 ⟨rfl, State.Warmed39.refl s, rfl⟩ trivial
  refine ⟨n, _, h1, h2, h3, hpost _ _ _ _ _ _ ⟨Cond.after_iff.mpr rfl, Cond.after_iff.mpr (eq_i res_at (Term.int_eval (1)) rfl), trivial⟩ ⟨hq.1, hq.2.1, (hq.2.2.sift fun y hy => Or.inr (N y hy)).mono (by decide) (by decide)⟩⟩
theorem main_1_1 : Claimed_1_1 := comes_1 fun _ _ _ _ _ _ h hF => ⟨h.1, hF⟩
theorem main_1_2 : Claimed_1_2 := comes_1 fun _ _ _ _ _ _ h hF => ⟨h.2.1, hF⟩
end Jvm.Pilot.@@N@@
namespace Jvm.Pilot.@@N@@
open Jvm Jvm.ClassFile Sem Op Lib Jvm.Free Jvm.Stand Jvm.Pilot.@@N@@.Jvm.D
/-! MADE BY PROGRAM (witnessworld.py) out of the Statement's table words and the real class files: 11 classes; the members and pool entries that the words name. The judged class is class 1, her method 2. -/
namespace start1
open Jvm.ClassFile
def u (s : String) : CpInfo := .utf8 (stringToUtf16 s)
/-- a pool by its gaps: so many unusable entries, then the entry; so many at the end -/
def gap : Nat → List CpInfo → List CpInfo
  | 0, r => r
  | n + 1, r => .unusable :: gap n r
def poolList (es : List (Nat × CpInfo)) (last : Nat) : List CpInfo := es.foldr (fun e r => gap e.1 (e.2 :: r)) (gap last [])
def pool (es : List (Nat × CpInfo)) (last : Nat) : Array CpInfo := ⟨poolList es last⟩
def fileOf (pool : Array CpInfo) (this : Nat) (attrs : Array Attribute := #[]) (ms : Array MethodInfo := #[]) (fl : Nat := 33) (sup : Nat := 0) (ifs : Array Nat := #[]) (fds : Array FieldInfo := #[]) : ClassFile where
  minorVersion := 0
  majorVersion := 65
  constantPool := pool
  accessFlags := fl
  thisClass := this
  superClass := sup
  interfaces := ifs
  fields := fds
  methods := ms
  attributes := attrs
def plain (name : String) (sup : Option ClassId) : Class where
  name := name
  kind := .ordinary
  loader := none
  accessFlags := 33
  super := sup
  interfaces := #[]
  cf := none
  fields := #[]
  methods := #[]
  instanceTypes := #[]
  staticTypes := #[]
  resolved := #[]
  callSites := []
  init := .initialized
  statics := none
  mirror := none

def pool0 : Array CpInfo := pool [(5, u "<init>"), (0, u "()V"), (1, .class_ 10), (1, u "java/lang/Object")] 113

def k0c0 : Code := { maxStack := 0, maxLocals := 1, code := object_method_1_code, exceptionTable := #[], attributes := #[] }
def k0m0 : Method := { name := "<init>", desc := "()V", sig := { parameters := [], returnType := none }, accessFlags := 1, code := some k0c0 }
/-- java/lang/Object -/
def k0 : Class := { plain "java/lang/Object" none with
  accessFlags := 33
  interfaces := #[]
  cf := some (fileOf pool0 8 #[] #[{ accessFlags := 1, nameIndex := 5, descriptorIndex := 6, attributes := #[] }] 33 0 #[] #[])
  fields := #[]
  methods := #[k0m0]
  instanceTypes := #[]
  staticTypes := #[]
  resolved := Array.replicate 124 none
  statics := none }

def pool1 : Array CpInfo := pool [(2, .class_ 4), (1, u "java/lang/Object"), (0, u "<init>"), (0, u "()V"), (0, .long 20000000), (1, .long 2), (1, .long 4), (1, .long 8), (1, .long 16), (1, .long 32), (1, .long 64), (1, .long 128), (1, .long 256), (1, .long 512), (1, .long 5), (1, .long 25), (1, .long 125), (1, .long 625), (1, .long 3125), (1, .long 15625), (1, .long 78125), (1, .long 390625), (1, .long 1953125), (1, .long 1000000000), (1, .class_ 48), (0, u "com/example/ballast/ballast/Pacer"), (0, .methodref 47 50), (0, .nameAndType 5 51), (0, u "(JJ)V"), (0, .methodref 47 53), (0, .nameAndType 54 55), (0, u "take"), (0, u "(J)V"), (0, .methodref 57 58), (0, .class_ 59), (0, .nameAndType 60 61), (0, u "com/example/ballast/ballast/PacerTakePinLaw"), (0, u "shift"), (0, u "(J)J"), (0, .methodref 47 63), (0, .nameAndType 64 65), (0, u "due"), (0, u "()J"), (0, .long 3), (4, u "law"), (0, u "(IJJJJ)Z")] 4

def k1m0 : Method := { name := "<init>", desc := "()V", sig := { parameters := [], returnType := none }, accessFlags := 1, code := none }
def k1c1 : Code := { maxStack := 4, maxLocals := 2, code := method_2_code, exceptionTable := #[], attributes := #[] }
def k1m1 : Method := { name := "shift", desc := "(J)J", sig := { parameters := [.long], returnType := some .long }, accessFlags := 10, code := some k1c1 }
def k1c2 : Code := { maxStack := 6, maxLocals := 38, code := code, exceptionTable := #[], attributes := #[] }
def k1m2 : Method := { name := "law", desc := "(IJJJJ)Z", sig := { parameters := [.int, .long, .long, .long, .long], returnType := some .boolean }, accessFlags := 9, code := some k1c2 }
/-- com/example/ballast/ballast/PacerTakePinLaw -/
def k1 : Class := { plain "com/example/ballast/ballast/PacerTakePinLaw" (some 0) with
  accessFlags := 49
  interfaces := #[]
  cf := some (fileOf pool1 57 #[] #[{ accessFlags := 1, nameIndex := 5, descriptorIndex := 6, attributes := #[] }, { accessFlags := 10, nameIndex := 60, descriptorIndex := 61, attributes := #[] }, { accessFlags := 9, nameIndex := 71, descriptorIndex := 72, attributes := #[] }] 49 2 #[] #[])
  fields := #[]
  methods := #[k1m0, k1m1, k1m2]
  instanceTypes := #[]
  staticTypes := #[]
  resolved := Array.replicate 77 none
  statics := none }

def pool2 : Array CpInfo := pool [(1, .methodref 2 3), (0, .class_ 4), (0, .nameAndType 5 6), (0, u "java/lang/Object"), (0, u "<init>"), (0, u "()V"), (0, .fieldref 8 9), (0, .class_ 10), (0, .nameAndType 11 12), (0, u "com/example/ballast/ballast/Pacer"), (0, u "perSecond"), (0, u "J"), (0, .double 4741671816366391296), (1, .fieldref 8 16), (0, .nameAndType 17 18), (0, u "nanosPerRecord"), (0, u "D"), (0, .fieldref 8 20), (0, .nameAndType 21 12), (0, u "origin"), (0, .fieldref 8 23), (0, .nameAndType 24 12), (0, u "windowStart"), (0, .fieldref 8 26), (0, .nameAndType 27 12), (0, u "taken"), (0, .methodref 8 29), (0, .nameAndType 30 31), (0, u "due"), (0, u "()J"), (0, .long 20000000), (1, .fieldref 8 35), (0, .nameAndType 36 12), (0, u "windowTaken"), (14, u "MAX_LAG_NANOS"), (1, u "WINDOW_NANOS"), (0, u "SHORTFALL"), (0, u "(JJ)V"), (2, u "take"), (0, u "(J)V")] 4

def k2c0 : Code := { maxStack := 5, maxLocals := 5, code := prog_11_method_1_code, exceptionTable := #[], attributes := #[] }
def k2m0 : Method := { name := "<init>", desc := "(JJ)V", sig := { parameters := [.long, .long], returnType := none }, accessFlags := 0, code := some k2c0 }
def k2c1 : Code := { maxStack := 6, maxLocals := 1, code := prog_11_method_2_code, exceptionTable := #[], attributes := #[] }
def k2m1 : Method := { name := "due", desc := "()J", sig := { parameters := [], returnType := some .long }, accessFlags := 0, code := some k2c1 }
def k2c2 : Code := { maxStack := 7, maxLocals := 5, code := prog_11_method_3_code, exceptionTable := #[], attributes := #[] }
def k2m2 : Method := { name := "take", desc := "(J)V", sig := { parameters := [.long], returnType := none }, accessFlags := 0, code := some k2c2 }
/-- com/example/ballast/ballast/Pacer -/
def k2 : Class := { plain "com/example/ballast/ballast/Pacer" (some 0) with
  accessFlags := 48
  interfaces := #[]
  cf := some (fileOf pool2 8 #[] #[{ accessFlags := 0, nameIndex := 5, descriptorIndex := 55, attributes := #[] }, { accessFlags := 0, nameIndex := 30, descriptorIndex := 31, attributes := #[] }, { accessFlags := 0, nameIndex := 58, descriptorIndex := 59, attributes := #[] }] 48 2 #[] #[{ accessFlags := 24, nameIndex := 51, descriptorIndex := 12, attributes := #[] }, { accessFlags := 24, nameIndex := 53, descriptorIndex := 12, attributes := #[] }, { accessFlags := 26, nameIndex := 54, descriptorIndex := 18, attributes := #[] }, { accessFlags := 18, nameIndex := 11, descriptorIndex := 12, attributes := #[] }, { accessFlags := 18, nameIndex := 17, descriptorIndex := 18, attributes := #[] }, { accessFlags := 2, nameIndex := 21, descriptorIndex := 12, attributes := #[] }, { accessFlags := 2, nameIndex := 27, descriptorIndex := 12, attributes := #[] }, { accessFlags := 2, nameIndex := 24, descriptorIndex := 12, attributes := #[] }, { accessFlags := 2, nameIndex := 36, descriptorIndex := 12, attributes := #[] }])
  fields := #[{ name := "MAX_LAG_NANOS", type := .long, accessFlags := 24, slot := 0, constantValue := 0 }, { name := "WINDOW_NANOS", type := .long, accessFlags := 24, slot := 1, constantValue := 0 }, { name := "SHORTFALL", type := .double, accessFlags := 26, slot := 2, constantValue := 0 }, { name := "perSecond", type := .long, accessFlags := 18, slot := 0, constantValue := 0 }, { name := "nanosPerRecord", type := .double, accessFlags := 18, slot := 1, constantValue := 0 }, { name := "origin", type := .long, accessFlags := 2, slot := 2, constantValue := 0 }, { name := "taken", type := .long, accessFlags := 2, slot := 3, constantValue := 0 }, { name := "windowStart", type := .long, accessFlags := 2, slot := 4, constantValue := 0 }, { name := "windowTaken", type := .long, accessFlags := 2, slot := 5, constantValue := 0 }]
  methods := #[k2m0, k2m1, k2m2]
  instanceTypes := #[.long, .double, .long, .long, .long, .long]
  staticTypes := #[.long, .long, .double]
  resolved := Array.replicate 64 none
  statics := none }

def pool3 : Array CpInfo := pool [(1, u "java/lang/Cloneable"), (0, .class_ 1), (0, u "java/lang/Object"), (0, .class_ 3)] 3

/-- java/lang/Cloneable -/
def k3 : Class := { plain "java/lang/Cloneable" (some 0) with
  accessFlags := 1537
  interfaces := #[]
  cf := some (fileOf pool3 2 #[] #[] 1537 4 #[] #[])
  fields := #[]
  methods := #[]
  instanceTypes := #[]
  staticTypes := #[]
  resolved := Array.replicate 8 none
  statics := none }

def pool4 : Array CpInfo := pool [(1, u "java/io/Serializable"), (0, .class_ 1), (0, u "java/lang/Object"), (0, .class_ 3)] 3

/-- java/io/Serializable -/
def k4 : Class := { plain "java/io/Serializable" (some 0) with
  accessFlags := 1537
  interfaces := #[]
  cf := some (fileOf pool4 2 #[] #[] 1537 4 #[] #[])
  fields := #[]
  methods := #[]
  instanceTypes := #[]
  staticTypes := #[]
  resolved := Array.replicate 8 none
  statics := none }

/-- the primitive byte -/
def k5 : Class := { plain "byte" none with kind := .primitive 'B', accessFlags := 0x411 }
/-- [B -/
def k6 : Class := { plain "[B" (some 0) with kind := .array 5 .byte, interfaces := #[3, 4], accessFlags := 1041 }

/-- the primitive int -/
def k7 : Class := { plain "int" none with kind := .primitive 'I', accessFlags := 0x411 }
/-- [I -/
def k8 : Class := { plain "[I" (some 0) with kind := .array 7 .int, interfaces := #[3, 4], accessFlags := 1041 }

/-- the primitive long -/
def k9 : Class := { plain "long" none with kind := .primitive 'J', accessFlags := 0x411 }
/-- [J -/
def k10 : Class := { plain "[J" (some 0) with kind := .array 9 .long, interfaces := #[3, 4], accessFlags := 1041 }

def heap : Heap := #[]
def classes : Array Class := #[k0, k1, k2, k3, k4, k5, k6, k7, k8, k9, k10]
def interned : List (Array UInt16 × Addr) := []
def slotsUsed : Nat := 0
def theMethod : MethodId := ⟨1, 2⟩
def args0 : Array Value := #[.int 5, .long 5, .long 5, .long 5, .long 5]
def aboutOver (below : List Frame) : State where
  vm := { classes := classes, interned := interned.toArray }
  heap := heap
  slotsUsed := slotsUsed
  threads := #[{ frames := .invoking theMethod args0 :: below }]
def below0 : List Frame := [.native { method := ⟨0, 0⟩, args := #[] }]
def about1 : State := aboutOver below0
def p0 : Program := .bare "" "" ""
def e0 : Env := launch0.env 0 0 0
theorem w_frames : about1.frames = Frame.invoking theMethod args0 :: below0 := rfl
set_option maxRecDepth 65536 in
theorem w_args : argsFit about1.vm theMethod args0 = true := by decide +kernel
set_option maxRecDepth 65536 in
theorem w_heap : heapFits about1 = true := by decide +kernel
set_option maxRecDepth 65536 in
theorem w_runnable : about1.curStatus? = some .runnable := by decide +kernel
set_option maxRecDepth 65536 in
theorem w_alone : about1.alone = true := by decide +kernel
set_option maxRecDepth 65536 in
theorem w_named : about1.methodNamed? x = some theMethod := by decide +kernel
set_option maxRecDepth 65536 in
theorem w_hears : about1.hears theMethod below0 = true := by decide +kernel
set_option maxRecDepth 65536 in
theorem w_ripe : about1.ripe theMethod args0 below0 = true := by decide +kernel
theorem w_running : about1.status = .running := rfl
set_option maxRecDepth 65536 in
theorem w_room : about1.hasRoom e0.platform room_1 = true :=
  launch0.hasRoom_least _ room_1 (by decide +kernel) (by decide +kernel) (by decide +kernel) (by decide +kernel) (by decide +kernel) (by decide +kernel)
theorem allAtoms_all (ts : List Jvm.Cond) (a : Array Jvm.Value) (st : Jvm.State) : (allAtoms ts).before a st = ts.all (fun c => c.before a st) := by
  induction ts with
  | nil => rfl
  | cons c t ih =>
    show (Jvm.Cond.and c (allAtoms t)).before a st = _
    rw [Jvm.Cond.before_and, ih, List.all_cons]
def words1 : List Jvm.Cond := Jvm.Cond.code x code maxLocals ret :: tables_1
/-- a 'code' word, met by the world's own term for the bytes: nothing is compared byte by byte -/
theorem code_word {y : MethodName} {bytes : ByteArray} {mx : Nat} {rt : Option FieldType} {a : Array Value} {s : State} {m : MethodId} {meth : Method} {c : Code} (h1 : s.methodNamed? y = some m) (h2 : s.vm.method? m = some meth) (h3 : meth.code = some c) (h4 : c.code = bytes)
    (h5 : (c.maxLocals == mx && c.exceptionTable.isEmpty && decide (c.maxStack ≤ mostOperands) && decide (meth.sig.returnType = rt) && !meth.locks && decide (parseMethodDescriptor y.desc = some meth.sig)) = true) : (Jvm.Cond.code y bytes mx rt).before a s = true := by
  simp only [Bool.and_eq_true, beq_iff_eq, Bool.not_eq_true', decide_eq_true_eq] at h5
  obtain ⟨⟨⟨⟨⟨g1, g2⟩, g3⟩, g4⟩, g5⟩, g6⟩ := h5
  simp [Cond.before, Cond.holds, Cond.value, h1, h2, h3, h4, g1, g2, g3, g4, g5, g6]
def isCode : Jvm.Cond → Bool
  | .code _ _ _ _ => true
  | _ => false
theorem all_split {L : List Jvm.Cond} {P : Jvm.Cond → Bool} (h1 : L.all (fun c => isCode c || P c) = true) (h2 : ∀ c ∈ L.filter isCode, P c = true) : L.all P = true := by
  refine List.all_eq_true.mpr fun c hc => ?_
  have h := List.all_eq_true.mp h1 c hc
  rcases Bool.eq_false_or_eq_true (isCode c) with hi | hi
  · exact h2 c (List.mem_filter.mpr ⟨hc, hi⟩)
  · simpa [hi] using h
set_option maxRecDepth 65536 in
theorem w_c0 : (Jvm.Cond.code x code maxLocals ret).before args0 about1 = true := code_word (m := ⟨1, 2⟩) (meth := k1m2) (c := k1c2) (by decide +kernel) rfl rfl rfl (by decide +kernel)
set_option maxRecDepth 65536 in
theorem w_c1 : (Jvm.Cond.code ({ cls := "com/example/ballast/ballast/Pacer", name := "<init>", desc := "(JJ)V" } : Jvm.MethodName) prog_11_method_1_code (5 : Nat) (Option.none : Option Jvm.ClassFile.FieldType)).before args0 about1 = true := code_word (m := ⟨2, 0⟩) (meth := k2m0) (c := k2c0) (by decide +kernel) rfl rfl rfl (by decide +kernel)
set_option maxRecDepth 65536 in
theorem w_c2 : (Jvm.Cond.code ({ cls := "java/lang/Object", name := "<init>", desc := "()V" } : Jvm.MethodName) object_method_1_code (1 : Nat) (Option.none : Option Jvm.ClassFile.FieldType)).before args0 about1 = true := code_word (m := ⟨0, 0⟩) (meth := k0m0) (c := k0c0) (by decide +kernel) rfl rfl rfl (by decide +kernel)
set_option maxRecDepth 65536 in
theorem w_c3 : (Jvm.Cond.code ({ cls := "com/example/ballast/ballast/Pacer", name := "take", desc := "(J)V" } : Jvm.MethodName) prog_11_method_3_code (5 : Nat) (Option.none : Option Jvm.ClassFile.FieldType)).before args0 about1 = true := code_word (m := ⟨2, 2⟩) (meth := k2m2) (c := k2c2) (by decide +kernel) rfl rfl rfl (by decide +kernel)
set_option maxRecDepth 65536 in
theorem w_c4 : (Jvm.Cond.code ({ cls := "com/example/ballast/ballast/Pacer", name := "due", desc := "()J" } : Jvm.MethodName) prog_11_method_2_code (1 : Nat) (Option.some Jvm.ClassFile.FieldType.long)).before args0 about1 = true := code_word (m := ⟨2, 1⟩) (meth := k2m1) (c := k2c1) (by decide +kernel) rfl rfl rfl (by decide +kernel)
set_option maxRecDepth 65536 in
theorem w_c5 : (Jvm.Cond.code ({ cls := "com/example/ballast/ballast/PacerTakePinLaw", name := "shift", desc := "(J)J" } : Jvm.MethodName) method_2_code (2 : Nat) (Option.some Jvm.ClassFile.FieldType.long)).before args0 about1 = true := code_word (m := ⟨1, 1⟩) (meth := k1m1) (c := k1c1) (by decide +kernel) rfl rfl rfl (by decide +kernel)
def codes1 : List Jvm.Cond := [Jvm.Cond.code x code maxLocals ret, Jvm.Cond.code ({ cls := "com/example/ballast/ballast/Pacer", name := "<init>", desc := "(JJ)V" } : Jvm.MethodName) prog_11_method_1_code (5 : Nat) (Option.none : Option Jvm.ClassFile.FieldType), Jvm.Cond.code ({ cls := "java/lang/Object", name := "<init>", desc := "()V" } : Jvm.MethodName) object_method_1_code (1 : Nat) (Option.none : Option Jvm.ClassFile.FieldType), Jvm.Cond.code ({ cls := "com/example/ballast/ballast/Pacer", name := "take", desc := "(J)V" } : Jvm.MethodName) prog_11_method_3_code (5 : Nat) (Option.none : Option Jvm.ClassFile.FieldType), Jvm.Cond.code ({ cls := "com/example/ballast/ballast/Pacer", name := "due", desc := "()J" } : Jvm.MethodName) prog_11_method_2_code (1 : Nat) (Option.some Jvm.ClassFile.FieldType.long), Jvm.Cond.code ({ cls := "com/example/ballast/ballast/PacerTakePinLaw", name := "shift", desc := "(J)J" } : Jvm.MethodName) method_2_code (2 : Nat) (Option.some Jvm.ClassFile.FieldType.long)]
set_option maxRecDepth 65536 in
theorem codes_eq : words1.filter isCode = codes1 := rfl
theorem w_codes : ∀ c ∈ words1.filter isCode, c.before args0 about1 = true := by
  rw [codes_eq]
  intro c hc
  simp only [codes1, List.mem_cons, List.not_mem_nil, or_false] at hc
  rcases hc with rfl | rfl | rfl | rfl | rfl | rfl
  · exact w_c0
  · exact w_c1
  · exact w_c2
  · exact w_c3
  · exact w_c4
  · exact w_c5
set_option maxRecDepth 65536 in
theorem w_t1 : (words1.take 24).all (fun c => isCode c || c.before args0 about1) = true := by decide +kernel
set_option maxRecDepth 65536 in
theorem w_t2 : ((words1.drop 24).take 24).all (fun c => isCode c || c.before args0 about1) = true := by decide +kernel
set_option maxRecDepth 65536 in
theorem w_t3 : ((words1.drop 24).drop 24).all (fun c => isCode c || c.before args0 about1) = true := by decide +kernel
theorem w_tables : (allAtoms (Jvm.Cond.code x code maxLocals ret :: tables_1)).before args0 about1 = true := by
  rw [allAtoms_all]
  show words1.all (fun c => c.before args0 about1) = true
  refine all_split ?_ w_codes
  rw [← List.take_append_drop 24 words1, List.all_append, w_t1, ← List.take_append_drop 24 (words1.drop 24), List.all_append, w_t2, w_t3]
  rfl
set_option maxRecDepth 65536 in
theorem w_case : (Jvm.Cond.and given_1 narrow_1).before args0 about1 = true := by decide +kernel
theorem w_applies : (headSpec (Jvm.Cond.code x code maxLocals ret :: tables_1) room_1).applies x e0.platform about1 = true :=
  (Spec.applies_iff w_frames).mpr ⟨w_running, w_runnable, w_alone, w_named, w_hears, w_ripe, w_room, w_tables⟩
theorem atStart : AtStart classFile x code maxLocals ret World_1 tables_1 room_1 Calls_1 rest_1 Pre_1 launch0 p0 e0 about1 theMethod args0 below0 :=
  ⟨lists_1, trivial, launch0.admits_env _ _ _, launch0.least_env, fairChoices_fair.cas, fairChoices_fair.clock, w_frames, w_args, w_heap, w_applies, trivial, trivial, w_case⟩
end start1
theorem witness_1 : WitnessClaimed_1 := ⟨start1.p0, start1.e0, start1.about1, start1.theMethod, start1.args0, start1.below0, start1.atStart⟩
end Jvm.Pilot.@@N@@
