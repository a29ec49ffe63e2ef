import JvmDerived
import JvmDerived.Pilot.@@N@@Statement
import JvmDerived.Pilot.@@N@@Code
set_option linter.unusedVariables false
set_option linter.unusedSimpArgs false
@@BLOCK:NumsL.lean.txt@@
namespace Jvm.RoadKit
open Sem ClassFile Op Lib Jvm.Stand Jvm.Free Jvm.LawKit
section OwnSteps
variable {tb : Tables} [Ours tb] {e : Env} {below : List Frame} {T target : State} {m : MethodId} {c : Code} {g : JFrame}
theorem own_dloadN (h : At T m c below) (hx : tb.exec = Jvm.exec) (hg : g.method = m) {k : Fin 4} {v : UInt64} (hd : decode c.code g.pc = .ok (.dload_n k, 1)) (hl : g.locals[k.val]? = some (.val (.double v)))
    (hr : Steps tb e below (T.setTop { g with pc := g.pc + 1, stack := .double v :: g.stack }) target) : Steps tb e below (T.setTop g) target := by
  subst hg
  jvm_step h [h.top, hx, hd, hl]
  exact hr
theorem own_dload (h : At T m c below) (hx : tb.exec = Jvm.exec) (hg : g.method = m) {k : Nat} {v : UInt64} (hd : decode c.code g.pc = .ok (.dload k, 2)) (hl : g.locals[k]? = some (.val (.double v)))
    (hr : Steps tb e below (T.setTop { g with pc := g.pc + 2, stack := .double v :: g.stack }) target) : Steps tb e below (T.setTop g) target := by
  subst hg
  jvm_step h [h.top, hx, hd, hl]
  exact hr
theorem own_dstoreN (h : At T m c below) (hx : tb.exec = Jvm.exec) (hg : g.method = m) {k : Fin 4} {x : UInt64} {rest : List Value} {l' : Array Slot} (hd : decode c.code g.pc = .ok (.dstore_n k, 1)) (hs : g.stack = .double x :: rest) (hl : storeLocals g.locals k.val (.double x) = some l')
    (hr : Steps tb e below (T.setTop { g with pc := g.pc + 1, stack := rest, locals := l' }) target) : Steps tb e below (T.setTop g) target := by
  subst hg
  jvm_step h [h.top, hx, hd, hs, hl]
  exact hr
theorem own_dstore (h : At T m c below) (hx : tb.exec = Jvm.exec) (hg : g.method = m) {k : Nat} {x : UInt64} {rest : List Value} {l' : Array Slot} (hd : decode c.code g.pc = .ok (.dstore k, 2)) (hs : g.stack = .double x :: rest) (hl : storeLocals g.locals k (.double x) = some l')
    (hr : Steps tb e below (T.setTop { g with pc := g.pc + 2, stack := rest, locals := l' }) target) : Steps tb e below (T.setTop g) target := by
  subst hg
  jvm_step h [h.top, hx, hd, hs, hl]
  exact hr
theorem own_i2d (h : At T m c below) (hx : tb.exec = Jvm.exec) (hg : g.method = m) {x : Int32} {rest : List Value} (hd : decode c.code g.pc = .ok (.i2d, 1)) (hs : g.stack = .int x :: rest)
    (hr : Steps tb e below (T.setTop { g with pc := g.pc + 1, stack := .double (FP.i2d x) :: rest }) target) : Steps tb e below (T.setTop g) target := by
  subst hg
  jvm_step h [h.top, hx, hd, hs]
  exact hr
theorem own_l2d (h : At T m c below) (hx : tb.exec = Jvm.exec) (hg : g.method = m) {x : Int64} {rest : List Value} (hd : decode c.code g.pc = .ok (.l2d, 1)) (hs : g.stack = .long x :: rest)
    (hr : Steps tb e below (T.setTop { g with pc := g.pc + 1, stack := .double (FP.l2d x) :: rest }) target) : Steps tb e below (T.setTop g) target := by
  subst hg
  jvm_step h [h.top, hx, hd, hs]
  exact hr
theorem own_d2l (h : At T m c below) (hx : tb.exec = Jvm.exec) (hg : g.method = m) {x : UInt64} {rest : List Value} (hd : decode c.code g.pc = .ok (.d2l, 1)) (hs : g.stack = .double x :: rest)
    (hr : Steps tb e below (T.setTop { g with pc := g.pc + 1, stack := .long (FP.d2l x) :: rest }) target) : Steps tb e below (T.setTop g) target := by
  subst hg
  jvm_step h [h.top, hx, hd, hs]
  exact hr
theorem own_d2i (h : At T m c below) (hx : tb.exec = Jvm.exec) (hg : g.method = m) {x : UInt64} {rest : List Value} (hd : decode c.code g.pc = .ok (.d2i, 1)) (hs : g.stack = .double x :: rest)
    (hr : Steps tb e below (T.setTop { g with pc := g.pc + 1, stack := .int (FP.d2i x) :: rest }) target) : Steps tb e below (T.setTop g) target := by
  subst hg
  jvm_step h [h.top, hx, hd, hs]
  exact hr
theorem own_dneg (h : At T m c below) (hx : tb.exec = Jvm.exec) (hg : g.method = m) {x : UInt64} {rest : List Value} (hd : decode c.code g.pc = .ok (.dneg, 1)) (hs : g.stack = .double x :: rest)
    (hr : Steps tb e below (T.setTop { g with pc := g.pc + 1, stack := .double (FP.dneg x) :: rest }) target) : Steps tb e below (T.setTop g) target := by
  subst hg
  jvm_step h [h.top, hx, hd, hs]
  exact hr
theorem own_dcmp (h : At T m c below) (hx : tb.exec = Jvm.exec) (hg : g.method = m) {op : CmpOp} {x y : UInt64} {rest : List Value} (hd : decode c.code g.pc = .ok (.dcmp op, 1)) (hs : g.stack = .double y :: .double x :: rest)
    (hr : Steps tb e below (T.setTop { g with pc := g.pc + 1, stack := .int (cmpValue (FP.dcmp x y) op) :: rest }) target) : Steps tb e below (T.setTop g) target := by
  subst hg
  jvm_step h [h.top, hx, hd, hs]
  exact hr
theorem own_dconst0 (h : At T m c below) (hx : tb.exec = Jvm.exec) (hg : g.method = m) (hd : decode c.code g.pc = .ok (.dconst 0, 1))
    (hr : Steps tb e below (T.setTop { g with pc := g.pc + 1, stack := .double (0 : UInt64) :: g.stack }) target) : Steps tb e below (T.setTop g) target := by
  subst hg
  jvm_step h [h.top, hx, hd]
  exact hr
theorem own_dconst1 (h : At T m c below) (hx : tb.exec = Jvm.exec) (hg : g.method = m) (hd : decode c.code g.pc = .ok (.dconst 1, 1))
    (hr : Steps tb e below (T.setTop { g with pc := g.pc + 1, stack := .double (4607182418800017408 : UInt64) :: g.stack }) target) : Steps tb e below (T.setTop g) target := by
  subst hg
  jvm_step h [h.top, hx, hd]
  exact hr
/-- no NaN, as the steps' law asks it -/
abbrev OwnNum (x : UInt64) : Prop := x &&& 0x7fffffffffffffff ≤ 0x7ff0000000000000
theorem own_dadd (h : At T m c below) (hx : tb.exec = Jvm.exec) (hg : g.method = m) {x y : UInt64} {rest : List Value} (hd : decode c.code g.pc = .ok (.dadd, 1)) (hs : g.stack = .double y :: .double x :: rest) (hn : OwnNum (FP.dadd x y))
    (hr : Steps tb e below (T.setTop { g with pc := g.pc + 1, stack := .double (FP.dadd x y) :: rest }) target) : Steps tb e below (T.setTop g) target := by
  subst hg
  obtain ⟨gm, gpc, gl, gs, gk, ge, gr⟩ := g
  cases hs
  jvm_step h [h.top, hx, hd, Op.dadd.at_number h.top hn]
  exact hr
theorem own_dsub (h : At T m c below) (hx : tb.exec = Jvm.exec) (hg : g.method = m) {x y : UInt64} {rest : List Value} (hd : decode c.code g.pc = .ok (.dsub, 1)) (hs : g.stack = .double y :: .double x :: rest) (hn : OwnNum (FP.dsub x y))
    (hr : Steps tb e below (T.setTop { g with pc := g.pc + 1, stack := .double (FP.dsub x y) :: rest }) target) : Steps tb e below (T.setTop g) target := by
  subst hg
  obtain ⟨gm, gpc, gl, gs, gk, ge, gr⟩ := g
  cases hs
  jvm_step h [h.top, hx, hd, Op.dsub.at_number h.top hn]
  exact hr
theorem own_dmul (h : At T m c below) (hx : tb.exec = Jvm.exec) (hg : g.method = m) {x y : UInt64} {rest : List Value} (hd : decode c.code g.pc = .ok (.dmul, 1)) (hs : g.stack = .double y :: .double x :: rest) (hn : OwnNum (FP.dmul x y))
    (hr : Steps tb e below (T.setTop { g with pc := g.pc + 1, stack := .double (FP.dmul x y) :: rest }) target) : Steps tb e below (T.setTop g) target := by
  subst hg
  obtain ⟨gm, gpc, gl, gs, gk, ge, gr⟩ := g
  cases hs
  jvm_step h [h.top, hx, hd, Op.dmul.at_number h.top hn]
  exact hr
theorem own_ddiv (h : At T m c below) (hx : tb.exec = Jvm.exec) (hg : g.method = m) {x y : UInt64} {rest : List Value} (hd : decode c.code g.pc = .ok (.ddiv, 1)) (hs : g.stack = .double y :: .double x :: rest) (hn : OwnNum (FP.ddiv x y))
    (hr : Steps tb e below (T.setTop { g with pc := g.pc + 1, stack := .double (FP.ddiv x y) :: rest }) target) : Steps tb e below (T.setTop g) target := by
  subst hg
  obtain ⟨gm, gpc, gl, gs, gk, ge, gr⟩ := g
  cases hs
  jvm_step h [h.top, hx, hd, Op.ddiv.at_number h.top hn]
  exact hr
end OwnSteps
/-- the run from S ends by a return, with what Q says of its value, the heap and the places written -/
def Go (tb : Tables) (e : Env) (below : List Frame) (s : State) (k n : Nat) (Q : Option Value → Heap → List Loc → Prop) (S : State) : Prop :=
  ∃ s₂ o, Steps tb e below S s₂ ∧ s₂.status = .running ∧ Ended s₂ below o ∧ ∃ v L, o = .returned v ∧ Q v s₂.heap L ∧ FrameEnd s o s₂ L k n
theorem Go.adv {tb : Tables} {e : Env} {below : List Frame} {s : State} {k n : Nat} {Q : Option Value → Heap → List Loc → Prop} {S S' : State} (h : ∀ t, Steps tb e below S' t → Steps tb e below S t) (g : Go tb e below s k n Q S') : Go tb e below s k n Q S := by
  obtain ⟨s₂, o, h1, h2⟩ := g
  exact ⟨s₂, o, h _ h1, h2⟩
theorem Go.tr {tb : Tables} {e : Env} {below : List Frame} {s : State} {k n : Nat} {Q : Option Value → Heap → List Loc → Prop} {S S' : State} (h : Steps tb e below S S') (g : Go tb e below s k n Q S') : Go tb e below s k n Q S := by
  obtain ⟨s₂, o, h1, h2⟩ := g
  exact ⟨s₂, o, h.trans h1, h2⟩
theorem Go.start {tb : Tables} {e : Env} {below : List Frame} {s : State} {k n : Nat} {Q : Option Value → Heap → List Loc → Prop} {T : State} {g g' : JFrame} (q : g = g') (h : Go tb e below s k n Q (T.setTop g')) :
    ∃ s₂ o, Steps tb e below (T.setTop g) s₂ ∧ s₂.status = .running ∧ Ended s₂ below o ∧ ∃ v L, o = .returned v ∧ Q v s₂.heap L ∧ FrameEnd s o s₂ L k n := by
  subst q; exact h
theorem own_hide {p : Program} {l : Launch} {e : Env} {R : Room} {s : State} {m : MethodId} {args : Array Value} {below : List Frame} {meth : Method} {c : Code} {T : State} {L : List Loc} {k n a : Nat} (X : Stand p l e R s m args below meth c T L k n) (N : Fr a L) : ∃ L', Stand p l e R s m args below meth c T L' k n ∧ Fr a L' := ⟨L, X, N⟩
theorem own_staKeep0 {Z : State} {h h' : Heap} {C n d : String} {w : Value} (F : Sta Z h C n d w) (K : Keep h h' []) : Sta Z h' C n d w := by
  obtain ⟨cf, i, k, f, st, cell, h1, h2, h3, h4, h5, h6, h7⟩ := F
  exact ⟨cf, i, k, f, st, cell, h1, h2, h3, h4, K.2.1 st cell h5 nin0, h6, h7⟩
theorem own_staKeep {Z : State} {h h' : Heap} {C n d D : String} {w : Value} {a : Addr} (F : Sta Z h C n d w) (K : Keep h h' [a]) (E : Exa Z h a D) : Sta Z h' C n d w := by
  obtain ⟨cf, i, k, f, st, cell, h1, h2, h3, h4, h5, h6, h7⟩ := F
  obtain ⟨c2, k2, e1, -, -, e4, -⟩ := E
  refine ⟨cf, i, k, f, st, cell, h1, h2, h3, h4, K.2.1 st cell h5 fun hm => ?_, h6, h7⟩
  cases List.mem_singleton.mp hm
  cases h5.symm.trans e1
  rw [h6] at e4; cases e4
section OwnRet
variable {p : Program} {l : Launch} {e : Env} {R : Room} {s : State} {m : MethodId} {args : Array Value} {below : List Frame} {meth : Method} {c : Code} {T : State} {locs : List Loc} {cells slots : Nat}
theorem Go.ret (X : Stand p l e R s m args below meth c T locs cells slots) {v : Option Value} (hv : meth.sig.returnType = none → v = none) (hlk : meth.locks = false) {k n : Nat} {Q : Option Value → Heap → List Loc → Prop} {S : State}
    (hs : ∀ fs, (∀ (f : JFrame) (acts : List Action), f.method = m → f.locked = none → f.entered = [] → (doReturn e (T.setTop f) acts v).1 = T.setFrames fs) → Steps p.tables e below S (T.setFrames fs))
    (hQ : Q v T.heap locs) (hk : cells ≤ k) (hn : slots ≤ n) : Go p.tables e below s k n Q S := by
  obtain ⟨fs, hr, hrun, hended, hW, hsame⟩ := X.leave (v := v) hv hlk
  exact ⟨_, _, hs fs hr, hrun, hended, _, _, rfl, hQ, ⟨_, rfl⟩, hW, hsame.mono hk hn⟩
/-- the same, where String constants may have been made: the wide frame -/
def GoW (tb : Tables) (e : Env) (below : List Frame) (s : State) (k n : Nat) (Q : Option Value → Heap → List Loc → Prop) (S : State) : Prop :=
  ∃ s₂ o, Steps tb e below S s₂ ∧ s₂.status = .running ∧ Ended s₂ below o ∧ ∃ v L, o = .returned v ∧ Q v s₂.heap L ∧ ReturnedEndW s o s₂ L k n
theorem GoW.adv {tb : Tables} {e : Env} {below : List Frame} {s : State} {k n : Nat} {Q : Option Value → Heap → List Loc → Prop} {S S' : State} (h : ∀ t, Steps tb e below S' t → Steps tb e below S t) (g : GoW tb e below s k n Q S') : GoW tb e below s k n Q S := by
  obtain ⟨s₂, o, h1, h2⟩ := g
  exact ⟨s₂, o, h _ h1, h2⟩
theorem GoW.tr {tb : Tables} {e : Env} {below : List Frame} {s : State} {k n : Nat} {Q : Option Value → Heap → List Loc → Prop} {S S' : State} (h : Steps tb e below S S') (g : GoW tb e below s k n Q S') : GoW tb e below s k n Q S := by
  obtain ⟨s₂, o, h1, h2⟩ := g
  exact ⟨s₂, o, h.trans h1, h2⟩
theorem GoW.start {tb : Tables} {e : Env} {below : List Frame} {s : State} {k n : Nat} {Q : Option Value → Heap → List Loc → Prop} {T : State} {g g' : JFrame} (q : g = g') (h : GoW tb e below s k n Q (T.setTop g')) :
    ∃ s₂ o, Steps tb e below (T.setTop g) s₂ ∧ s₂.status = .running ∧ Ended s₂ below o ∧ ∃ v L, o = .returned v ∧ Q v s₂.heap L ∧ ReturnedEndW s o s₂ L k n := by
  subst q; exact h
theorem GoW.ret {vm : Vm} (X : Stand p l e R (s.setVm vm) m args below meth c T locs cells slots) {kk : Nat} (hS : s.Since vm kk) (hkk : kk ≤ T.heap.size) {v : Option Value} (hv : meth.sig.returnType = none → v = none) (hlk : meth.locks = false) {k n : Nat} {Q : Option Value → Heap → List Loc → Prop} {S : State}
    (hs : ∀ fs, (∀ (f : JFrame) (acts : List Action), f.method = m → f.locked = none → f.entered = [] → (doReturn e (T.setTop f) acts v).1 = T.setFrames fs) → Steps p.tables e below S (T.setFrames fs))
    (hQ : Q v T.heap locs) (hk : cells ≤ k) (hn : slots ≤ n) : GoW p.tables e below s k n Q S := by
  obtain ⟨fs, hr, hrun, hended, h1, h2, h3, h4⟩ := X.leaveW hS hkk (v := v) hv hlk
  exact ⟨_, _, hs fs hr, hrun, hended, _, _, rfl, hQ, h1, h2, h3, h4.mono hk hn⟩
end OwnRet
end Jvm.RoadKit
namespace Jvm.Own
open Jvm.FP.Core
/-- a datum times 2^k -/
def sh (k : Int) : Datum → Datum
  | .nan => .nan
  | .inf s => .inf s
  | .fin s c q => .fin s c (q + k)
/-- the double a is i / 2^k -/
def Dy (k : Nat) (i : Int) (a : UInt64) : Prop := Whole i (sh k (val64 a))
theorem whole_shape {i : Int} {d : Datum} (h : Whole i d) : ∃ s c q, d = .fin s c q := by
  cases d with
  | nan => exact h.elim
  | inf => exact h.elim
  | fin s c q => exact ⟨s, c, q, rfl⟩
theorem sh_shape {k : Int} {i : Int} {d : Datum} (h : Whole i (sh k d)) : ∃ s c q, d = .fin s c q := by
  cases d with
  | nan => exact h.elim
  | inf => exact h.elim
  | fin s c q => exact ⟨s, c, q, rfl⟩
theorem units_sh (c : Nat) (q e k : Int) : inUnits c (q + k) (e + k) = inUnits c q e := by
  show c * 2 ^ (q + k - (e + k)).toNat = c * 2 ^ (q - e).toNat
  rw [show q + k - (e + k) = q - e by omega]
theorem sum_sh (k : Int) (s : Bool) (c : Nat) (q : Int) (t : Bool) (d : Nat) (r : Int) : exactSum (.fin s c (q + k)) (.fin t d (r + k)) = sh k (exactSum (.fin s c q) (.fin t d r)) := by
  have hm : min (q + k) (r + k) = min q r + k := by omega
  have hu : sumUnits s c (q + k) t d (r + k) (min q r + k) = sumUnits s c q t d r (min q r) := by
    show signed s (inUnits c (q + k) (min q r + k)) + signed t (inUnits d (r + k) (min q r + k)) = signed s (inUnits c q (min q r)) + signed t (inUnits d r (min q r))
    rw [units_sh, units_sh]
  show Datum.fin (sumSign s t (sumUnits s c (q + k) t d (r + k) (min (q + k) (r + k)))) (sumUnits s c (q + k) t d (r + k) (min (q + k) (r + k))).natAbs (min (q + k) (r + k)) = Datum.fin (sumSign s t (sumUnits s c q t d r (min q r))) (sumUnits s c q t d r (min q r)).natAbs (min q r + k)
  rw [hm, hu]
theorem round_sh {k : Nat} (hk : k ≤ 900) {i : Int} (hi : i.natAbs ≤ 2 ^ 53) {d : Datum} (h : Whole i (sh k d)) : Whole i (sh k (round b64 d)) := by
  obtain ⟨s, c, q, rfl⟩ := sh_shape h
  have h' : Whole i (.fin s c (q + k)) := h
  by_cases h0 : i = 0
  · have hc : c = 0 := (whole_zero h').mpr h0
    subst hc
    subst h0
    have e1 : round b64 (.fin s 0 q) = .fin s 0 b64.qmin := (if_pos rfl : roundRatio b64 s 0 1 q = _)
    rw [e1]
    show signed s (0 * 2 ^ (b64.qmin + k).toNat) = 0 * _
    rw [Nat.zero_mul, Int.zero_mul]
    exact signed_zero s
  · obtain ⟨c0, q0, hfit, hv⟩ := natFit good_b64 wide_b64 s (n := i.natAbs) (show _ ≤ 2 ^ 53 from hi)
    have hs := whole_sign h' h0
    have hn := whole_natAbs h'
    have hW : Whole i (.fin s i.natAbs 0) := by rw [hs]; exact whole_ofInt i
    have e1 : round b64 (.fin s i.natAbs 0) = .fin s c0 q0 := roundRatio_exact good_b64 (by decide) hfit hv
    have hW2 := whole_round good_b64 wide_b64 (show _ ≤ 2 ^ 53 from hi) hW
    rw [e1] at hW2
    have hq : -100 ≤ q0 := by
      refine Int.not_lt.mp fun hlt => ?_
      have p1 : (q0 - 0).toNat = 0 := by omega
      have p2 : 2 ^ 101 ≤ 2 ^ (0 - q0).toNat := Nat.pow_le_pow_right (by decide) (by omega)
      have p3 : 1 * 2 ^ (0 - q0).toNat ≤ i.natAbs * 2 ^ (0 - q0).toNat := Nat.mul_le_mul_right _ (by omega)
      have p4 : c0 < 2 ^ 53 := hfit.1
      rw [hv, p1, Nat.pow_zero, Nat.mul_one, Nat.mul_one, Nat.one_mul] at p3
      have p5 : (2 : Nat) ^ 53 ≤ 2 ^ 101 := Nat.pow_le_pow_right (by decide) (by decide)
      exact absurd (Nat.lt_of_le_of_lt (Nat.le_trans p2 p3) p4) (Nat.not_lt.mpr p5)
    have hfit' : Jvm.FP.Core.fits b64 (.fin s c0 (q0 - k)) := by
      obtain ⟨f1, f2, f3, f4⟩ := hfit
      refine ⟨f1, ?_, by omega, Or.inr ?_⟩
      · rw [qmin_b64]; omega
      · rcases f4 with f4 | f4
        · rw [qmin_b64] at f4; omega
        · exact f4
    have e2 : round b64 (.fin s c q) = .fin s c0 (q0 - k) := by
      show roundRatio b64 s c 1 q = _
      rw [roundRatio_congr (A' := i.natAbs) (B' := 1) (e' := -(k : Int)) (by decide) (by decide) (by
        rw [show q - -(k : Int) = q + k by omega, show -(k : Int) - q = -(q + k) by omega, Nat.mul_one, Nat.mul_one]; exact hn)]
      exact roundRatio_exact good_b64 (by decide) hfit' (by
        rw [show -(k : Int) - (q0 - k) = 0 - q0 by omega, show q0 - k - -(k : Int) = q0 - 0 by omega]; exact hv)
    rw [e2]
    show Whole i (.fin s c0 (q0 - k + k))
    rw [Int.sub_add_cancel]
    exact hW2
theorem Dy.of {i : Int} {a : UInt64} (h : DInt i a) : Dy 0 i a := by
  have h1 : Whole i (val64 a) := h
  obtain ⟨s, c, q, e⟩ := whole_shape h1
  show Whole i (sh 0 (val64 a))
  rw [e] at h1 ⊢
  show Whole i (.fin s c (q + 0))
  rw [Int.add_zero]; exact h1
theorem Dy.int {i : Int} {a : UInt64} (h : Dy 0 i a) : DInt i a := by
  have h1 : Whole i (sh 0 (val64 a)) := h
  obtain ⟨s, c, q, e⟩ := sh_shape h1
  show Whole i (val64 a)
  rw [e] at h1 ⊢
  have h2 : Whole i (.fin s c (q + 0)) := h1
  rw [Int.add_zero] at h2; exact h2
theorem Dy.fin {k : Nat} {i : Int} {a : UInt64} (h : Dy k i a) : DFin a := sh_shape h
theorem Dy.add {k : Nat} {i j : Int} {a b : UInt64} (ha : Dy k i a) (hb : Dy k j b) (hk : k ≤ 900) (h : (i + j).natAbs ≤ 2 ^ 53) : Dy k (i + j) (dadd a b) := by
  show Whole _ (sh k (val64 (dadd a b)))
  rw [val64_dadd]
  refine round_sh hk h ?_
  have ha' : Whole i (sh k (val64 a)) := ha
  have hb' : Whole j (sh k (val64 b)) := hb
  obtain ⟨s, c, q, e1⟩ := sh_shape ha'
  obtain ⟨t, d, r, e2⟩ := sh_shape hb'
  rw [e1] at ha' ⊢
  rw [e2] at hb' ⊢
  rw [← sum_sh]
  exact whole_sum ha' hb'
theorem Dy.sub {k : Nat} {i j : Int} {a b : UInt64} (ha : Dy k i a) (hb : Dy k j b) (hk : k ≤ 900) (h : (i - j).natAbs ≤ 2 ^ 53) : Dy k (i - j) (dsub a b) := by
  show Whole _ (sh k (val64 (dsub a b)))
  rw [val64_dsub]
  refine round_sh hk h ?_
  have ha' : Whole i (sh k (val64 a)) := ha
  have hb' : Whole j (sh k (val64 b)) := hb
  obtain ⟨s, c, q, e1⟩ := sh_shape ha'
  obtain ⟨t, d, r, e2⟩ := sh_shape hb'
  rw [e1] at ha' ⊢
  rw [e2] at hb' ⊢
  show Whole (i - j) (sh k (exactSum (.fin s c q) (.fin (!t) d r)))
  rw [← sum_sh]
  exact whole_sum ha' (whole_negate hb')
theorem Dy.mul {k n : Nat} {i j : Int} {a b : UInt64} (ha : Dy k i a) (hb : Dy n j b) (hk : k + n ≤ 900) (h : (i * j).natAbs ≤ 2 ^ 53) : Dy (k + n) (i * j) (dmul a b) := by
  show Whole _ (sh ((k + n : Nat) : Int) (val64 (dmul a b)))
  rw [val64_dmul]
  refine round_sh hk h ?_
  have ha' : Whole i (sh k (val64 a)) := ha
  have hb' : Whole j (sh n (val64 b)) := hb
  obtain ⟨s, c, q, e1⟩ := sh_shape ha'
  obtain ⟨t, d, r, e2⟩ := sh_shape hb'
  rw [e1] at ha' ⊢
  rw [e2] at hb' ⊢
  have hp : Whole (i * j) (.fin (s != t) (c * d) ((q + k) + (r + n))) := whole_product ha' hb'
  show Whole (i * j) (.fin (s != t) (c * d) (q + r + ((k + n : Nat) : Int)))
  rw [show q + r + ((k + n : Nat) : Int) = (q + k) + (r + n) by omega]
  exact hp
theorem Dy.cmp {k : Nat} {i j : Int} {a b : UInt64} (ha : Dy k i a) (hb : Dy k j b) : dcmp a b = some (compare i j) := by
  have ha' : Whole i (sh k (val64 a)) := ha
  have hb' : Whole j (sh k (val64 b)) := hb
  show order (val64 a) (val64 b) = _
  obtain ⟨s, c, q, e1⟩ := sh_shape ha'
  obtain ⟨t, d, r, e2⟩ := sh_shape hb'
  rw [e1] at ha' ⊢
  rw [e2] at hb' ⊢
  rw [← order_whole ha' hb']
  show some (compare (signed s (inUnits c q (min q r))) (signed t (inUnits d r (min q r)))) = some (compare (signed s (inUnits c (q + k) (min (q + k) (r + k)))) (signed t (inUnits d (r + k) (min (q + k) (r + k)))))
  rw [show min (q + (k : Int)) (r + k) = min q r + k by omega, units_sh, units_sh]
theorem whole_up {i : Int} {s : Bool} {c : Nat} {q : Int} (n : Nat) (h : Whole i (.fin s c q)) : Whole (i * ((2 ^ n : Nat) : Int)) (.fin s c (q + n)) := by
  have h1 : signed s (c * 2 ^ q.toNat) = i * ((2 ^ (-q).toNat : Nat) : Int) := h
  show signed s (c * 2 ^ (q + n).toNat) = i * ((2 ^ n : Nat) : Int) * ((2 ^ (-(q + n)).toNat : Nat) : Int)
  have p2 : ((2 ^ (-q).toNat : Nat) : Int) ≠ 0 := by
    have := Nat.two_pow_pos (-q).toNat; omega
  refine Int.eq_of_mul_eq_mul_right p2 ?_
  have hx : (q + n).toNat + (-q).toNat = q.toNat + (n + (-(q + n)).toNat) := by omega
  rw [← signed_mul, Nat.mul_assoc, ← Nat.pow_add, hx, Nat.pow_add, ← Nat.mul_assoc, signed_mul, h1, Nat.pow_add, Int.natCast_mul]
  ac_rfl
theorem Dy.up {k : Nat} {i : Int} {a : UInt64} (n : Nat) (h : Dy k i a) : Dy (k + n) (i * ((2 ^ n : Nat) : Int)) a := by
  have h1 : Whole i (sh k (val64 a)) := h
  obtain ⟨s, c, q, e⟩ := sh_shape h1
  show Whole _ (sh ((k + n : Nat) : Int) (val64 a))
  rw [e] at h1 ⊢
  have h2 : Whole i (.fin s c (q + k)) := h1
  have h3 := whole_up n h2
  show Whole _ (.fin s c (q + ((k + n : Nat) : Int)))
  rw [show q + ((k + n : Nat) : Int) = q + k + n by omega]
  exact h3
/-- divided by 2^n -/
theorem Dy.div2 {k n : Nat} {i : Int} {a b : UInt64} {mm : Nat} {r : Int} (h : Dy k i a) (hb : val64 b = .fin false (2 ^ mm) r) (hr : r + mm = n) (hk : k + n ≤ 900) (hi : i.natAbs ≤ 2 ^ 53) : Dy (k + n) i (ddiv a b) := by
  have h1 : Whole i (sh k (val64 a)) := h
  obtain ⟨s, c, q, e⟩ := sh_shape h1
  show Whole _ (sh ((k + n : Nat) : Int) (val64 (ddiv a b)))
  rw [val64_ddiv, hb]
  rw [e] at h1 ⊢
  have hp : 0 < 2 ^ mm := Nat.two_pow_pos mm
  have e1 : quotient b64 (.fin s c q) (.fin false (2 ^ mm) r) = round b64 (.fin s c (q - n)) := by
    show (if 2 ^ mm = 0 then _ else roundRatio b64 (s != false) c (2 ^ mm) (q - r)) = roundRatio b64 s c 1 (q - n)
    rw [if_neg (by omega), show (s != false) = s by cases s <;> rfl]
    refine roundRatio_congr hp (by decide) ?_
    rw [show (q - r - (q - (n : Int))).toNat = mm by omega, show (q - (n : Int) - (q - r)).toNat = 0 by omega, Nat.pow_zero, Nat.mul_one, Nat.mul_one]
  rw [e1]
  refine round_sh hk hi ?_
  have h2 : Whole i (.fin s c (q + k)) := h1
  show Whole i (.fin s c (q - n + ((k + n : Nat) : Int)))
  rw [show q - (n : Int) + ((k + n : Nat) : Int) = q + k by omega]
  exact h2
/-- the quotient of two whole numbers, as a rounded ratio -/
theorem div_ratio {i j : Int} {a b : UInt64} (ha : DInt i a) (hb : DInt j b) (hi : 0 ≤ i) (hj : 0 < j) : ∃ s, val64 (ddiv a b) = roundRatio b64 s i.natAbs j.natAbs 0 ∧ (0 < i → s = false) := by
  have ha' : Whole i (val64 a) := ha
  have hb' : Whole j (val64 b) := hb
  obtain ⟨s, c, q, e1⟩ := whole_shape ha'
  obtain ⟨t, d, r, e2⟩ := whole_shape hb'
  rw [val64_ddiv]
  rw [e1] at ha' ⊢
  rw [e2] at hb' ⊢
  have hd : d ≠ 0 := fun h => by have := (whole_zero hb').mp h; omega
  have ht : t = false := by rw [whole_sign hb' (by omega)]; exact decide_eq_false (by omega)
  have h1 := whole_natAbs ha'
  have h2 := whole_natAbs hb'
  refine ⟨s, ?_, fun h => by rw [whole_sign ha' (by omega)]; exact decide_eq_false (by omega)⟩
  subst ht
  show (if d = 0 then _ else roundRatio b64 (s != false) c d (q - r)) = _
  rw [if_neg hd, show (s != false) = s by cases s <;> rfl]
  refine roundRatio_congr (by omega) (by omega) ?_
  have hx : (q - r - 0).toNat + (-q).toNat + r.toNat = (0 - (q - r)).toNat + q.toNat + (-r).toNat := by omega
  generalize (q - r - 0).toNat = u at hx ⊢
  generalize (0 - (q - r)).toNat = v at hx ⊢
  generalize q.toNat = a1 at hx h1
  generalize (-q).toNat = a2 at hx h1
  generalize r.toNat = b1 at hx h2
  generalize (-r).toNat = b2 at hx h2
  generalize i.natAbs = I at h1 ⊢
  generalize j.natAbs = J at h2 ⊢
  refine Nat.eq_of_mul_eq_mul_right (Nat.two_pow_pos (a1 + b2)) ?_
  calc c * J * 2 ^ u * 2 ^ (a1 + b2) = (c * 2 ^ a1) * (J * 2 ^ b2) * 2 ^ u := by rw [Nat.pow_add]; ac_rfl
    _ = (I * 2 ^ a2) * (d * 2 ^ b1) * 2 ^ u := by rw [h1, ← h2]
    _ = I * d * 2 ^ (u + a2 + b1) := by simp only [Nat.pow_add]; ac_rfl
    _ = I * d * 2 ^ (v + a1 + b2) := by rw [hx]
    _ = I * d * 2 ^ v * 2 ^ (a1 + b2) := by simp only [Nat.pow_add]; ac_rfl
theorem units0 (A : Nat) : inUnits A 0 b64.qmin = A * one64 := by
  show A * 2 ^ (0 - b64.qmin).toNat = A * 2 ^ 1074
  have h1 : (0 - b64.qmin).toNat = 1074 := by decide
  rw [h1]
theorem ratio_le {s : Bool} {A B : Nat} (hB : 0 < B) {V : UInt64} (hV : DFin V) (h : A * one64 ≤ zmag b64 (val64 V) * B) : zmag b64 (roundRatio b64 s A B 0) ≤ zmag b64 (val64 V) := by
  refine zmag_roundRatio_le good_b64 hB (val64_fits V) hV.ne_nan (Int.le_refl _) (by rw [qmin_b64]; decide) ?_
  rw [units0, Int.sub_self]
  show A * one64 ≤ zmag b64 (val64 V) * 1 * B
  rw [Nat.mul_one]; exact h
theorem ratio_ge {s : Bool} {A B : Nat} (hB : 0 < B) {V : UInt64} (h : zmag b64 (val64 V) * B ≤ A * one64) : zmag b64 (val64 V) ≤ zmag b64 (roundRatio b64 s A B 0) := by
  refine zmag_roundRatio_ge good_b64 hB (val64_fits V) (Int.le_refl _) (by rw [qmin_b64]; decide) ?_
  rw [units0, Int.sub_self]
  show zmag b64 (val64 V) * 1 * B ≤ A * one64
  rw [Nat.mul_one]; exact h
/-- 1, the number next below it, and 2^-53, in units -/
theorem z_one : zmag b64 (val64 4607182418800017408) = 2 ^ 53 * 2 ^ 1021 := by decide +kernel
theorem z_pred : zmag b64 (val64 4607182418800017407) = (2 ^ 53 - 1) * 2 ^ 1021 := by decide +kernel
theorem z_tiny : zmag b64 (val64 4368491638549381120) = 2 ^ 1021 := by decide +kernel
theorem f_one : DFin 4607182418800017408 := (fin_bits _).mpr (by decide +kernel)
theorem f_pred : DFin 4607182418800017407 := (fin_bits _).mpr (by decide +kernel)
theorem one_split : one64 = 2 ^ 53 * 2 ^ 1021 := by
  show 2 ^ 1074 = _
  rw [← Nat.pow_add]
theorem zv_one : zval b64 (val64 4607182418800017408) = ((2 ^ 53 * 2 ^ 1021 : Nat) : Int) := by decide +kernel
theorem ratio_one {s : Bool} {A B : Nat} (hB : 0 < B) (h : A ≤ B) : zmag b64 (roundRatio b64 s A B 0) ≤ 2 ^ 53 * 2 ^ 1021 := by
  rw [← z_one]
  refine ratio_le hB f_one ?_
  rw [z_one, ← one_split, Nat.mul_comm]
  exact Nat.mul_le_mul_left _ h
theorem ratio_eq {s : Bool} {B : Nat} (hB : 0 < B) : zmag b64 (roundRatio b64 s B B 0) = 2 ^ 53 * 2 ^ 1021 := by
  refine Nat.le_antisymm (ratio_one hB (Nat.le_refl _)) ?_
  rw [← z_one]
  refine ratio_ge hB ?_
  rw [z_one, ← one_split, Nat.mul_comm]
  exact Nat.le_refl _
theorem ratio_lt {s : Bool} {A B : Nat} (h : A < B) (hB : B ≤ 2 ^ 53) : zmag b64 (roundRatio b64 s A B 0) < 2 ^ 53 * 2 ^ 1021 := by
  have h1 : zmag b64 (roundRatio b64 s A B 0) ≤ zmag b64 (val64 4607182418800017407) := by
    refine ratio_le (by omega) f_pred ?_
    rw [z_pred, one_split]
    have h2 : A * 2 ^ 53 ≤ (2 ^ 53 - 1) * B := by omega
    calc A * (2 ^ 53 * 2 ^ 1021) = A * 2 ^ 53 * 2 ^ 1021 := by rw [Nat.mul_assoc]
      _ ≤ (2 ^ 53 - 1) * B * 2 ^ 1021 := Nat.mul_le_mul_right _ h2
      _ = (2 ^ 53 - 1) * 2 ^ 1021 * B := Nat.mul_right_comm _ _ _
  rw [z_pred] at h1
  refine Nat.lt_of_le_of_lt h1 ?_
  exact Nat.mul_lt_mul_of_pos_right (by decide) (Nat.two_pow_pos _)
theorem ratio_pos {s : Bool} {A B : Nat} (hA : 0 < A) (hB : 0 < B) (h : B ≤ 2 ^ 53) : 0 < zmag b64 (roundRatio b64 s A B 0) := by
  have h1 : zmag b64 (val64 4368491638549381120) ≤ zmag b64 (roundRatio b64 s A B 0) := by
    refine ratio_ge hB ?_
    rw [z_tiny, one_split]
    have h2 : B ≤ A * 2 ^ 53 := Nat.le_trans h (Nat.le_mul_of_pos_left _ hA)
    calc 2 ^ 1021 * B = B * 2 ^ 1021 := Nat.mul_comm _ _
      _ ≤ A * 2 ^ 53 * 2 ^ 1021 := Nat.mul_le_mul_right _ h2
      _ = A * (2 ^ 53 * 2 ^ 1021) := by rw [Nat.mul_assoc]
  rw [z_tiny] at h1
  exact Nat.lt_of_lt_of_le (Nat.two_pow_pos _) h1
theorem ratio_zero {s : Bool} {B : Nat} : zmag b64 (roundRatio b64 s 0 B 0) = 0 := by
  have e1 : roundRatio b64 s 0 B 0 = .fin s 0 b64.qmin := if_pos rfl
  rw [e1]
  show 0 * _ = 0
  exact Nat.zero_mul _
theorem ratio_ne_nan {s : Bool} {A B : Nat} {e : Int} : roundRatio b64 s A B e ≠ .nan := roundRatio_ne_nan _ _ _ _ _
theorem zv0 : zval b64 (val64 0) = 0 := zval64_zero
theorem nn0 : val64 0 ≠ .nan := by rw [val64_zero]; exact Datum.noConfusion
theorem nn1 : val64 4607182418800017408 ≠ .nan := f_one.ne_nan
/-- a quotient of two whole numbers i ≤ j stands to 1 and to 0 as i stands to j and to 0 -/
theorem div_cmp {i j : Int} {a b : UInt64} (ha : DInt i a) (hb : DInt j b) (hi : 0 ≤ i) (hij : i ≤ j) (hj : 0 < j) (hJ : j ≤ 2 ^ 53) :
    dcmp (ddiv a b) 4607182418800017408 = some (if i = j then .eq else .lt) ∧ dcmp (ddiv a b) 0 = some (if i = 0 then .eq else .gt) ∧ dcmp 0 (ddiv a b) = some (if i = 0 then .eq else .lt) := by
  obtain ⟨s, hv, hs⟩ := div_ratio ha hb hi hj
  have nn : val64 (ddiv a b) ≠ .nan := by rw [hv]; exact ratio_ne_nan
  have hB : 0 < j.natAbs := by omega
  have hz : zval b64 (val64 (ddiv a b)) = ((zmag b64 (roundRatio b64 s i.natAbs j.natAbs 0) : Nat) : Int) := by
    rw [hv]
    show signed (sgn (roundRatio b64 s i.natAbs j.natAbs 0)) _ = _
    rw [sgn_roundRatio]
    by_cases h0 : 0 < i
    · rw [hs h0]; rfl
    · rw [show i.natAbs = 0 by omega, ratio_zero]; exact signed_zero s
  have hlt : ¬ i = j → zmag b64 (roundRatio b64 s i.natAbs j.natAbs 0) < 2 ^ 53 * 2 ^ 1021 := fun h => ratio_lt (by omega) (by omega)
  have heq : i = j → zmag b64 (roundRatio b64 s i.natAbs j.natAbs 0) = 2 ^ 53 * 2 ^ 1021 := fun h => by rw [h]; exact ratio_eq hB
  have hp : ¬ i = 0 → 0 < zmag b64 (roundRatio b64 s i.natAbs j.natAbs 0) := fun h => ratio_pos (by omega) hB (by omega)
  have hzero : i = 0 → zmag b64 (roundRatio b64 s i.natAbs j.natAbs 0) = 0 := fun h => by rw [show i.natAbs = 0 by omega]; exact ratio_zero
  generalize zmag b64 (roundRatio b64 s i.natAbs j.natAbs 0) = w at *
  have z1 := zv_one
  generalize 2 ^ 53 * 2 ^ 1021 = o1 at *
  refine ⟨?_, ?_, ?_⟩
  · by_cases h : i = j
    · rw [if_pos h]; exact dcmp_eq.mpr ⟨nn, nn1, by rw [hz, z1, heq h]⟩
    · rw [if_neg h]; exact dcmp_lt.mpr ⟨nn, nn1, by rw [hz, z1]; have := hlt h; omega⟩
  · by_cases h : i = 0
    · rw [if_pos h]; exact dcmp_eq.mpr ⟨nn, nn0, by rw [hz, zv0, hzero h]; rfl⟩
    · rw [if_neg h]; exact dcmp_gt.mpr ⟨nn, nn0, by rw [hz, zv0]; have := hp h; omega⟩
  · by_cases h : i = 0
    · rw [if_pos h]; exact dcmp_eq.mpr ⟨nn0, nn, by rw [hz, zv0, hzero h]; rfl⟩
    · rw [if_neg h]; exact dcmp_lt.mpr ⟨nn0, nn, by rw [hz, zv0]; have := hp h; omega⟩
/-- two quotients of one ratio compare as equal -/
theorem div_same {i j i' j' : Int} {a b a' b' : UInt64} (ha : DInt i a) (hb : DInt j b) (ha' : DInt i' a') (hb' : DInt j' b') (hi : 0 ≤ i) (hj : 0 < j) (hi' : 0 ≤ i') (hj' : 0 < j') (h : i * j' = i' * j) :
    dcmp (ddiv a b) (ddiv a' b') = some .eq := by
  obtain ⟨s, hv, hs⟩ := div_ratio ha hb hi hj
  obtain ⟨s', hv', hs'⟩ := div_ratio ha' hb' hi' hj'
  have nn : val64 (ddiv a b) ≠ .nan := by rw [hv]; exact ratio_ne_nan
  have nn' : val64 (ddiv a' b') ≠ .nan := by rw [hv']; exact ratio_ne_nan
  refine dcmp_eq.mpr ⟨nn, nn', ?_⟩
  rw [hv, hv']
  by_cases h0 : i = 0
  · have h1 : i' = 0 := by
      rw [h0, Int.zero_mul] at h
      rcases Int.mul_eq_zero.mp h.symm with h | h
      · exact h
      · omega
    rw [h0, h1]
    have e1 : ∀ (t : Bool) (B : Nat), zval b64 (roundRatio b64 t 0 B 0) = 0 := fun t B => by
      show signed _ (zmag b64 (roundRatio b64 t 0 B 0)) = 0
      rw [ratio_zero]; exact signed_zero _
    exact (e1 _ _).trans (e1 _ _).symm
  · have h1 : 0 < i' := by
      rcases Int.lt_or_eq_of_le hi' with h2 | h2
      · exact h2
      · exfalso
        rw [← h2, Int.zero_mul] at h
        rcases Int.mul_eq_zero.mp h with h | h <;> omega
    rw [hs (by omega), hs' h1]
    congr 1
    refine roundRatio_congr (by omega) (by omega) ?_
    have := congrArg Int.natAbs h
    rw [Int.natAbs_mul, Int.natAbs_mul] at this
    rw [this]
/-- a quotient that is whole -/
theorem div_int {i j k : Int} {a b : UInt64} (ha : DInt i a) (hb : DInt j b) (hi : 0 < i) (hj : 0 < j) (h : i = k * j) (hk : k.natAbs ≤ 2 ^ 53) : DInt k (ddiv a b) := by
  obtain ⟨s, hv, hs⟩ := div_ratio ha hb (by omega) hj
  obtain rfl := hs hi
  have hk0 : 0 < k := by
    refine Int.not_le.mp fun hn => ?_
    have := Int.mul_nonneg (show 0 ≤ -k by omega) (Int.le_of_lt hj)
    rw [Int.neg_mul] at this
    omega
  obtain ⟨c, q, hfit, hq⟩ := natFit good_b64 wide_b64 false (n := k.natAbs) (show _ ≤ 2 ^ 53 from hk)
  show Whole k (val64 (ddiv a b))
  rw [hv]
  have hn : i.natAbs = k.natAbs * j.natAbs := by rw [h, Int.natAbs_mul]
  have e1 : roundRatio b64 false i.natAbs j.natAbs 0 = .fin false c q := roundRatio_exact good_b64 (by omega) hfit (by
    rw [hn, Nat.mul_right_comm, hq]; rw [Nat.mul_one]; ac_rfl)
  have e2 : round b64 (.fin false k.natAbs 0) = .fin false c q := roundRatio_exact good_b64 (by decide) hfit hq
  have hW : Whole k (.fin false k.natAbs 0) := by
    have := whole_ofInt k
    have e3 : ofInt k = .fin false k.natAbs 0 := by
      show Datum.fin (decide (k < 0)) k.natAbs 0 = _
      rw [decide_eq_false (by omega)]
    rw [e3] at this; exact this
  have := whole_round good_b64 wide_b64 (show _ ≤ 2 ^ 53 from hk) hW
  rw [e2] at this
  rw [e1]; exact this
/-- no NaN, as the steps ask it -/
theorem num_of {x : UInt64} (h : DFin x) : x &&& 0x7fffffffffffffff ≤ 0x7ff0000000000000 := by
  have h1 := (fin_bits x).mp h
  rw [UInt64.le_iff_toNat_le, mask_toNat]
  show x.toNat % 2 ^ 63 ≤ 9218868437227405312
  omega
theorem num_nan {x : UInt64} (h : dIsNaN x = false) : x &&& 0x7fffffffffffffff ≤ 0x7ff0000000000000 := by
  have h1 := (ne_nan x).mp ((notNaN_iff x).mp h)
  rw [UInt64.le_iff_toNat_le, mask_toNat]
  show x.toNat % 2 ^ 63 ≤ 9218868437227405312
  exact h1
theorem cv_eq {x y : UInt64} {op : ClassFile.CmpOp} (h : dcmp x y = some .eq) : Jvm.Op.cmpValue (Jvm.FP.dcmp x y) op = 0 := by
  show Jvm.Op.cmpValue (dcmp x y) op = 0
  rw [h]; rfl
theorem cv_lt {x y : UInt64} {op : ClassFile.CmpOp} (h : dcmp x y = some .lt) : Jvm.Op.cmpValue (Jvm.FP.dcmp x y) op = -1 := by
  show Jvm.Op.cmpValue (dcmp x y) op = -1
  rw [h]; rfl
theorem cv_gt {x y : UInt64} {op : ClassFile.CmpOp} (h : dcmp x y = some .gt) : Jvm.Op.cmpValue (Jvm.FP.dcmp x y) op = 1 := by
  show Jvm.Op.cmpValue (dcmp x y) op = 1
  rw [h]; rfl
end Jvm.Own
namespace Jvm.Pilot.@@N@@
open Jvm Jvm.ClassFile Sem Op Lib Jvm.Free Jvm.Stand Jvm.LawKit Jvm.RoadKit Bundle Jvm.Pilot.@@N@@.Jvm.D

def own_prec (gg ss cc : Int32) : UInt64 := if ss = 0 then (if gg = 0 then 4607182418800017408 else 0) else FP.ddiv (FP.i2d cc) (FP.i2d ss)
def own_rec (gg ss cc : Int32) : UInt64 := if gg = 0 then (if ss = 0 then 4607182418800017408 else 0) else FP.ddiv (FP.i2d cc) (FP.i2d gg)
def own_f1 (gg ss cc : Int32) : UInt64 := if gg = 0 ∨ ss = 0 then (if gg = ss then 4607182418800017408 else 0) else FP.ddiv (FP.dmul 4611686018427387904 (FP.i2d cc)) (FP.l2d (gg.toInt64 + ss.toInt64))
theorem own_prec_a {gg ss cc : Int32} (h1 : ss = 0) (h2 : gg = 0) : own_prec gg ss cc = 4607182418800017408 := (if_pos h1).trans (if_pos h2)
theorem own_prec_b {gg ss cc : Int32} (h1 : ss = 0) (h2 : ¬ gg = 0) : own_prec gg ss cc = 0 := (if_pos h1).trans (if_neg h2)
theorem own_prec_c {gg ss cc : Int32} (h1 : ¬ ss = 0) : own_prec gg ss cc = FP.ddiv (FP.i2d cc) (FP.i2d ss) := if_neg h1
theorem own_rec_a {gg ss cc : Int32} (h1 : gg = 0) (h2 : ss = 0) : own_rec gg ss cc = 4607182418800017408 := (if_pos h1).trans (if_pos h2)
theorem own_rec_b {gg ss cc : Int32} (h1 : gg = 0) (h2 : ¬ ss = 0) : own_rec gg ss cc = 0 := (if_pos h1).trans (if_neg h2)
theorem own_rec_c {gg ss cc : Int32} (h1 : ¬ gg = 0) : own_rec gg ss cc = FP.ddiv (FP.i2d cc) (FP.i2d gg) := if_neg h1
theorem own_f1_a {gg ss cc : Int32} (h1 : gg = 0 ∨ ss = 0) (h2 : gg = ss) : own_f1 gg ss cc = 4607182418800017408 := (if_pos h1).trans (if_pos h2)
theorem own_f1_b {gg ss cc : Int32} (h1 : gg = 0 ∨ ss = 0) (h2 : ¬ gg = ss) : own_f1 gg ss cc = 0 := (if_pos h1).trans (if_neg h2)
theorem own_f1_c {gg ss cc : Int32} (h1 : ¬ (gg = 0 ∨ ss = 0)) : own_f1 gg ss cc = FP.ddiv (FP.dmul 4611686018427387904 (FP.i2d cc)) (FP.l2d (gg.toInt64 + ss.toInt64)) := if_neg h1
theorem own_i2 : FP.Core.DInt 2 4611686018427387904 := by
  have h : FP.Core.val64 4611686018427387904 = .fin false (2 ^ 52) (-51) := by decide +kernel
  show FP.Core.Whole 2 (FP.Core.val64 4611686018427387904)
  rw [h]
  show FP.Core.signed false (2 ^ 52 * 2 ^ (-51 : Int).toNat) = 2 * ((2 ^ (-(-51 : Int)).toNat : Nat) : Int)
  decide +kernel
theorem own_z32 {x : Int32} : x = 0 ↔ x.toInt = 0 := ⟨fun h => by rw [h]; rfl, fun h => Int32.toInt.inj h⟩
theorem own_e32 {x y : Int32} : x = y ↔ x.toInt = y.toInt := ⟨fun h => by rw [h], fun h => Int32.toInt.inj h⟩
/-- the counts that the law makes -/
def OwnCnt (gg ss cc : Int32) : Prop := 0 ≤ cc.toInt ∧ cc.toInt ≤ gg.toInt ∧ cc.toInt ≤ ss.toInt
theorem OwnCnt.swap {gg ss cc : Int32} (h : OwnCnt gg ss cc) : OwnCnt ss gg cc := ⟨h.1, h.2.2, h.2.1⟩
theorem OwnCnt.c1 {gg ss cc : Int32} (h : OwnCnt gg ss cc) : ¬ (cc < (0 : Int32)) := by
  rw [Int32.lt_iff_toInt_lt]; show ¬ cc.toInt < 0; have := h.1; omega
theorem OwnCnt.c2 {gg ss cc : Int32} (h : OwnCnt gg ss cc) : ¬ (gg < cc) := by
  rw [Int32.lt_iff_toInt_lt]; have := h.2.1; omega
theorem OwnCnt.c3 {gg ss cc : Int32} (h : OwnCnt gg ss cc) : ¬ (ss < cc) := by
  rw [Int32.lt_iff_toInt_lt]; have := h.2.2; omega
theorem own_two (cc : Int32) : FP.Core.DInt (2 * cc.toInt) (FP.dmul 4611686018427387904 (FP.i2d cc)) :=
  FP.Core.dmul_int own_i2 (FP.Core.i2d_int cc) (by have := cc.toInt_lt; have := cc.le_toInt; omega)
theorem own_sumI (gg ss : Int32) : (gg.toInt64 + ss.toInt64).toInt = gg.toInt + ss.toInt := by
  have a1 := gg.toInt_lt; have a2 := gg.le_toInt; have a3 := ss.toInt_lt; have a4 := ss.le_toInt
  rw [Kit.i64_add (by rw [Kit.i64_of_i32, Kit.i64_of_i32]; omega) (by rw [Kit.i64_of_i32, Kit.i64_of_i32]; omega), Kit.i64_of_i32, Kit.i64_of_i32]
theorem own_sumD (gg ss : Int32) : FP.Core.DInt (gg.toInt + ss.toInt) (FP.l2d (gg.toInt64 + ss.toInt64)) := by
  have a1 := gg.toInt_lt; have a2 := gg.le_toInt; have a3 := ss.toInt_lt; have a4 := ss.le_toInt
  have h := FP.Core.l2d_int (a := gg.toInt64 + ss.toInt64) (by rw [own_sumI]; omega)
  rw [own_sumI] at h; exact h
theorem own_twoL (cc : Int32) : FP.Core.DInt (2 * cc.toInt) (FP.l2d ((2 : Int64) * cc.toInt64)) := by
  have a1 := cc.toInt_lt; have a2 := cc.le_toInt
  have h1 : ((2 : Int64) * cc.toInt64).toInt = 2 * cc.toInt := by
    have := Kit.i64_mul (x := 2) (y := cc.toInt64) (by rw [Kit.i64_of_i32]; show _ ≤ 2 * _; omega) (by rw [Kit.i64_of_i32]; show 2 * _ < _; omega)
    rw [this, Kit.i64_of_i32]; rfl
  have h := FP.Core.l2d_int (a := (2 : Int64) * cc.toInt64) (by rw [h1]; omega)
  rw [h1] at h; exact h
theorem own_numdiv {i j : Int} {a b : UInt64} (ha : FP.Core.DInt i a) (hb : FP.Core.DInt j b) (hj : j ≠ 0) : OwnNum (FP.ddiv a b) := by
  refine Own.num_nan (FP.Core.ddiv_out (FP.Core.DFin.notNaN (Own.Dy.of ha).fin) (Own.Dy.of hb).fin fun hz => ?_)
  obtain ⟨z, q, hv⟩ := hz
  have hb' : FP.Core.Whole j (FP.Core.val64 b) := hb
  rw [hv] at hb'
  exact hj ((FP.Core.whole_zero hb').mp rfl)
theorem own_num2 (cc : Int32) : OwnNum (FP.dmul (4611686018427387904 : UInt64) (FP.i2d cc)) := Own.num_of (Own.Dy.of (own_two cc)).fin
/-- the quotient of a part and a whole, c ≤ w -/
theorem own_part {cc ww : Int32} (h0 : 0 ≤ cc.toInt) (h1 : cc.toInt ≤ ww.toInt) (hw : ¬ ww = 0) :
    FP.Core.dcmp (FP.ddiv (FP.i2d cc) (FP.i2d ww)) 4607182418800017408 = some (if cc = ww then .eq else .lt) ∧ FP.Core.dcmp (FP.ddiv (FP.i2d cc) (FP.i2d ww)) 0 = some (if cc = 0 then .eq else .gt) ∧ FP.Core.dcmp 0 (FP.ddiv (FP.i2d cc) (FP.i2d ww)) = some (if cc = 0 then .eq else .lt) := by
  have a1 := ww.toInt_lt
  have h2 : ww.toInt ≠ 0 := fun h => hw (own_z32.mpr h)
  have h := Own.div_cmp (FP.Core.i2d_int cc) (FP.Core.i2d_int ww) h0 h1 (by omega) (by omega)
  have e1 : (if cc.toInt = ww.toInt then Ordering.eq else .lt) = (if cc = ww then .eq else .lt) := by
    by_cases q : cc = ww
    · rw [if_pos q, if_pos (own_e32.mp q)]
    · rw [if_neg q, if_neg (fun z => q (own_e32.mpr z))]
  have e2 : ∀ o : Ordering, (if cc.toInt = 0 then Ordering.eq else o) = (if cc = 0 then .eq else o) := fun o => by
    by_cases q : cc = 0
    · rw [if_pos q, if_pos (own_z32.mp q)]
    · rw [if_neg q, if_neg (fun z => q (own_z32.mpr z))]
  exact ⟨h.1.trans (congrArg some e1), h.2.1.trans (congrArg some (e2 _)), h.2.2.trans (congrArg some (e2 _))⟩
theorem own_same {cc ww : Int32} (h0 : 0 ≤ cc.toInt) (h1 : cc.toInt ≤ ww.toInt) (hw : ¬ ww = 0) : FP.Core.dcmp (FP.ddiv (FP.i2d cc) (FP.i2d ww)) (FP.ddiv (FP.i2d cc) (FP.i2d ww)) = some .eq := by
  have h2 : ww.toInt ≠ 0 := fun h => hw (own_z32.mpr h)
  exact Own.div_same (FP.Core.i2d_int cc) (FP.Core.i2d_int ww) (FP.Core.i2d_int cc) (FP.Core.i2d_int ww) h0 (by omega) h0 (by omega) rfl
theorem own_c11 : FP.Core.dcmp 4607182418800017408 4607182418800017408 = some .eq := by decide +kernel
theorem own_c10 : FP.Core.dcmp 4607182418800017408 0 = some .gt := by decide +kernel
theorem own_c01 : FP.Core.dcmp 0 4607182418800017408 = some .lt := by decide +kernel
theorem own_c00 : FP.Core.dcmp 0 0 = some .eq := by decide +kernel
theorem own_n2 : ¬ ((4611686018427387904 : UInt64) = 0) := by decide
def own_min (x y : Int32) : Int32 := if y < x then y else x
theorem own_min_a {x y : Int32} (h : y < x) : own_min x y = y := if_pos h
theorem own_min_b {x y : Int32} (h : ¬ y < x) : own_min x y = x := if_neg h
theorem own_min_le (x y : Int32) (hx : 0 ≤ x.toInt) (hy : 0 ≤ y.toInt) : 0 ≤ (own_min x y).toInt ∧ (own_min x y).toInt ≤ x.toInt ∧ (own_min x y).toInt ≤ y.toInt := by
  by_cases h : y < x
  · rw [own_min_a h]; rw [Int32.lt_iff_toInt_lt] at h; omega
  · rw [own_min_b h]; rw [Int32.lt_iff_toInt_lt] at h; omega
theorem own_mask (x : Int32) : 0 ≤ (x &&& (2147483647 : Int32)).toInt := by
  rw [Kit.i32_mask x 2147483647 (k := 31) (by decide) (by decide)]; omega
theorem own_mask3 (x : Int32) : 0 ≤ (x &&& (3 : Int32)).toInt := by
  rw [Kit.i32_mask x 3 (k := 2) (by decide) (by decide)]; omega
/-- the law's own share of m + 1 -/
theorem own_rest {x : Int64} {mm : Int32} (hx : 0 ≤ x.toInt) (hm : 0 ≤ mm.toInt) : 0 ≤ ((x - (x / (mm.toInt64 + (1 : Int64))) * (mm.toInt64 + (1 : Int64))).toInt32).toInt ∧ ((x - (x / (mm.toInt64 + (1 : Int64))) * (mm.toInt64 + (1 : Int64))).toInt32).toInt ≤ mm.toInt ∧ ¬ ((mm.toInt64 + (1 : Int64)) = 0) := by
  have a1 := mm.toInt_lt
  have h1 : (mm.toInt64 + (1 : Int64)).toInt = mm.toInt + 1 := by
    rw [Kit.i64_add (by rw [Kit.i64_of_i32]; show _ ≤ _ + 1; omega) (by rw [Kit.i64_of_i32]; show _ + 1 < _; omega), Kit.i64_of_i32]; rfl
  have h2 := Kit.i64_rem_nonneg (x := x) (y := mm.toInt64 + (1 : Int64)) hx
  rw [h1] at h2
  have h3 := Int.emod_nonneg x.toInt (show mm.toInt + 1 ≠ 0 by omega)
  have h4 := Int.emod_lt_of_pos x.toInt (show 0 < mm.toInt + 1 by omega)
  have h5 := Kit.i32_of_i64 (x := x - (x / (mm.toInt64 + (1 : Int64))) * (mm.toInt64 + (1 : Int64))) (by rw [h2]; omega) (by rw [h2]; omega)
  rw [h5, h2]
  refine ⟨h3, by omega, fun h => ?_⟩
  rw [h] at h1
  have : (0 : Int64).toInt = 0 := rfl
  omega
theorem d1_0 : decode jdk_29_method_69_code 0 = .ok (.iload_n 0, 1) := by decide +kernel
theorem d1_1 : decode jdk_29_method_69_code 1 = .ok (.iload_n 1, 1) := by decide +kernel
theorem d1_2 : decode jdk_29_method_69_code 2 = .ok (.if_icmp .gt 7, 3) := by decide +kernel
theorem d1_9 : decode jdk_29_method_69_code 9 = .ok (.iload_n 1, 1) := by decide +kernel
theorem d1_10 : decode jdk_29_method_69_code 10 = .ok (.ireturn, 1) := by decide +kernel
theorem d1_5 : decode jdk_29_method_69_code 5 = .ok (.iload_n 0, 1) := by decide +kernel
theorem d1_6 : decode jdk_29_method_69_code 6 = .ok (.goto 4, 3) := by decide +kernel
theorem ef_rm_min (m : MethodId) (x0 : Int32) (x1 : Int32) : entryFrame m #[(.int x0), (.int x1)] 2 = mkF m 0 #[.val (.int x0), .val (.int x1)] [] := by first | (simp [entryFrame, mkF, argsToLocals, Value.category]; done) | rfl
def Q_rm_min (Z : State) (p1 : Int32) (p2 : Int32) (h0 : Heap) (n0 : Nat) (v : Option Value) (h : Heap) (L : List Loc) : Prop := v = some (.int (own_min p1 p2)) ∧ Fr n0 L ∧ h = h0
set_option maxRecDepth 65536 in
set_option maxHeartbeats 40000000 in
theorem rm_min (l : Launch) (Z : State) (a0 : Array Value) (hw : ∀ d ∈ tables_1, d.before a0 Z = true) (ws : List Jvm.Cond) (p1 : Int32) (p2 : Int32) (h0 : Heap) (n0 : Nat) (Z0 : n0 ≤ h0.size)  :
    MetFree l (⟨"java/lang/Math", "min", "(II)I"⟩ : MethodName) (head1 (Jvm.Cond.code (⟨"java/lang/Math", "min", "(II)I"⟩ : MethodName) jdk_29_method_69_code 2 (some .int) :: ws) ({ frames := 0, cells := 0, slots := 0, locals := 0 } : Room)) (fun a U => a = #[(.int p1), (.int p2)] ∧ Z.Warmed39 U.vm ∧ U.heap = h0) (fun _ _ _ _ _ => True) (fun _ U o U' => ∃ v L, o = .returned v ∧ Q_rm_min Z p1 p2 h0 n0 v U'.heap L ∧ FrameEnd U o U' L ({ frames := 0, cells := 0, slots := 0, locals := 0 } : Room).cells ({ frames := 0, cells := 0, slots := 0, locals := 0 } : Room).slots) := by
  refine MetFree.of_bodySF (Jvm.Free.JP.mathPlain rfl (by decide +kernel)) hisR ?_
  intro p e s m args below meth c s₁ Bd hml0 hP hK
  obtain ⟨rfl, hZ, hh⟩ := hP
  have hx := Bd.exec
  have hby := Bd.bytes
  have hml : c.maxLocals = 2 := hml0
  have hown : s.vm.findClass "java/lang/Math" = some m.cls := findClass_of_methodNamed Bd.named
  have hnm := (name_of_methodNamed Bd.named Bd.method).1
  have X0 : Stand p l e ({ frames := 0, cells := 0, slots := 0, locals := 0 } : Room) s m #[(.int p1), (.int p2)] below meth c s₁ [] 0 0 := Stand.of_body Bd
  have e0 : s₁.heap = h0 := by rw [← hh, Bd.state]; rfl
  have N0 := Fr.nil n0
  refine Go.start (Q := Q_rm_min Z p1 p2 h0 n0) (ef_rm_min m p1 p2) ?_
  by_cases hc : p2 < p1
  · have sg1 : ∀ t, Steps p.tables e below (s₁.setTop (mkF m 10 #[.val (.int p1), .val (.int p2)] [(.int p2)])) t → Steps p.tables e below (s₁.setTop (mkF m 0 #[.val (.int p1), .val (.int p2)] [])) t := by
      intro t kt
      show Steps p.tables e below (s₁.setTop (mkF m 0 #[.val (.int p1), .val (.int p2)] [])) _
      refine XS.iloadN X0.here hx rfl (hb hby d1_0) rfl ?_
      show Steps p.tables e below (s₁.setTop (mkF m 1 #[.val (.int p1), .val (.int p2)] [(.int p1)])) _
      refine XS.iloadN X0.here hx rfl (hb hby d1_1) rfl ?_
      show Steps p.tables e below (s₁.setTop (mkF m 2 #[.val (.int p1), .val (.int p2)] [(.int p2), (.int p1)])) _
      refine XS.icmpYes X0.here hx rfl (pc0 := 2) (pc' := 9) rfl (hb hby d1_2) rfl (tlt (hc : p2 < p1)).2.2.1 (by decide) (by decide) ?_
      show Steps p.tables e below (s₁.setTop (mkF m 9 #[.val (.int p1), .val (.int p2)] [])) _
      refine XS.iloadN X0.here hx rfl (hb hby d1_9) rfl ?_
      exact kt
    refine Go.adv sg1 ?_
    refine Go.ret (v := (some (.int p2))) X0 (fun h => by rw [Bd.returns] at h; cases h) Bd.notSynchronized (fun fs hr => retOut X0 hx Bd.returns rfl (Or.inl ⟨rfl, Or.inl rfl, _, rfl⟩) (hb hby d1_10) hr) ?_ (by decide) (by decide)
    show Q_rm_min Z p1 p2 h0 n0 (some (.int p2)) s₁.heap _
    rw [e0]
    exact ⟨congrArg (fun z => some (Value.int z)) (own_min_a hc).symm, N0, rfl⟩
  · have sg2 : ∀ t, Steps p.tables e below (s₁.setTop (mkF m 10 #[.val (.int p1), .val (.int p2)] [(.int p1)])) t → Steps p.tables e below (s₁.setTop (mkF m 0 #[.val (.int p1), .val (.int p2)] [])) t := by
      intro t kt
      show Steps p.tables e below (s₁.setTop (mkF m 0 #[.val (.int p1), .val (.int p2)] [])) _
      refine XS.iloadN X0.here hx rfl (hb hby d1_0) rfl ?_
      show Steps p.tables e below (s₁.setTop (mkF m 1 #[.val (.int p1), .val (.int p2)] [(.int p1)])) _
      refine XS.iloadN X0.here hx rfl (hb hby d1_1) rfl ?_
      show Steps p.tables e below (s₁.setTop (mkF m 2 #[.val (.int p1), .val (.int p2)] [(.int p2), (.int p1)])) _
      refine XS.icmpNo X0.here hx rfl (hb hby d1_2) rfl (flt (hc : ¬ (p2 < p1))).2.2.1 ?_
      show Steps p.tables e below (s₁.setTop (mkF m 5 #[.val (.int p1), .val (.int p2)] [])) _
      refine XS.iloadN X0.here hx rfl (hb hby d1_5) rfl ?_
      show Steps p.tables e below (s₁.setTop (mkF m 6 #[.val (.int p1), .val (.int p2)] [(.int p1)])) _
      refine XS.goto X0.here hx rfl (pc0 := 6) (pc' := 10) rfl (hb hby d1_6) (by decide) (by decide) ?_
      exact kt
    refine Go.adv sg2 ?_
    refine Go.ret (v := (some (.int p1))) X0 (fun h => by rw [Bd.returns] at h; cases h) Bd.notSynchronized (fun fs hr => retOut X0 hx Bd.returns rfl (Or.inl ⟨rfl, Or.inl rfl, _, rfl⟩) (hb hby d1_10) hr) ?_ (by decide) (by decide)
    show Q_rm_min Z p1 p2 h0 n0 (some (.int p1)) s₁.heap _
    rw [e0]
    exact ⟨congrArg (fun z => some (Value.int z)) (own_min_b hc).symm, N0, rfl⟩
theorem pn3 : plainName "java/lang/Record" = true := by first | (simp [plainName, overriddenIn]; done) | decide +kernel
theorem d3_0 : decode jdk_30_method_1_code 0 = .ok (.aload_n 0, 1) := by decide +kernel
theorem d3_1 : decode jdk_30_method_1_code 1 = .ok (.invokespecial 1, 3) := by decide +kernel
theorem d3_4 : decode jdk_30_method_1_code 4 = .ok (.return_, 1) := by decide +kernel
theorem ef_rm_rec (m : MethodId) (x0 : Addr) : entryFrame m #[(.ref x0)] 1 = mkF m 0 #[.val (.ref x0)] [] := by first | (simp [entryFrame, mkF, argsToLocals, Value.category]; done) | rfl
def Q_rm_rec (Z : State) (a1 : Addr) (h0 : Heap) (n0 : Nat) (v : Option Value) (h : Heap) (L : List Loc) : Prop := v = none ∧ Fr n0 L ∧ h = h0
set_option maxRecDepth 65536 in
set_option maxHeartbeats 40000000 in
theorem rm_rec (l : Launch) (Z : State) (a0 : Array Value) (hw : ∀ d ∈ tables_1, d.before a0 Z = true) (ws : List Jvm.Cond) (a1 : Addr) (h0 : Heap) (n0 : Nat) (Z0 : n0 ≤ h0.size)  :
    MetFree l (⟨"java/lang/Record", "<init>", "()V"⟩ : MethodName) (head1 (Jvm.Cond.code (⟨"java/lang/Record", "<init>", "()V"⟩ : MethodName) jdk_30_method_1_code 1 none :: ws) ({ frames := 1, cells := 0, slots := 0, locals := 12 } : Room)) (fun a U => a = #[(.ref a1)] ∧ Z.Warmed39 U.vm ∧ U.heap = h0) (fun _ _ _ _ _ => True) (fun _ U o U' => ∃ v L, o = .returned v ∧ Q_rm_rec Z a1 h0 n0 v U'.heap L ∧ FrameEnd U o U' L ({ frames := 1, cells := 0, slots := 0, locals := 12 } : Room).cells ({ frames := 1, cells := 0, slots := 0, locals := 12 } : Room).slots) := by
  refine MetFree.of_bodySF (plainFor_of_name pn3) hisR ?_
  intro p e s m args below meth c s₁ Bd hml0 hP hK
  obtain ⟨rfl, hZ, hh⟩ := hP
  have hx := Bd.exec
  have hby := Bd.bytes
  have hml : c.maxLocals = 1 := hml0
  have hown : s.vm.findClass "java/lang/Record" = some m.cls := findClass_of_methodNamed Bd.named
  have hnm := (name_of_methodNamed Bd.named Bd.method).1
  have X0 : Stand p l e ({ frames := 1, cells := 0, slots := 0, locals := 12 } : Room) s m #[(.ref a1)] below meth c s₁ [] 0 0 := Stand.of_body Bd
  have e0 : s₁.heap = h0 := by rw [← hh, Bd.state]; rfl
  have N0 := Fr.nil n0
  refine Go.start (Q := Q_rm_rec Z a1 h0 n0) (ef_rm_rec m a1) ?_
  have sg1 : ∀ t, Steps p.tables e below (s₁.setTop (mkF m 1 #[.val (.ref a1)] [(.ref a1)])) t → Steps p.tables e below (s₁.setTop (mkF m 0 #[.val (.ref a1)] [])) t := by
    intro t kt
    show Steps p.tables e below (s₁.setTop (mkF m 0 #[.val (.ref a1)] [])) _
    refine XS.aloadN X0.here hx rfl (hb hby d3_0) rfl rfl ?_
    exact kt
  refine Go.adv sg1 ?_
  obtain ⟨T2, X2, e2, st2⟩ := initO X0 hx hZ hown (hw _ (List.mem_of_getElem? (i := 16) rfl)) (hw _ (List.mem_of_getElem? (i := 17) rfl)) (hw _ (List.mem_of_getElem? (i := 18) rfl)) e0 (g := (mkF m 1 #[.val (.ref a1)] [(.ref a1)])) rfl (by rw [hml]; rfl) rfl (hb hby d3_1) (by decide) (W := 0) (by show 2 * 0 + _ ≤ _; exact Nat.le_of_eq rfl) (by decide)
  refine Go.adv st2 ?_
  show Go p.tables e below s _ _ _ (T2.setTop (mkF m 4 #[.val (.ref a1)] []))
  refine Go.ret (v := none) X2 (fun _ => rfl) Bd.notSynchronized (fun fs hr => X2.returnOut hx Bd.returns (hb hby d3_4) hr) ?_ (by decide) (by decide)
  show Q_rm_rec Z a1 h0 n0 none T2.heap _
  rw [e2]
  exact ⟨rfl, N0, rfl⟩
theorem pn2 : plainName "com/example/tally/tally/score/QuestionScore" = true := by first | (simp [plainName, overriddenIn]; done) | decide +kernel
theorem d2_0 : decode prog_51_method_1_code 0 = .ok (.aload_n 0, 1) := by decide +kernel
theorem d2_1 : decode prog_51_method_1_code 1 = .ok (.invokespecial 1, 3) := by decide +kernel
theorem pd_ocV : parseMethodDescriptor "()V" = some ⟨[], none⟩ := by decide +kernel
theorem d2_4 : decode prog_51_method_1_code 4 = .ok (.iload_n 3, 1) := by decide +kernel
theorem d2_5 : decode prog_51_method_1_code 5 = .ok (.ifCond .lt 13, 3) := by decide +kernel
theorem d2_8 : decode prog_51_method_1_code 8 = .ok (.iload_n 3, 1) := by decide +kernel
theorem d2_9 : decode prog_51_method_1_code 9 = .ok (.iload_n 1, 1) := by decide +kernel
theorem d2_10 : decode prog_51_method_1_code 10 = .ok (.if_icmp .gt 8, 3) := by decide +kernel
theorem d2_13 : decode prog_51_method_1_code 13 = .ok (.iload_n 3, 1) := by decide +kernel
theorem d2_14 : decode prog_51_method_1_code 14 = .ok (.iload_n 2, 1) := by decide +kernel
theorem d2_15 : decode prog_51_method_1_code 15 = .ok (.if_icmp .le 19, 3) := by decide +kernel
theorem d2_34 : decode prog_51_method_1_code 34 = .ok (.aload_n 0, 1) := by decide +kernel
theorem d2_35 : decode prog_51_method_1_code 35 = .ok (.iload_n 1, 1) := by decide +kernel
theorem d2_36 : decode prog_51_method_1_code 36 = .ok (.putfield 16, 3) := by decide +kernel
theorem d2_39 : decode prog_51_method_1_code 39 = .ok (.aload_n 0, 1) := by decide +kernel
theorem d2_40 : decode prog_51_method_1_code 40 = .ok (.iload_n 2, 1) := by decide +kernel
theorem d2_41 : decode prog_51_method_1_code 41 = .ok (.putfield 22, 3) := by decide +kernel
theorem d2_44 : decode prog_51_method_1_code 44 = .ok (.aload_n 0, 1) := by decide +kernel
theorem d2_45 : decode prog_51_method_1_code 45 = .ok (.iload_n 3, 1) := by decide +kernel
theorem d2_46 : decode prog_51_method_1_code 46 = .ok (.putfield 25, 3) := by decide +kernel
theorem d2_49 : decode prog_51_method_1_code 49 = .ok (.return_, 1) := by decide +kernel
theorem ef_rm_init (m : MethodId) (x0 : Addr) (x1 : Int32) (x2 : Int32) (x3 : Int32) : entryFrame m #[(.ref x0), (.int x1), (.int x2), (.int x3)] 4 = mkF m 0 #[.val (.ref x0), .val (.int x1), .val (.int x2), .val (.int x3)] [] := by first | (simp [entryFrame, mkF, argsToLocals, Value.category]; done) | rfl
def Q_rm_init (Z : State) (a1 : Addr) (p1 : Int32) (p2 : Int32) (p3 : Int32) (u_gold : Value) (u_system : Value) (u_correct : Value) (h0 : Heap) (n0 : Nat) (v : Option Value) (h : Heap) (L : List Loc) : Prop := v = none ∧ Fr n0 L ∧ Keep h0 h [a1] ∧ Exa Z h a1 "com/example/tally/tally/score/QuestionScore" ∧ Fld Z h a1 "com/example/tally/tally/score/QuestionScore" "gold" "I" (.int p1) ∧ Fld Z h a1 "com/example/tally/tally/score/QuestionScore" "system" "I" (.int p2) ∧ Fld Z h a1 "com/example/tally/tally/score/QuestionScore" "correct" "I" (.int p3)
set_option maxRecDepth 65536 in
set_option maxHeartbeats 40000000 in
theorem rm_init (l : Launch) (Z : State) (a0 : Array Value) (hw : ∀ d ∈ tables_1, d.before a0 Z = true) (ws : List Jvm.Cond) (a1 : Addr) (p1 : Int32) (p2 : Int32) (p3 : Int32) (u_gold : Value) (u_system : Value) (u_correct : Value) (h0 : Heap) (n0 : Nat) (Z0 : n0 ≤ h0.size) (E_a1 : Exa Z h0 a1 "com/example/tally/tally/score/QuestionScore") (g_a1 : n0 ≤ a1) (F_gold_a1 : Fld Z h0 a1 "com/example/tally/tally/score/QuestionScore" "gold" "I" u_gold) (F_system_a1 : Fld Z h0 a1 "com/example/tally/tally/score/QuestionScore" "system" "I" u_system) (F_correct_a1 : Fld Z h0 a1 "com/example/tally/tally/score/QuestionScore" "correct" "I" u_correct) (hC : OwnCnt p1 p2 p3) :
    MetFree l (⟨"com/example/tally/tally/score/QuestionScore", "<init>", "(III)V"⟩ : MethodName) (head1 (Jvm.Cond.code (⟨"com/example/tally/tally/score/QuestionScore", "<init>", "(III)V"⟩ : MethodName) prog_51_method_1_code 4 none :: ws) ({ frames := 2, cells := 0, slots := 0, locals := 24 } : Room)) (fun a U => a = #[(.ref a1), (.int p1), (.int p2), (.int p3)] ∧ Z.Warmed39 U.vm ∧ U.heap = h0) (fun _ _ _ _ _ => True) (fun _ U o U' => ∃ v L, o = .returned v ∧ Q_rm_init Z a1 p1 p2 p3 u_gold u_system u_correct h0 n0 v U'.heap L ∧ FrameEnd U o U' L ({ frames := 2, cells := 0, slots := 0, locals := 24 } : Room).cells ({ frames := 2, cells := 0, slots := 0, locals := 24 } : Room).slots) := by
  refine MetFree.of_bodySF (plainFor_of_name pn2) hisR ?_
  intro p e s m args below meth c s₁ Bd hml0 hP hK
  obtain ⟨rfl, hZ, hh⟩ := hP
  have hx := Bd.exec
  have hby := Bd.bytes
  have hml : c.maxLocals = 4 := hml0
  have hown : s.vm.findClass "com/example/tally/tally/score/QuestionScore" = some m.cls := findClass_of_methodNamed Bd.named
  have hnm := (name_of_methodNamed Bd.named Bd.method).1
  have X0 : Stand p l e ({ frames := 2, cells := 0, slots := 0, locals := 24 } : Room) s m #[(.ref a1), (.int p1), (.int p2), (.int p3)] below meth c s₁ [] 0 0 := Stand.of_body Bd
  have e0 : s₁.heap = h0 := by rw [← hh, Bd.state]; rfl
  have N0 := Fr.nil n0
  refine Go.start (Q := Q_rm_init Z a1 p1 p2 p3 u_gold u_system u_correct h0 n0) (ef_rm_init m a1 p1 p2 p3) ?_
  have sg1 : ∀ t, Steps p.tables e below (s₁.setTop (mkF m 1 #[.val (.ref a1), .val (.int p1), .val (.int p2), .val (.int p3)] [(.ref a1)])) t → Steps p.tables e below (s₁.setTop (mkF m 0 #[.val (.ref a1), .val (.int p1), .val (.int p2), .val (.int p3)] [])) t := by
    intro t kt
    show Steps p.tables e below (s₁.setTop (mkF m 0 #[.val (.ref a1), .val (.int p1), .val (.int p2), .val (.int p3)] [])) _
    refine XS.aloadN X0.here hx rfl (hb hby d2_0) rfl rfl ?_
    exact kt
  refine Go.adv sg1 ?_
  obtain ⟨_, _, ⟨T2, L2, k2, n2⟩, -, X2, ⟨Lc2, hQ2, l2, y2, z2⟩, st2⟩ := X0.specialBack hx (y := (⟨"java/lang/Record", "<init>", "()V"⟩ : MethodName)) rfl hown (mvT hZ (hw _ (List.mem_of_getElem? (i := 11) rfl))) (mvT hZ (hw _ (List.mem_of_getElem? (i := 12) rfl))) (mvT hZ (hw _ (List.mem_of_getElem? (i := 15) rfl))) (by decide) (backOf (W := 0) (rm_rec l Z a0 hw [] a1  h0 n0 Z0 ) hZ (hw _ (List.mem_of_getElem? (i := 15) rfl)) (hw _ (List.mem_of_getElem? (i := 14) rfl)) (by decide) (by decide)) (g := (mkF m 1 #[.val (.ref a1), .val (.int p1), .val (.int p2), .val (.int p3)] [(.ref a1)])) rfl (by rw [hml]; rfl) (Steps.refl _) (a := a1) (argsL := []) (rest := []) (lenOf pd_ocV rfl) rfl (by show 2 * 0 + _ ≤ _; exact Nat.le_of_eq rfl) (hb hby d2_1) (fun _ _ => ⟨rfl, e0, (by decide : 0 + 0 ≤ _), (by decide : 0 + 0 ≤ _)⟩)
  dsimp only [Pt.U, Pt.locs, Pt.cells, Pt.slots] at X2 l2 y2 z2 st2 hQ2
  subst l2 y2 z2
  obtain ⟨rfl, N2q, e2⟩ := hQ2
  have N2 := Fr.app N0 N2q
  refine Go.tr st2 ?_
  show Go p.tables e below s _ _ _ (T2.setTop (mkF m 4 #[.val (.ref a1), .val (.int p1), .val (.int p2), .val (.int p3)] []))
  have sg3 : ∀ t, Steps p.tables e below (T2.setTop (mkF m 36 #[.val (.ref a1), .val (.int p1), .val (.int p2), .val (.int p3)] [(.int p1), (.ref a1)])) t → Steps p.tables e below (T2.setTop (mkF m 4 #[.val (.ref a1), .val (.int p1), .val (.int p2), .val (.int p3)] [])) t := by
    intro t kt
    show Steps p.tables e below (T2.setTop (mkF m 4 #[.val (.ref a1), .val (.int p1), .val (.int p2), .val (.int p3)] [])) _
    refine XS.iloadN X2.here hx rfl (hb hby d2_4) rfl ?_
    show Steps p.tables e below (T2.setTop (mkF m 5 #[.val (.ref a1), .val (.int p1), .val (.int p2), .val (.int p3)] [(.int p3)])) _
    refine XS.ifNo X2.here hx rfl (hb hby d2_5) rfl ((if0 _ _).trans (flt (hC.c1 : ¬ (p3 < (0 : Int32)))).1) ?_
    show Steps p.tables e below (T2.setTop (mkF m 8 #[.val (.ref a1), .val (.int p1), .val (.int p2), .val (.int p3)] [])) _
    refine XS.iloadN X2.here hx rfl (hb hby d2_8) rfl ?_
    show Steps p.tables e below (T2.setTop (mkF m 9 #[.val (.ref a1), .val (.int p1), .val (.int p2), .val (.int p3)] [(.int p3)])) _
    refine XS.iloadN X2.here hx rfl (hb hby d2_9) rfl ?_
    show Steps p.tables e below (T2.setTop (mkF m 10 #[.val (.ref a1), .val (.int p1), .val (.int p2), .val (.int p3)] [(.int p1), (.int p3)])) _
    refine XS.icmpNo X2.here hx rfl (hb hby d2_10) rfl (flt (hC.c2 : ¬ (p1 < p3))).2.2.1 ?_
    show Steps p.tables e below (T2.setTop (mkF m 13 #[.val (.ref a1), .val (.int p1), .val (.int p2), .val (.int p3)] [])) _
    refine XS.iloadN X2.here hx rfl (hb hby d2_13) rfl ?_
    show Steps p.tables e below (T2.setTop (mkF m 14 #[.val (.ref a1), .val (.int p1), .val (.int p2), .val (.int p3)] [(.int p3)])) _
    refine XS.iloadN X2.here hx rfl (hb hby d2_14) rfl ?_
    show Steps p.tables e below (T2.setTop (mkF m 15 #[.val (.ref a1), .val (.int p1), .val (.int p2), .val (.int p3)] [(.int p2), (.int p3)])) _
    refine XS.icmpYes X2.here hx rfl (pc0 := 15) (pc' := 34) rfl (hb hby d2_15) rfl (flt (hC.c3 : ¬ (p2 < p3))).2.2.2 (by decide) (by decide) ?_
    show Steps p.tables e below (T2.setTop (mkF m 34 #[.val (.ref a1), .val (.int p1), .val (.int p2), .val (.int p3)] [])) _
    refine XS.aloadN X2.here hx rfl (hb hby d2_34) rfl rfl ?_
    show Steps p.tables e below (T2.setTop (mkF m 35 #[.val (.ref a1), .val (.int p1), .val (.int p2), .val (.int p3)] [(.ref a1)])) _
    refine XS.iloadN X2.here hx rfl (hb hby d2_35) rfl ?_
    exact kt
  refine Go.adv sg3 ?_
  obtain ⟨T4, h4, X4, e4, W4, st4⟩ := putF X2 hx hZ hown (host := "") (Or.inl (hw _ (List.mem_of_getElem? (i := 19) rfl))) Via.refl e2 F_gold_a1 E_a1 (Or.inr ⟨(hw _ (List.mem_of_getElem? (i := 20) rfl)), rfl, hnm⟩) (hw _ (List.mem_of_getElem? (i := 6) rfl)) (ty := .int) (by decide) rfl rfl (g := (mkF m 36 #[.val (.ref a1), .val (.int p1), .val (.int p2), .val (.int p3)] [(.int p1), (.ref a1)])) rfl rfl (hb hby d2_36)
  have Fw4 := F_gold_a1.same W4
  have K4 : Keep h0 h4 [a1] := (Keep.refl h0 [a1]).wr W4 (Or.inl (List.mem_of_getElem? (i := 0) rfl))
  have Z4 : n0 ≤ h4.size := Nat.le_trans Z0 (Keep.of_wr W4).1
  have N4 := Fr.snoc X4 N2 g_a1
  refine Go.adv st4 ?_
  show Go p.tables e below s _ _ _ (T4.setTop (mkF m 39 #[.val (.ref a1), .val (.int p1), .val (.int p2), .val (.int p3)] []))
  have sg5 : ∀ t, Steps p.tables e below (T4.setTop (mkF m 41 #[.val (.ref a1), .val (.int p1), .val (.int p2), .val (.int p3)] [(.int p2), (.ref a1)])) t → Steps p.tables e below (T4.setTop (mkF m 39 #[.val (.ref a1), .val (.int p1), .val (.int p2), .val (.int p3)] [])) t := by
    intro t kt
    show Steps p.tables e below (T4.setTop (mkF m 39 #[.val (.ref a1), .val (.int p1), .val (.int p2), .val (.int p3)] [])) _
    refine XS.aloadN X4.here hx rfl (hb hby d2_39) rfl rfl ?_
    show Steps p.tables e below (T4.setTop (mkF m 40 #[.val (.ref a1), .val (.int p1), .val (.int p2), .val (.int p3)] [(.ref a1)])) _
    refine XS.iloadN X4.here hx rfl (hb hby d2_40) rfl ?_
    exact kt
  refine Go.adv sg5 ?_
  have f6 := (F_system_a1.other W4 (Or.inr (slot_ne (Or.inr (hw _ (List.mem_of_getElem? (i := 22) rfl))) (Or.inr (hw _ (List.mem_of_getElem? (i := 20) rfl))) (by decide) (t := .int) (t' := .int) (by decide) (by decide))))
  have f7 := (E_a1.wr W4)
  obtain ⟨T8, h8, X8, e8, W8, st8⟩ := putF X4 hx hZ hown (host := "") (Or.inl (hw _ (List.mem_of_getElem? (i := 21) rfl))) Via.refl e4 f6 f7 (Or.inr ⟨(hw _ (List.mem_of_getElem? (i := 22) rfl)), rfl, hnm⟩) (hw _ (List.mem_of_getElem? (i := 6) rfl)) (ty := .int) (by decide) rfl rfl (g := (mkF m 41 #[.val (.ref a1), .val (.int p1), .val (.int p2), .val (.int p3)] [(.int p2), (.ref a1)])) rfl rfl (hb hby d2_41)
  have Fw8 := f6.same W8
  have K8 : Keep h0 h8 [a1] := K4.wr W8 (Or.inl (List.mem_of_getElem? (i := 0) rfl))
  have Z8 : n0 ≤ h8.size := Nat.le_trans Z4 (Keep.of_wr W8).1
  have N8 := Fr.snoc X8 N4 g_a1
  refine Go.adv st8 ?_
  show Go p.tables e below s _ _ _ (T8.setTop (mkF m 44 #[.val (.ref a1), .val (.int p1), .val (.int p2), .val (.int p3)] []))
  have sg9 : ∀ t, Steps p.tables e below (T8.setTop (mkF m 46 #[.val (.ref a1), .val (.int p1), .val (.int p2), .val (.int p3)] [(.int p3), (.ref a1)])) t → Steps p.tables e below (T8.setTop (mkF m 44 #[.val (.ref a1), .val (.int p1), .val (.int p2), .val (.int p3)] [])) t := by
    intro t kt
    show Steps p.tables e below (T8.setTop (mkF m 44 #[.val (.ref a1), .val (.int p1), .val (.int p2), .val (.int p3)] [])) _
    refine XS.aloadN X8.here hx rfl (hb hby d2_44) rfl rfl ?_
    show Steps p.tables e below (T8.setTop (mkF m 45 #[.val (.ref a1), .val (.int p1), .val (.int p2), .val (.int p3)] [(.ref a1)])) _
    refine XS.iloadN X8.here hx rfl (hb hby d2_45) rfl ?_
    exact kt
  refine Go.adv sg9 ?_
  have f10 := ((F_correct_a1.other W4 (Or.inr (slot_ne (Or.inr (hw _ (List.mem_of_getElem? (i := 24) rfl))) (Or.inr (hw _ (List.mem_of_getElem? (i := 20) rfl))) (by decide) (t := .int) (t' := .int) (by decide) (by decide)))).other W8 (Or.inr (slot_ne (Or.inr (hw _ (List.mem_of_getElem? (i := 24) rfl))) (Or.inr (hw _ (List.mem_of_getElem? (i := 22) rfl))) (by decide) (t := .int) (t' := .int) (by decide) (by decide))))
  have f11 := (f7.wr W8)
  obtain ⟨T12, h12, X12, e12, W12, st12⟩ := putF X8 hx hZ hown (host := "") (Or.inl (hw _ (List.mem_of_getElem? (i := 23) rfl))) Via.refl e8 f10 f11 (Or.inr ⟨(hw _ (List.mem_of_getElem? (i := 24) rfl)), rfl, hnm⟩) (hw _ (List.mem_of_getElem? (i := 6) rfl)) (ty := .int) (by decide) rfl rfl (g := (mkF m 46 #[.val (.ref a1), .val (.int p1), .val (.int p2), .val (.int p3)] [(.int p3), (.ref a1)])) rfl rfl (hb hby d2_46)
  have Fw12 := f10.same W12
  have K12 : Keep h0 h12 [a1] := K8.wr W12 (Or.inl (List.mem_of_getElem? (i := 0) rfl))
  have Z12 : n0 ≤ h12.size := Nat.le_trans Z8 (Keep.of_wr W12).1
  have N12 := Fr.snoc X12 N8 g_a1
  refine Go.adv st12 ?_
  show Go p.tables e below s _ _ _ (T12.setTop (mkF m 49 #[.val (.ref a1), .val (.int p1), .val (.int p2), .val (.int p3)] []))
  refine Go.ret (v := none) X12 (fun _ => rfl) Bd.notSynchronized (fun fs hr => X12.returnOut hx Bd.returns (hb hby d2_49) hr) ?_ (by decide) (by decide)
  show Q_rm_init Z a1 p1 p2 p3 u_gold u_system u_correct h0 n0 none T12.heap _
  rw [e12]
  have f13 := (f11.wr W12)
  have f14 := ((Fw4.other W8 (Or.inr (slot_ne (Or.inr (hw _ (List.mem_of_getElem? (i := 20) rfl))) (Or.inr (hw _ (List.mem_of_getElem? (i := 22) rfl))) (by decide) (t := .int) (t' := .int) (by decide) (by decide)))).other W12 (Or.inr (slot_ne (Or.inr (hw _ (List.mem_of_getElem? (i := 20) rfl))) (Or.inr (hw _ (List.mem_of_getElem? (i := 24) rfl))) (by decide) (t := .int) (t' := .int) (by decide) (by decide))))
  have f15 := (Fw8.other W12 (Or.inr (slot_ne (Or.inr (hw _ (List.mem_of_getElem? (i := 22) rfl))) (Or.inr (hw _ (List.mem_of_getElem? (i := 24) rfl))) (by decide) (t := .int) (t' := .int) (by decide) (by decide))))
  exact ⟨rfl, N12, K12, f13, f14, f15, Fw12⟩
theorem pn5 : plainName "com/example/tally/tally/score/QuestionScore" = true := by first | (simp [plainName, overriddenIn]; done) | decide +kernel
theorem d5_0 : decode prog_51_method_5_code 0 = .ok (.aload_n 0, 1) := by decide +kernel
theorem d5_1 : decode prog_51_method_5_code 1 = .ok (.getfield 16, 3) := by decide +kernel
theorem d5_4 : decode prog_51_method_5_code 4 = .ok (.ifCond .eq 10, 3) := by decide +kernel
theorem d5_14 : decode prog_51_method_5_code 14 = .ok (.aload_n 0, 1) := by decide +kernel
theorem d5_15 : decode prog_51_method_5_code 15 = .ok (.getfield 16, 3) := by decide +kernel
theorem d5_18 : decode prog_51_method_5_code 18 = .ok (.aload_n 0, 1) := by decide +kernel
theorem d5_19 : decode prog_51_method_5_code 19 = .ok (.getfield 22, 3) := by decide +kernel
theorem d5_22 : decode prog_51_method_5_code 22 = .ok (.if_icmp .ne 7, 3) := by decide +kernel
theorem d5_25 : decode prog_51_method_5_code 25 = .ok (.dconst 1, 1) := by decide +kernel
theorem d5_26 : decode prog_51_method_5_code 26 = .ok (.goto 4, 3) := by decide +kernel
theorem d5_30 : decode prog_51_method_5_code 30 = .ok (.dreturn, 1) := by decide +kernel
theorem d5_29 : decode prog_51_method_5_code 29 = .ok (.dconst 0, 1) := by decide +kernel
theorem d5_7 : decode prog_51_method_5_code 7 = .ok (.aload_n 0, 1) := by decide +kernel
theorem d5_8 : decode prog_51_method_5_code 8 = .ok (.getfield 22, 3) := by decide +kernel
theorem d5_11 : decode prog_51_method_5_code 11 = .ok (.ifCond .ne 20, 3) := by decide +kernel
theorem d5_31 : decode prog_51_method_5_code 31 = .ok (.ldc2_w 55, 3) := by decide +kernel
theorem d5_34 : decode prog_51_method_5_code 34 = .ok (.aload_n 0, 1) := by decide +kernel
theorem d5_35 : decode prog_51_method_5_code 35 = .ok (.getfield 25, 3) := by decide +kernel
theorem d5_38 : decode prog_51_method_5_code 38 = .ok (.i2d, 1) := by decide +kernel
theorem d5_39 : decode prog_51_method_5_code 39 = .ok (.dmul, 1) := by decide +kernel
theorem d5_40 : decode prog_51_method_5_code 40 = .ok (.aload_n 0, 1) := by decide +kernel
theorem d5_41 : decode prog_51_method_5_code 41 = .ok (.getfield 16, 3) := by decide +kernel
theorem d5_44 : decode prog_51_method_5_code 44 = .ok (.i2l, 1) := by decide +kernel
theorem d5_45 : decode prog_51_method_5_code 45 = .ok (.aload_n 0, 1) := by decide +kernel
theorem d5_46 : decode prog_51_method_5_code 46 = .ok (.getfield 22, 3) := by decide +kernel
theorem d5_49 : decode prog_51_method_5_code 49 = .ok (.i2l, 1) := by decide +kernel
theorem d5_50 : decode prog_51_method_5_code 50 = .ok (.ladd, 1) := by decide +kernel
theorem d5_51 : decode prog_51_method_5_code 51 = .ok (.l2d, 1) := by decide +kernel
theorem d5_52 : decode prog_51_method_5_code 52 = .ok (.ddiv, 1) := by decide +kernel
theorem d5_53 : decode prog_51_method_5_code 53 = .ok (.dreturn, 1) := by decide +kernel
theorem ef_rm_f1 (m : MethodId) (x0 : Addr) : entryFrame m #[(.ref x0)] 1 = mkF m 0 #[.val (.ref x0)] [] := by first | (simp [entryFrame, mkF, argsToLocals, Value.category]; done) | rfl
def Q_rm_f1 (Z : State) (a1 : Addr) (gg : Int32) (ss : Int32) (cc : Int32) (h0 : Heap) (n0 : Nat) (v : Option Value) (h : Heap) (L : List Loc) : Prop := v = some (.double (own_f1 gg ss cc)) ∧ Fr n0 L ∧ h = h0
set_option maxRecDepth 65536 in
set_option maxHeartbeats 40000000 in
theorem rm_f1 (l : Launch) (Z : State) (a0 : Array Value) (hw : ∀ d ∈ tables_1, d.before a0 Z = true) (ws : List Jvm.Cond) (a1 : Addr) (gg : Int32) (ss : Int32) (cc : Int32) (h0 : Heap) (n0 : Nat) (Z0 : n0 ≤ h0.size) (F_gold_a1 : Fld Z h0 a1 "com/example/tally/tally/score/QuestionScore" "gold" "I" (.int gg)) (F_system_a1 : Fld Z h0 a1 "com/example/tally/tally/score/QuestionScore" "system" "I" (.int ss)) (F_correct_a1 : Fld Z h0 a1 "com/example/tally/tally/score/QuestionScore" "correct" "I" (.int cc)) (hC : OwnCnt gg ss cc) :
    MetFree l (⟨"com/example/tally/tally/score/QuestionScore", "f1", "()D"⟩ : MethodName) (head1 (Jvm.Cond.code (⟨"com/example/tally/tally/score/QuestionScore", "f1", "()D"⟩ : MethodName) prog_51_method_5_code 1 (some .double) :: ws) ({ frames := 0, cells := 0, slots := 0, locals := 0 } : Room)) (fun a U => a = #[(.ref a1)] ∧ Z.Warmed39 U.vm ∧ U.heap = h0) (fun _ _ _ _ _ => True) (fun _ U o U' => ∃ v L, o = .returned v ∧ Q_rm_f1 Z a1 gg ss cc h0 n0 v U'.heap L ∧ FrameEnd U o U' L ({ frames := 0, cells := 0, slots := 0, locals := 0 } : Room).cells ({ frames := 0, cells := 0, slots := 0, locals := 0 } : Room).slots) := by
  refine MetFree.of_bodySF (plainFor_of_name pn5) hisR ?_
  intro p e s m args below meth c s₁ Bd hml0 hP hK
  obtain ⟨rfl, hZ, hh⟩ := hP
  have hx := Bd.exec
  have hby := Bd.bytes
  have hml : c.maxLocals = 1 := hml0
  have hown : s.vm.findClass "com/example/tally/tally/score/QuestionScore" = some m.cls := findClass_of_methodNamed Bd.named
  have hnm := (name_of_methodNamed Bd.named Bd.method).1
  have X0 : Stand p l e ({ frames := 0, cells := 0, slots := 0, locals := 0 } : Room) s m #[(.ref a1)] below meth c s₁ [] 0 0 := Stand.of_body Bd
  have e0 : s₁.heap = h0 := by rw [← hh, Bd.state]; rfl
  have N0 := Fr.nil n0
  refine Go.start (Q := Q_rm_f1 Z a1 gg ss cc h0 n0) (ef_rm_f1 m a1) ?_
  by_cases h1 : gg = 0
  · by_cases h2 : gg = ss
    · have sg1 : ∀ t, Steps p.tables e below (s₁.setTop (mkF m 1 #[.val (.ref a1)] [(.ref a1)])) t → Steps p.tables e below (s₁.setTop (mkF m 0 #[.val (.ref a1)] [])) t := by
        intro t kt
        show Steps p.tables e below (s₁.setTop (mkF m 0 #[.val (.ref a1)] [])) _
        refine XS.aloadN X0.here hx rfl (hb hby d5_0) rfl rfl ?_
        exact kt
      refine Go.adv sg1 ?_
      obtain ⟨T2, X2, e2, st2⟩ := getF X0 hx hZ hown (host := "") (Or.inl (hw _ (List.mem_of_getElem? (i := 19) rfl))) Via.refl e0 F_gold_a1 (g := (mkF m 1 #[.val (.ref a1)] [(.ref a1)])) rfl rfl (hb hby d5_1)
      refine Go.adv st2 ?_
      show Go p.tables e below s _ _ _ (T2.setTop (mkF m 4 #[.val (.ref a1)] [(.int gg)]))
      have sg3 : ∀ t, Steps p.tables e below (T2.setTop (mkF m 15 #[.val (.ref a1)] [(.ref a1)])) t → Steps p.tables e below (T2.setTop (mkF m 4 #[.val (.ref a1)] [(.int gg)])) t := by
        intro t kt
        show Steps p.tables e below (T2.setTop (mkF m 4 #[.val (.ref a1)] [(.int gg)])) _
        refine XS.ifYes X2.here hx rfl (pc0 := 4) (pc' := 14) rfl (hb hby d5_4) rfl ((if0 _ _).trans (teq (h1 : gg = (0 : Int32))).1) (by decide) (by decide) ?_
        show Steps p.tables e below (T2.setTop (mkF m 14 #[.val (.ref a1)] [])) _
        refine XS.aloadN X2.here hx rfl (hb hby d5_14) rfl rfl ?_
        exact kt
      refine Go.adv sg3 ?_
      obtain ⟨T4, X4, e4, st4⟩ := getF X2 hx hZ hown (host := "") (Or.inl (hw _ (List.mem_of_getElem? (i := 19) rfl))) Via.refl e2 F_gold_a1 (g := (mkF m 15 #[.val (.ref a1)] [(.ref a1)])) rfl rfl (hb hby d5_15)
      refine Go.adv st4 ?_
      show Go p.tables e below s _ _ _ (T4.setTop (mkF m 18 #[.val (.ref a1)] [(.int gg)]))
      have sg5 : ∀ t, Steps p.tables e below (T4.setTop (mkF m 19 #[.val (.ref a1)] [(.ref a1), (.int gg)])) t → Steps p.tables e below (T4.setTop (mkF m 18 #[.val (.ref a1)] [(.int gg)])) t := by
        intro t kt
        show Steps p.tables e below (T4.setTop (mkF m 18 #[.val (.ref a1)] [(.int gg)])) _
        refine XS.aloadN X4.here hx rfl (hb hby d5_18) rfl rfl ?_
        exact kt
      refine Go.adv sg5 ?_
      obtain ⟨T6, X6, e6, st6⟩ := getF X4 hx hZ hown (host := "") (Or.inl (hw _ (List.mem_of_getElem? (i := 21) rfl))) Via.refl e4 F_system_a1 (g := (mkF m 19 #[.val (.ref a1)] [(.ref a1), (.int gg)])) rfl rfl (hb hby d5_19)
      refine Go.adv st6 ?_
      show Go p.tables e below s _ _ _ (T6.setTop (mkF m 22 #[.val (.ref a1)] [(.int ss), (.int gg)]))
      have sg7 : ∀ t, Steps p.tables e below (T6.setTop (mkF m 30 #[.val (.ref a1)] [(.double (4607182418800017408 : UInt64))])) t → Steps p.tables e below (T6.setTop (mkF m 22 #[.val (.ref a1)] [(.int ss), (.int gg)])) t := by
        intro t kt
        show Steps p.tables e below (T6.setTop (mkF m 22 #[.val (.ref a1)] [(.int ss), (.int gg)])) _
        refine XS.icmpNo X6.here hx rfl (hb hby d5_22) rfl (teq (h2 : gg = ss)).2 ?_
        show Steps p.tables e below (T6.setTop (mkF m 25 #[.val (.ref a1)] [])) _
        refine own_dconst1 X6.here hx rfl (hb hby d5_25) ?_
        show Steps p.tables e below (T6.setTop (mkF m 26 #[.val (.ref a1)] [(.double (4607182418800017408 : UInt64))])) _
        refine XS.goto X6.here hx rfl (pc0 := 26) (pc' := 30) rfl (hb hby d5_26) (by decide) (by decide) ?_
        exact kt
      refine Go.adv sg7 ?_
      refine Go.ret (v := (some (.double (4607182418800017408 : UInt64)))) X6 (fun h => by rw [Bd.returns] at h; cases h) Bd.notSynchronized (fun fs hr => retOut X6 hx Bd.returns rfl (Or.inr (Or.inr (Or.inl ⟨rfl, rfl, _, rfl⟩))) (hb hby d5_30) hr) ?_ (by decide) (by decide)
      show Q_rm_f1 Z a1 gg ss cc h0 n0 (some (.double (4607182418800017408 : UInt64))) T6.heap _
      rw [e6]
      exact ⟨congrArg (fun z => some (Value.double z)) (own_f1_a (Or.inl h1) h2).symm, N0, rfl⟩
    · have sg8 : ∀ t, Steps p.tables e below (s₁.setTop (mkF m 1 #[.val (.ref a1)] [(.ref a1)])) t → Steps p.tables e below (s₁.setTop (mkF m 0 #[.val (.ref a1)] [])) t := by
        intro t kt
        show Steps p.tables e below (s₁.setTop (mkF m 0 #[.val (.ref a1)] [])) _
        refine XS.aloadN X0.here hx rfl (hb hby d5_0) rfl rfl ?_
        exact kt
      refine Go.adv sg8 ?_
      obtain ⟨T9, X9, e9, st9⟩ := getF X0 hx hZ hown (host := "") (Or.inl (hw _ (List.mem_of_getElem? (i := 19) rfl))) Via.refl e0 F_gold_a1 (g := (mkF m 1 #[.val (.ref a1)] [(.ref a1)])) rfl rfl (hb hby d5_1)
      refine Go.adv st9 ?_
      show Go p.tables e below s _ _ _ (T9.setTop (mkF m 4 #[.val (.ref a1)] [(.int gg)]))
      have sg10 : ∀ t, Steps p.tables e below (T9.setTop (mkF m 15 #[.val (.ref a1)] [(.ref a1)])) t → Steps p.tables e below (T9.setTop (mkF m 4 #[.val (.ref a1)] [(.int gg)])) t := by
        intro t kt
        show Steps p.tables e below (T9.setTop (mkF m 4 #[.val (.ref a1)] [(.int gg)])) _
        refine XS.ifYes X9.here hx rfl (pc0 := 4) (pc' := 14) rfl (hb hby d5_4) rfl ((if0 _ _).trans (teq (h1 : gg = (0 : Int32))).1) (by decide) (by decide) ?_
        show Steps p.tables e below (T9.setTop (mkF m 14 #[.val (.ref a1)] [])) _
        refine XS.aloadN X9.here hx rfl (hb hby d5_14) rfl rfl ?_
        exact kt
      refine Go.adv sg10 ?_
      obtain ⟨T11, X11, e11, st11⟩ := getF X9 hx hZ hown (host := "") (Or.inl (hw _ (List.mem_of_getElem? (i := 19) rfl))) Via.refl e9 F_gold_a1 (g := (mkF m 15 #[.val (.ref a1)] [(.ref a1)])) rfl rfl (hb hby d5_15)
      refine Go.adv st11 ?_
      show Go p.tables e below s _ _ _ (T11.setTop (mkF m 18 #[.val (.ref a1)] [(.int gg)]))
      have sg12 : ∀ t, Steps p.tables e below (T11.setTop (mkF m 19 #[.val (.ref a1)] [(.ref a1), (.int gg)])) t → Steps p.tables e below (T11.setTop (mkF m 18 #[.val (.ref a1)] [(.int gg)])) t := by
        intro t kt
        show Steps p.tables e below (T11.setTop (mkF m 18 #[.val (.ref a1)] [(.int gg)])) _
        refine XS.aloadN X11.here hx rfl (hb hby d5_18) rfl rfl ?_
        exact kt
      refine Go.adv sg12 ?_
      obtain ⟨T13, X13, e13, st13⟩ := getF X11 hx hZ hown (host := "") (Or.inl (hw _ (List.mem_of_getElem? (i := 21) rfl))) Via.refl e11 F_system_a1 (g := (mkF m 19 #[.val (.ref a1)] [(.ref a1), (.int gg)])) rfl rfl (hb hby d5_19)
      refine Go.adv st13 ?_
      show Go p.tables e below s _ _ _ (T13.setTop (mkF m 22 #[.val (.ref a1)] [(.int ss), (.int gg)]))
      have sg14 : ∀ t, Steps p.tables e below (T13.setTop (mkF m 30 #[.val (.ref a1)] [(.double (0 : UInt64))])) t → Steps p.tables e below (T13.setTop (mkF m 22 #[.val (.ref a1)] [(.int ss), (.int gg)])) t := by
        intro t kt
        show Steps p.tables e below (T13.setTop (mkF m 22 #[.val (.ref a1)] [(.int ss), (.int gg)])) _
        refine XS.icmpYes X13.here hx rfl (pc0 := 22) (pc' := 29) rfl (hb hby d5_22) rfl (feq (h2 : ¬ (gg = ss))).2 (by decide) (by decide) ?_
        show Steps p.tables e below (T13.setTop (mkF m 29 #[.val (.ref a1)] [])) _
        refine own_dconst0 X13.here hx rfl (hb hby d5_29) ?_
        exact kt
      refine Go.adv sg14 ?_
      refine Go.ret (v := (some (.double (0 : UInt64)))) X13 (fun h => by rw [Bd.returns] at h; cases h) Bd.notSynchronized (fun fs hr => retOut X13 hx Bd.returns rfl (Or.inr (Or.inr (Or.inl ⟨rfl, rfl, _, rfl⟩))) (hb hby d5_30) hr) ?_ (by decide) (by decide)
      show Q_rm_f1 Z a1 gg ss cc h0 n0 (some (.double (0 : UInt64))) T13.heap _
      rw [e13]
      exact ⟨congrArg (fun z => some (Value.double z)) (own_f1_b (Or.inl h1) h2).symm, N0, rfl⟩
  · by_cases h2 : ss = 0
    · have h3 : ¬ (gg = ss) := fun q => h1 (q.trans h2)
      have sg15 : ∀ t, Steps p.tables e below (s₁.setTop (mkF m 1 #[.val (.ref a1)] [(.ref a1)])) t → Steps p.tables e below (s₁.setTop (mkF m 0 #[.val (.ref a1)] [])) t := by
        intro t kt
        show Steps p.tables e below (s₁.setTop (mkF m 0 #[.val (.ref a1)] [])) _
        refine XS.aloadN X0.here hx rfl (hb hby d5_0) rfl rfl ?_
        exact kt
      refine Go.adv sg15 ?_
      obtain ⟨T16, X16, e16, st16⟩ := getF X0 hx hZ hown (host := "") (Or.inl (hw _ (List.mem_of_getElem? (i := 19) rfl))) Via.refl e0 F_gold_a1 (g := (mkF m 1 #[.val (.ref a1)] [(.ref a1)])) rfl rfl (hb hby d5_1)
      refine Go.adv st16 ?_
      show Go p.tables e below s _ _ _ (T16.setTop (mkF m 4 #[.val (.ref a1)] [(.int gg)]))
      have sg17 : ∀ t, Steps p.tables e below (T16.setTop (mkF m 8 #[.val (.ref a1)] [(.ref a1)])) t → Steps p.tables e below (T16.setTop (mkF m 4 #[.val (.ref a1)] [(.int gg)])) t := by
        intro t kt
        show Steps p.tables e below (T16.setTop (mkF m 4 #[.val (.ref a1)] [(.int gg)])) _
        refine XS.ifNo X16.here hx rfl (hb hby d5_4) rfl ((if0 _ _).trans (feq (h1 : ¬ (gg = (0 : Int32)))).1) ?_
        show Steps p.tables e below (T16.setTop (mkF m 7 #[.val (.ref a1)] [])) _
        refine XS.aloadN X16.here hx rfl (hb hby d5_7) rfl rfl ?_
        exact kt
      refine Go.adv sg17 ?_
      obtain ⟨T18, X18, e18, st18⟩ := getF X16 hx hZ hown (host := "") (Or.inl (hw _ (List.mem_of_getElem? (i := 21) rfl))) Via.refl e16 F_system_a1 (g := (mkF m 8 #[.val (.ref a1)] [(.ref a1)])) rfl rfl (hb hby d5_8)
      refine Go.adv st18 ?_
      show Go p.tables e below s _ _ _ (T18.setTop (mkF m 11 #[.val (.ref a1)] [(.int ss)]))
      have sg19 : ∀ t, Steps p.tables e below (T18.setTop (mkF m 15 #[.val (.ref a1)] [(.ref a1)])) t → Steps p.tables e below (T18.setTop (mkF m 11 #[.val (.ref a1)] [(.int ss)])) t := by
        intro t kt
        show Steps p.tables e below (T18.setTop (mkF m 11 #[.val (.ref a1)] [(.int ss)])) _
        refine XS.ifNo X18.here hx rfl (hb hby d5_11) rfl ((if0 _ _).trans (teq (h2 : ss = (0 : Int32))).2) ?_
        show Steps p.tables e below (T18.setTop (mkF m 14 #[.val (.ref a1)] [])) _
        refine XS.aloadN X18.here hx rfl (hb hby d5_14) rfl rfl ?_
        exact kt
      refine Go.adv sg19 ?_
      obtain ⟨T20, X20, e20, st20⟩ := getF X18 hx hZ hown (host := "") (Or.inl (hw _ (List.mem_of_getElem? (i := 19) rfl))) Via.refl e18 F_gold_a1 (g := (mkF m 15 #[.val (.ref a1)] [(.ref a1)])) rfl rfl (hb hby d5_15)
      refine Go.adv st20 ?_
      show Go p.tables e below s _ _ _ (T20.setTop (mkF m 18 #[.val (.ref a1)] [(.int gg)]))
      have sg21 : ∀ t, Steps p.tables e below (T20.setTop (mkF m 19 #[.val (.ref a1)] [(.ref a1), (.int gg)])) t → Steps p.tables e below (T20.setTop (mkF m 18 #[.val (.ref a1)] [(.int gg)])) t := by
        intro t kt
        show Steps p.tables e below (T20.setTop (mkF m 18 #[.val (.ref a1)] [(.int gg)])) _
        refine XS.aloadN X20.here hx rfl (hb hby d5_18) rfl rfl ?_
        exact kt
      refine Go.adv sg21 ?_
      obtain ⟨T22, X22, e22, st22⟩ := getF X20 hx hZ hown (host := "") (Or.inl (hw _ (List.mem_of_getElem? (i := 21) rfl))) Via.refl e20 F_system_a1 (g := (mkF m 19 #[.val (.ref a1)] [(.ref a1), (.int gg)])) rfl rfl (hb hby d5_19)
      refine Go.adv st22 ?_
      show Go p.tables e below s _ _ _ (T22.setTop (mkF m 22 #[.val (.ref a1)] [(.int ss), (.int gg)]))
      have sg23 : ∀ t, Steps p.tables e below (T22.setTop (mkF m 30 #[.val (.ref a1)] [(.double (0 : UInt64))])) t → Steps p.tables e below (T22.setTop (mkF m 22 #[.val (.ref a1)] [(.int ss), (.int gg)])) t := by
        intro t kt
        show Steps p.tables e below (T22.setTop (mkF m 22 #[.val (.ref a1)] [(.int ss), (.int gg)])) _
        refine XS.icmpYes X22.here hx rfl (pc0 := 22) (pc' := 29) rfl (hb hby d5_22) rfl (feq (h3 : ¬ (gg = ss))).2 (by decide) (by decide) ?_
        show Steps p.tables e below (T22.setTop (mkF m 29 #[.val (.ref a1)] [])) _
        refine own_dconst0 X22.here hx rfl (hb hby d5_29) ?_
        exact kt
      refine Go.adv sg23 ?_
      refine Go.ret (v := (some (.double (0 : UInt64)))) X22 (fun h => by rw [Bd.returns] at h; cases h) Bd.notSynchronized (fun fs hr => retOut X22 hx Bd.returns rfl (Or.inr (Or.inr (Or.inl ⟨rfl, rfl, _, rfl⟩))) (hb hby d5_30) hr) ?_ (by decide) (by decide)
      show Q_rm_f1 Z a1 gg ss cc h0 n0 (some (.double (0 : UInt64))) T22.heap _
      rw [e22]
      exact ⟨congrArg (fun z => some (Value.double z)) (own_f1_b (Or.inr h2) h3).symm, N0, rfl⟩
    · have hsum : gg.toInt + ss.toInt ≠ 0 := by
        have q1 : gg.toInt ≠ 0 := fun q => h1 (own_z32.mpr q)
        have q2 : ss.toInt ≠ 0 := fun q => h2 (own_z32.mpr q)
        obtain ⟨c1, c2, c3⟩ := hC
        omega
      have sg24 : ∀ t, Steps p.tables e below (s₁.setTop (mkF m 1 #[.val (.ref a1)] [(.ref a1)])) t → Steps p.tables e below (s₁.setTop (mkF m 0 #[.val (.ref a1)] [])) t := by
        intro t kt
        show Steps p.tables e below (s₁.setTop (mkF m 0 #[.val (.ref a1)] [])) _
        refine XS.aloadN X0.here hx rfl (hb hby d5_0) rfl rfl ?_
        exact kt
      refine Go.adv sg24 ?_
      obtain ⟨T25, X25, e25, st25⟩ := getF X0 hx hZ hown (host := "") (Or.inl (hw _ (List.mem_of_getElem? (i := 19) rfl))) Via.refl e0 F_gold_a1 (g := (mkF m 1 #[.val (.ref a1)] [(.ref a1)])) rfl rfl (hb hby d5_1)
      refine Go.adv st25 ?_
      show Go p.tables e below s _ _ _ (T25.setTop (mkF m 4 #[.val (.ref a1)] [(.int gg)]))
      have sg26 : ∀ t, Steps p.tables e below (T25.setTop (mkF m 8 #[.val (.ref a1)] [(.ref a1)])) t → Steps p.tables e below (T25.setTop (mkF m 4 #[.val (.ref a1)] [(.int gg)])) t := by
        intro t kt
        show Steps p.tables e below (T25.setTop (mkF m 4 #[.val (.ref a1)] [(.int gg)])) _
        refine XS.ifNo X25.here hx rfl (hb hby d5_4) rfl ((if0 _ _).trans (feq (h1 : ¬ (gg = (0 : Int32)))).1) ?_
        show Steps p.tables e below (T25.setTop (mkF m 7 #[.val (.ref a1)] [])) _
        refine XS.aloadN X25.here hx rfl (hb hby d5_7) rfl rfl ?_
        exact kt
      refine Go.adv sg26 ?_
      obtain ⟨T27, X27, e27, st27⟩ := getF X25 hx hZ hown (host := "") (Or.inl (hw _ (List.mem_of_getElem? (i := 21) rfl))) Via.refl e25 F_system_a1 (g := (mkF m 8 #[.val (.ref a1)] [(.ref a1)])) rfl rfl (hb hby d5_8)
      refine Go.adv st27 ?_
      show Go p.tables e below s _ _ _ (T27.setTop (mkF m 11 #[.val (.ref a1)] [(.int ss)]))
      have sg28 : ∀ t, Steps p.tables e below (T27.setTop (mkF m 35 #[.val (.ref a1)] [(.ref a1), (.double (4611686018427387904 : UInt64))])) t → Steps p.tables e below (T27.setTop (mkF m 11 #[.val (.ref a1)] [(.int ss)])) t := by
        intro t kt
        show Steps p.tables e below (T27.setTop (mkF m 11 #[.val (.ref a1)] [(.int ss)])) _
        refine XS.ifYes X27.here hx rfl (pc0 := 11) (pc' := 31) rfl (hb hby d5_11) rfl ((if0 _ _).trans (feq (h2 : ¬ (ss = (0 : Int32)))).2) (by decide) (by decide) ?_
        show Steps p.tables e below (T27.setTop (mkF m 31 #[.val (.ref a1)] [])) _
        refine X27.ldc2DoubleC hx hown (mvT hZ (hw _ (List.mem_of_getElem? (i := 31) rfl))) (g := (mkF m 31 #[.val (.ref a1)] [])) rfl (hb hby d5_31) _ ?_
        show Steps p.tables e below (T27.setTop (mkF m 34 #[.val (.ref a1)] [(.double (4611686018427387904 : UInt64))])) _
        refine XS.aloadN X27.here hx rfl (hb hby d5_34) rfl rfl ?_
        exact kt
      refine Go.adv sg28 ?_
      obtain ⟨T29, X29, e29, st29⟩ := getF X27 hx hZ hown (host := "") (Or.inl (hw _ (List.mem_of_getElem? (i := 23) rfl))) Via.refl e27 F_correct_a1 (g := (mkF m 35 #[.val (.ref a1)] [(.ref a1), (.double (4611686018427387904 : UInt64))])) rfl rfl (hb hby d5_35)
      refine Go.adv st29 ?_
      show Go p.tables e below s _ _ _ (T29.setTop (mkF m 38 #[.val (.ref a1)] [(.int cc), (.double (4611686018427387904 : UInt64))]))
      have sg30 : ∀ t, Steps p.tables e below (T29.setTop (mkF m 41 #[.val (.ref a1)] [(.ref a1), (.double (FP.dmul (4611686018427387904 : UInt64) (FP.i2d cc)))])) t → Steps p.tables e below (T29.setTop (mkF m 38 #[.val (.ref a1)] [(.int cc), (.double (4611686018427387904 : UInt64))])) t := by
        intro t kt
        show Steps p.tables e below (T29.setTop (mkF m 38 #[.val (.ref a1)] [(.int cc), (.double (4611686018427387904 : UInt64))])) _
        refine own_i2d X29.here hx rfl (hb hby d5_38) rfl ?_
        show Steps p.tables e below (T29.setTop (mkF m 39 #[.val (.ref a1)] [(.double (FP.i2d cc)), (.double (4611686018427387904 : UInt64))])) _
        refine own_dmul X29.here hx rfl (hb hby d5_39) rfl (own_num2 cc) ?_
        show Steps p.tables e below (T29.setTop (mkF m 40 #[.val (.ref a1)] [(.double (FP.dmul (4611686018427387904 : UInt64) (FP.i2d cc)))])) _
        refine XS.aloadN X29.here hx rfl (hb hby d5_40) rfl rfl ?_
        exact kt
      refine Go.adv sg30 ?_
      obtain ⟨T31, X31, e31, st31⟩ := getF X29 hx hZ hown (host := "") (Or.inl (hw _ (List.mem_of_getElem? (i := 19) rfl))) Via.refl e29 F_gold_a1 (g := (mkF m 41 #[.val (.ref a1)] [(.ref a1), (.double (FP.dmul (4611686018427387904 : UInt64) (FP.i2d cc)))])) rfl rfl (hb hby d5_41)
      refine Go.adv st31 ?_
      show Go p.tables e below s _ _ _ (T31.setTop (mkF m 44 #[.val (.ref a1)] [(.int gg), (.double (FP.dmul (4611686018427387904 : UInt64) (FP.i2d cc)))]))
      have sg32 : ∀ t, Steps p.tables e below (T31.setTop (mkF m 46 #[.val (.ref a1)] [(.ref a1), (.long (gg.toInt64)), (.double (FP.dmul (4611686018427387904 : UInt64) (FP.i2d cc)))])) t → Steps p.tables e below (T31.setTop (mkF m 44 #[.val (.ref a1)] [(.int gg), (.double (FP.dmul (4611686018427387904 : UInt64) (FP.i2d cc)))])) t := by
        intro t kt
        show Steps p.tables e below (T31.setTop (mkF m 44 #[.val (.ref a1)] [(.int gg), (.double (FP.dmul (4611686018427387904 : UInt64) (FP.i2d cc)))])) _
        refine XS.i2l X31.here hx rfl (hb hby d5_44) rfl ?_
        show Steps p.tables e below (T31.setTop (mkF m 45 #[.val (.ref a1)] [(.long (gg.toInt64)), (.double (FP.dmul (4611686018427387904 : UInt64) (FP.i2d cc)))])) _
        refine XS.aloadN X31.here hx rfl (hb hby d5_45) rfl rfl ?_
        exact kt
      refine Go.adv sg32 ?_
      obtain ⟨T33, X33, e33, st33⟩ := getF X31 hx hZ hown (host := "") (Or.inl (hw _ (List.mem_of_getElem? (i := 21) rfl))) Via.refl e31 F_system_a1 (g := (mkF m 46 #[.val (.ref a1)] [(.ref a1), (.long (gg.toInt64)), (.double (FP.dmul (4611686018427387904 : UInt64) (FP.i2d cc)))])) rfl rfl (hb hby d5_46)
      refine Go.adv st33 ?_
      show Go p.tables e below s _ _ _ (T33.setTop (mkF m 49 #[.val (.ref a1)] [(.int ss), (.long (gg.toInt64)), (.double (FP.dmul (4611686018427387904 : UInt64) (FP.i2d cc)))]))
      have sg34 : ∀ t, Steps p.tables e below (T33.setTop (mkF m 53 #[.val (.ref a1)] [(.double (FP.ddiv (FP.dmul (4611686018427387904 : UInt64) (FP.i2d cc)) (FP.l2d ((gg.toInt64) + (ss.toInt64)))))])) t → Steps p.tables e below (T33.setTop (mkF m 49 #[.val (.ref a1)] [(.int ss), (.long (gg.toInt64)), (.double (FP.dmul (4611686018427387904 : UInt64) (FP.i2d cc)))])) t := by
        intro t kt
        show Steps p.tables e below (T33.setTop (mkF m 49 #[.val (.ref a1)] [(.int ss), (.long (gg.toInt64)), (.double (FP.dmul (4611686018427387904 : UInt64) (FP.i2d cc)))])) _
        refine XS.i2l X33.here hx rfl (hb hby d5_49) rfl ?_
        show Steps p.tables e below (T33.setTop (mkF m 50 #[.val (.ref a1)] [(.long (ss.toInt64)), (.long (gg.toInt64)), (.double (FP.dmul (4611686018427387904 : UInt64) (FP.i2d cc)))])) _
        refine XS.ladd X33.here hx rfl (hb hby d5_50) rfl ?_
        show Steps p.tables e below (T33.setTop (mkF m 51 #[.val (.ref a1)] [(.long ((gg.toInt64) + (ss.toInt64))), (.double (FP.dmul (4611686018427387904 : UInt64) (FP.i2d cc)))])) _
        refine own_l2d X33.here hx rfl (hb hby d5_51) rfl ?_
        show Steps p.tables e below (T33.setTop (mkF m 52 #[.val (.ref a1)] [(.double (FP.l2d ((gg.toInt64) + (ss.toInt64)))), (.double (FP.dmul (4611686018427387904 : UInt64) (FP.i2d cc)))])) _
        refine own_ddiv X33.here hx rfl (hb hby d5_52) rfl (own_numdiv (own_two cc) (own_sumD gg ss) hsum) ?_
        exact kt
      refine Go.adv sg34 ?_
      refine Go.ret (v := (some (.double (FP.ddiv (FP.dmul (4611686018427387904 : UInt64) (FP.i2d cc)) (FP.l2d ((gg.toInt64) + (ss.toInt64))))))) X33 (fun h => by rw [Bd.returns] at h; cases h) Bd.notSynchronized (fun fs hr => retOut X33 hx Bd.returns rfl (Or.inr (Or.inr (Or.inl ⟨rfl, rfl, _, rfl⟩))) (hb hby d5_53) hr) ?_ (by decide) (by decide)
      show Q_rm_f1 Z a1 gg ss cc h0 n0 (some (.double (FP.ddiv (FP.dmul (4611686018427387904 : UInt64) (FP.i2d cc)) (FP.l2d ((gg.toInt64) + (ss.toInt64)))))) T33.heap _
      rw [e33]
      exact ⟨congrArg (fun z => some (Value.double z)) (own_f1_c (fun q => q.elim h1 h2)).symm, N0, rfl⟩

theorem own_f1_A {gg ss cc : Int32} (h1 : gg = 0) (h2 : ss = 0) : FP.Core.dcmp (own_f1 gg ss cc) 4607182418800017408 = some .eq ∧ FP.Core.dcmp (own_f1 gg ss cc) (own_f1 ss gg cc) = some .eq ∧ FP.Core.dcmp 0 (own_f1 gg ss cc) = some .lt ∧ FP.Core.dcmp (own_f1 gg ss cc) 0 = some .gt := by
  rw [own_f1_a (Or.inl h1) (h1.trans h2.symm), own_f1_a (Or.inl h2) (h2.trans h1.symm)]
  exact ⟨own_c11, own_c11, own_c01, own_c10⟩
theorem own_f1_B {gg ss cc : Int32} (h1 : gg = 0 ∨ ss = 0) (h2 : ¬ gg = ss) : FP.Core.dcmp (own_f1 gg ss cc) 4607182418800017408 = some .lt ∧ FP.Core.dcmp (own_f1 gg ss cc) (own_f1 ss gg cc) = some .eq ∧ FP.Core.dcmp 0 (own_f1 gg ss cc) = some .eq ∧ FP.Core.dcmp (own_f1 gg ss cc) 0 = some .eq := by
  rw [own_f1_b h1 h2, own_f1_b h1.symm (fun q => h2 q.symm)]
  exact ⟨own_c01, own_c00, own_c00, own_c00⟩
theorem own_f1_D {gg ss cc : Int32} (hC : OwnCnt gg ss cc) (h1 : ¬ gg = 0) (h2 : ¬ ss = 0) :
    FP.Core.dcmp (own_f1 gg ss cc) 4607182418800017408 = some (if cc = gg ∧ cc = ss then .eq else .lt) ∧ FP.Core.dcmp (own_f1 gg ss cc) (own_f1 ss gg cc) = some .eq ∧
    FP.Core.dcmp 0 (own_f1 gg ss cc) = some (if cc = 0 then .eq else .lt) ∧ FP.Core.dcmp (own_f1 gg ss cc) 0 = some (if cc = 0 then .eq else .gt) ∧
    FP.Core.dcmp (own_f1 gg ss cc) (FP.ddiv (FP.l2d ((2 : Int64) * cc.toInt64)) (FP.l2d (gg.toInt64 + ss.toInt64))) = some .eq ∧ OwnNum (FP.ddiv (FP.l2d ((2 : Int64) * cc.toInt64)) (FP.l2d (gg.toInt64 + ss.toInt64))) := by
  have q1 : gg.toInt ≠ 0 := fun q => h1 (own_z32.mpr q)
  have q2 : ss.toInt ≠ 0 := fun q => h2 (own_z32.mpr q)
  obtain ⟨c1, c2, c3⟩ := hC
  have a1 := gg.toInt_lt; have a3 := ss.toInt_lt
  rw [own_f1_c (fun q => q.elim h1 h2), own_f1_c (gg := ss) (ss := gg) (fun q => q.elim h2 h1)]
  have h := Own.div_cmp (own_two cc) (own_sumD gg ss) (by omega) (by omega) (by omega) (by omega)
  have e1 : (if 2 * cc.toInt = gg.toInt + ss.toInt then Ordering.eq else .lt) = (if cc = gg ∧ cc = ss then .eq else .lt) := by
    by_cases q : cc = gg ∧ cc = ss
    · rw [if_pos q, if_pos (by have r1 := own_e32.mp q.1; have r2 := own_e32.mp q.2; omega)]
    · rw [if_neg q, if_neg (fun z => q ⟨own_e32.mpr (by omega), own_e32.mpr (by omega)⟩)]
  have e2 : ∀ o : Ordering, (if 2 * cc.toInt = 0 then Ordering.eq else o) = (if cc = 0 then .eq else o) := fun o => by
    by_cases q : cc = 0
    · rw [if_pos q, if_pos (by have := own_z32.mp q; omega)]
    · rw [if_neg q, if_neg (fun z => q (own_z32.mpr (by omega)))]
  refine ⟨h.1.trans (congrArg some e1), ?_, h.2.2.trans (congrArg some (e2 _)), h.2.1.trans (congrArg some (e2 _)), ?_, own_numdiv (own_twoL cc) (own_sumD gg ss) (by omega)⟩
  · exact Own.div_same (own_two cc) (own_sumD gg ss) (own_two cc) (own_sumD ss gg) (by omega) (by omega) (by omega) (by omega) (by rw [Int.add_comm ss.toInt])
  · exact Own.div_same (own_two cc) (own_sumD gg ss) (own_twoL cc) (own_sumD gg ss) (by omega) (by omega) (by omega) (by omega) rfl
theorem pn0 : plainName "com/example/tally/tally/score/QuestionScoreF1PinLaw" = true := by first | (simp [plainName, overriddenIn]; done) | decide +kernel
theorem pd_oIIcI : parseMethodDescriptor "(II)I" = some ⟨[.int, .int], some .int⟩ := by decide +kernel
theorem pd_oIIIcV : parseMethodDescriptor "(III)V" = some ⟨[.int, .int, .int], none⟩ := by decide +kernel
theorem pd_ocD : parseMethodDescriptor "()D" = some ⟨[], some .double⟩ := by decide +kernel
theorem ef_rm0 (m : MethodId) (x0 : Int32) (x1 : Int32) (x2 : Int32) (x3 : Int32) : entryFrame m #[(.int x0), (.int x1), (.int x2), (.int x3)] maxLocals = mkF m 0 #[.val (.int x0), .val (.int x1), .val (.int x2), .val (.int x3), .unset, .unset, .unset, .unset, .unset, .unset, .unset, .unset, .unset, .unset, .unset, .unset, .unset, .unset, .unset, .unset, .unset, .unset] [] := by first | (simp [entryFrame, mkF, argsToLocals, Value.category, maxLocals]; done) | rfl
def Q_rm0 (Z : State) (p1 : Int32) (p2 : Int32) (p3 : Int32) (p4 : Int32) (h0 : Heap) (n0 : Nat) (v : Option Value) (h : Heap) (L : List Loc) : Prop := v = some (.int (1 : Int32)) ∧ Fr n0 L
set_option maxRecDepth 65536 in
set_option maxHeartbeats 40000000 in
theorem rm0 (l : Launch) (Z : State) (a0 : Array Value) (hw : ∀ d ∈ tables_1, d.before a0 Z = true) (ws : List Jvm.Cond) (p1 : Int32) (p2 : Int32) (p3 : Int32) (p4 : Int32) (h0 : Heap) (n0 : Nat) (Z0 : n0 ≤ h0.size)  :
    MetFree l x (head1 (Jvm.Cond.code x code maxLocals ret :: ws) room_1) (fun a U => a = #[(.int p1), (.int p2), (.int p3), (.int p4)] ∧ Z.Warmed39 U.vm ∧ U.heap = h0) (fun _ _ _ _ _ => True) (fun _ U o U' => ∃ v L, o = .returned v ∧ Q_rm0 Z p1 p2 p3 p4 h0 n0 v U'.heap L ∧ FrameEnd U o U' L room_1.cells room_1.slots) := by
  refine MetFree.of_bodySF (plainFor_of_name pn0) hisR ?_
  intro p e s m args below meth c s₁ Bd hml0 hP hK
  obtain ⟨rfl, hZ, hh⟩ := hP
  have hx := Bd.exec
  have hby := Bd.bytes
  have hml : c.maxLocals = 22 := hml0
  have hown : s.vm.findClass "com/example/tally/tally/score/QuestionScoreF1PinLaw" = some m.cls := findClass_of_methodNamed Bd.named
  have hnm := (name_of_methodNamed Bd.named Bd.method).1
  have X0 : Stand p l e room_1 s m #[(.int p1), (.int p2), (.int p3), (.int p4)] below meth c s₁ [] 0 0 := Stand.of_body Bd
  have e0 : s₁.heap = h0 := by rw [← hh, Bd.state]; rfl
  have N0 := Fr.nil n0
  refine Go.start (Q := Q_rm0 Z p1 p2 p3 p4 h0 n0) (ef_rm0 m p1 p2 p3 p4) ?_
  obtain ⟨gg, ss, hg0, hs0, sgA⟩ : ∃ gg ss : Int32, 0 ≤ gg.toInt ∧ 0 ≤ ss.toInt ∧ ∀ t, Steps p.tables e below (s₁.setTop (mkF m 31 #[.val (.int p1), .val (.int p2), .val (.int p3), .val (.int p4), .val (.int gg), .val (.int ss), .unset, .unset, .unset, .unset, .unset, .unset, .unset, .unset, .unset, .unset, .unset, .unset, .unset, .unset, .unset, .unset] [])) t → Steps p.tables e below (s₁.setTop (mkF m 0 #[.val (.int p1), .val (.int p2), .val (.int p3), .val (.int p4), .unset, .unset, .unset, .unset, .unset, .unset, .unset, .unset, .unset, .unset, .unset, .unset, .unset, .unset, .unset, .unset, .unset, .unset] [])) t := by
    by_cases hm : (p4 &&& (1 : Int32)) = (0 : Int32)
    · refine ⟨(p1 &&& (2147483647 : Int32)), (p2 &&& (2147483647 : Int32)), own_mask p1, own_mask p2, ?_⟩
      intro t kt
      show Steps p.tables e below (s₁.setTop (mkF m 0 #[.val (.int p1), .val (.int p2), .val (.int p3), .val (.int p4), .unset, .unset, .unset, .unset, .unset, .unset, .unset, .unset, .unset, .unset, .unset, .unset, .unset, .unset, .unset, .unset, .unset, .unset] [])) _
      refine XS.iloadN X0.here hx rfl (hb hby at_0) rfl ?_
      show Steps p.tables e below (s₁.setTop (mkF m 1 #[.val (.int p1), .val (.int p2), .val (.int p3), .val (.int p4), .unset, .unset, .unset, .unset, .unset, .unset, .unset, .unset, .unset, .unset, .unset, .unset, .unset, .unset, .unset, .unset, .unset, .unset] [(.int p4)])) _
      refine XS.iconst X0.here hx rfl (hb hby at_1) ?_
      show Steps p.tables e below (s₁.setTop (mkF m 2 #[.val (.int p1), .val (.int p2), .val (.int p3), .val (.int p4), .unset, .unset, .unset, .unset, .unset, .unset, .unset, .unset, .unset, .unset, .unset, .unset, .unset, .unset, .unset, .unset, .unset, .unset] [(.int (1 : Int32)), (.int p4)])) _
      refine XS.iand X0.here hx rfl (hb hby at_2) rfl ?_
      show Steps p.tables e below (s₁.setTop (mkF m 3 #[.val (.int p1), .val (.int p2), .val (.int p3), .val (.int p4), .unset, .unset, .unset, .unset, .unset, .unset, .unset, .unset, .unset, .unset, .unset, .unset, .unset, .unset, .unset, .unset, .unset, .unset] [(.int (p4 &&& (1 : Int32)))])) _
      refine XS.ifYes X0.here hx rfl (pc0 := 3) (pc' := 19) rfl (hb hby at_3) rfl ((if0 _ _).trans (teq (hm : (p4 &&& (1 : Int32)) = (0 : Int32))).1) (by decide) (by decide) ?_
      show Steps p.tables e below (s₁.setTop (mkF m 19 #[.val (.int p1), .val (.int p2), .val (.int p3), .val (.int p4), .unset, .unset, .unset, .unset, .unset, .unset, .unset, .unset, .unset, .unset, .unset, .unset, .unset, .unset, .unset, .unset, .unset, .unset] [])) _
      refine XS.iloadN X0.here hx rfl (hb hby at_19) rfl ?_
      show Steps p.tables e below (s₁.setTop (mkF m 20 #[.val (.int p1), .val (.int p2), .val (.int p3), .val (.int p4), .unset, .unset, .unset, .unset, .unset, .unset, .unset, .unset, .unset, .unset, .unset, .unset, .unset, .unset, .unset, .unset, .unset, .unset] [(.int p1)])) _
      refine X0.ldcInt hx hown (mvT hZ (hw _ (List.mem_of_getElem? (i := 30) rfl))) (g := (mkF m 20 #[.val (.int p1), .val (.int p2), .val (.int p3), .val (.int p4), .unset, .unset, .unset, .unset, .unset, .unset, .unset, .unset, .unset, .unset, .unset, .unset, .unset, .unset, .unset, .unset, .unset, .unset] [(.int p1)])) rfl (hb hby at_20) _ ?_
      show Steps p.tables e below (s₁.setTop (mkF m 22 #[.val (.int p1), .val (.int p2), .val (.int p3), .val (.int p4), .unset, .unset, .unset, .unset, .unset, .unset, .unset, .unset, .unset, .unset, .unset, .unset, .unset, .unset, .unset, .unset, .unset, .unset] [(.int (2147483647 : Int32)), (.int p1)])) _
      refine XS.iand X0.here hx rfl (hb hby at_22) rfl ?_
      show Steps p.tables e below (s₁.setTop (mkF m 23 #[.val (.int p1), .val (.int p2), .val (.int p3), .val (.int p4), .unset, .unset, .unset, .unset, .unset, .unset, .unset, .unset, .unset, .unset, .unset, .unset, .unset, .unset, .unset, .unset, .unset, .unset] [(.int (p1 &&& (2147483647 : Int32)))])) _
      refine XS.istore X0.here hx rfl (hb hby at_23) rfl (l' := #[.val (.int p1), .val (.int p2), .val (.int p3), .val (.int p4), .val (.int (p1 &&& (2147483647 : Int32))), .unset, .unset, .unset, .unset, .unset, .unset, .unset, .unset, .unset, .unset, .unset, .unset, .unset, .unset, .unset, .unset, .unset]) rfl ?_
      show Steps p.tables e below (s₁.setTop (mkF m 25 #[.val (.int p1), .val (.int p2), .val (.int p3), .val (.int p4), .val (.int (p1 &&& (2147483647 : Int32))), .unset, .unset, .unset, .unset, .unset, .unset, .unset, .unset, .unset, .unset, .unset, .unset, .unset, .unset, .unset, .unset, .unset] [])) _
      refine XS.iloadN X0.here hx rfl (hb hby at_25) rfl ?_
      show Steps p.tables e below (s₁.setTop (mkF m 26 #[.val (.int p1), .val (.int p2), .val (.int p3), .val (.int p4), .val (.int (p1 &&& (2147483647 : Int32))), .unset, .unset, .unset, .unset, .unset, .unset, .unset, .unset, .unset, .unset, .unset, .unset, .unset, .unset, .unset, .unset, .unset] [(.int p2)])) _
      refine X0.ldcInt hx hown (mvT hZ (hw _ (List.mem_of_getElem? (i := 30) rfl))) (g := (mkF m 26 #[.val (.int p1), .val (.int p2), .val (.int p3), .val (.int p4), .val (.int (p1 &&& (2147483647 : Int32))), .unset, .unset, .unset, .unset, .unset, .unset, .unset, .unset, .unset, .unset, .unset, .unset, .unset, .unset, .unset, .unset, .unset] [(.int p2)])) rfl (hb hby at_26) _ ?_
      show Steps p.tables e below (s₁.setTop (mkF m 28 #[.val (.int p1), .val (.int p2), .val (.int p3), .val (.int p4), .val (.int (p1 &&& (2147483647 : Int32))), .unset, .unset, .unset, .unset, .unset, .unset, .unset, .unset, .unset, .unset, .unset, .unset, .unset, .unset, .unset, .unset, .unset] [(.int (2147483647 : Int32)), (.int p2)])) _
      refine XS.iand X0.here hx rfl (hb hby at_28) rfl ?_
      show Steps p.tables e below (s₁.setTop (mkF m 29 #[.val (.int p1), .val (.int p2), .val (.int p3), .val (.int p4), .val (.int (p1 &&& (2147483647 : Int32))), .unset, .unset, .unset, .unset, .unset, .unset, .unset, .unset, .unset, .unset, .unset, .unset, .unset, .unset, .unset, .unset, .unset] [(.int (p2 &&& (2147483647 : Int32)))])) _
      refine XS.istore X0.here hx rfl (hb hby at_29) rfl (l' := #[.val (.int p1), .val (.int p2), .val (.int p3), .val (.int p4), .val (.int (p1 &&& (2147483647 : Int32))), .val (.int (p2 &&& (2147483647 : Int32))), .unset, .unset, .unset, .unset, .unset, .unset, .unset, .unset, .unset, .unset, .unset, .unset, .unset, .unset, .unset, .unset]) rfl ?_
      exact kt
    · refine ⟨(p1 &&& (3 : Int32)), (p2 &&& (3 : Int32)), own_mask3 p1, own_mask3 p2, ?_⟩
      intro t kt
      show Steps p.tables e below (s₁.setTop (mkF m 0 #[.val (.int p1), .val (.int p2), .val (.int p3), .val (.int p4), .unset, .unset, .unset, .unset, .unset, .unset, .unset, .unset, .unset, .unset, .unset, .unset, .unset, .unset, .unset, .unset, .unset, .unset] [])) _
      refine XS.iloadN X0.here hx rfl (hb hby at_0) rfl ?_
      show Steps p.tables e below (s₁.setTop (mkF m 1 #[.val (.int p1), .val (.int p2), .val (.int p3), .val (.int p4), .unset, .unset, .unset, .unset, .unset, .unset, .unset, .unset, .unset, .unset, .unset, .unset, .unset, .unset, .unset, .unset, .unset, .unset] [(.int p4)])) _
      refine XS.iconst X0.here hx rfl (hb hby at_1) ?_
      show Steps p.tables e below (s₁.setTop (mkF m 2 #[.val (.int p1), .val (.int p2), .val (.int p3), .val (.int p4), .unset, .unset, .unset, .unset, .unset, .unset, .unset, .unset, .unset, .unset, .unset, .unset, .unset, .unset, .unset, .unset, .unset, .unset] [(.int (1 : Int32)), (.int p4)])) _
      refine XS.iand X0.here hx rfl (hb hby at_2) rfl ?_
      show Steps p.tables e below (s₁.setTop (mkF m 3 #[.val (.int p1), .val (.int p2), .val (.int p3), .val (.int p4), .unset, .unset, .unset, .unset, .unset, .unset, .unset, .unset, .unset, .unset, .unset, .unset, .unset, .unset, .unset, .unset, .unset, .unset] [(.int (p4 &&& (1 : Int32)))])) _
      refine XS.ifNo X0.here hx rfl (hb hby at_3) rfl ((if0 _ _).trans (feq (hm : ¬ ((p4 &&& (1 : Int32)) = (0 : Int32)))).1) ?_
      show Steps p.tables e below (s₁.setTop (mkF m 6 #[.val (.int p1), .val (.int p2), .val (.int p3), .val (.int p4), .unset, .unset, .unset, .unset, .unset, .unset, .unset, .unset, .unset, .unset, .unset, .unset, .unset, .unset, .unset, .unset, .unset, .unset] [])) _
      refine XS.iloadN X0.here hx rfl (hb hby at_6) rfl ?_
      show Steps p.tables e below (s₁.setTop (mkF m 7 #[.val (.int p1), .val (.int p2), .val (.int p3), .val (.int p4), .unset, .unset, .unset, .unset, .unset, .unset, .unset, .unset, .unset, .unset, .unset, .unset, .unset, .unset, .unset, .unset, .unset, .unset] [(.int p1)])) _
      refine XS.iconst X0.here hx rfl (hb hby at_7) ?_
      show Steps p.tables e below (s₁.setTop (mkF m 8 #[.val (.int p1), .val (.int p2), .val (.int p3), .val (.int p4), .unset, .unset, .unset, .unset, .unset, .unset, .unset, .unset, .unset, .unset, .unset, .unset, .unset, .unset, .unset, .unset, .unset, .unset] [(.int (3 : Int32)), (.int p1)])) _
      refine XS.iand X0.here hx rfl (hb hby at_8) rfl ?_
      show Steps p.tables e below (s₁.setTop (mkF m 9 #[.val (.int p1), .val (.int p2), .val (.int p3), .val (.int p4), .unset, .unset, .unset, .unset, .unset, .unset, .unset, .unset, .unset, .unset, .unset, .unset, .unset, .unset, .unset, .unset, .unset, .unset] [(.int (p1 &&& (3 : Int32)))])) _
      refine XS.istore X0.here hx rfl (hb hby at_9) rfl (l' := #[.val (.int p1), .val (.int p2), .val (.int p3), .val (.int p4), .val (.int (p1 &&& (3 : Int32))), .unset, .unset, .unset, .unset, .unset, .unset, .unset, .unset, .unset, .unset, .unset, .unset, .unset, .unset, .unset, .unset, .unset]) rfl ?_
      show Steps p.tables e below (s₁.setTop (mkF m 11 #[.val (.int p1), .val (.int p2), .val (.int p3), .val (.int p4), .val (.int (p1 &&& (3 : Int32))), .unset, .unset, .unset, .unset, .unset, .unset, .unset, .unset, .unset, .unset, .unset, .unset, .unset, .unset, .unset, .unset, .unset] [])) _
      refine XS.iloadN X0.here hx rfl (hb hby at_11) rfl ?_
      show Steps p.tables e below (s₁.setTop (mkF m 12 #[.val (.int p1), .val (.int p2), .val (.int p3), .val (.int p4), .val (.int (p1 &&& (3 : Int32))), .unset, .unset, .unset, .unset, .unset, .unset, .unset, .unset, .unset, .unset, .unset, .unset, .unset, .unset, .unset, .unset, .unset] [(.int p2)])) _
      refine XS.iconst X0.here hx rfl (hb hby at_12) ?_
      show Steps p.tables e below (s₁.setTop (mkF m 13 #[.val (.int p1), .val (.int p2), .val (.int p3), .val (.int p4), .val (.int (p1 &&& (3 : Int32))), .unset, .unset, .unset, .unset, .unset, .unset, .unset, .unset, .unset, .unset, .unset, .unset, .unset, .unset, .unset, .unset, .unset] [(.int (3 : Int32)), (.int p2)])) _
      refine XS.iand X0.here hx rfl (hb hby at_13) rfl ?_
      show Steps p.tables e below (s₁.setTop (mkF m 14 #[.val (.int p1), .val (.int p2), .val (.int p3), .val (.int p4), .val (.int (p1 &&& (3 : Int32))), .unset, .unset, .unset, .unset, .unset, .unset, .unset, .unset, .unset, .unset, .unset, .unset, .unset, .unset, .unset, .unset, .unset] [(.int (p2 &&& (3 : Int32)))])) _
      refine XS.istore X0.here hx rfl (hb hby at_14) rfl (l' := #[.val (.int p1), .val (.int p2), .val (.int p3), .val (.int p4), .val (.int (p1 &&& (3 : Int32))), .val (.int (p2 &&& (3 : Int32))), .unset, .unset, .unset, .unset, .unset, .unset, .unset, .unset, .unset, .unset, .unset, .unset, .unset, .unset, .unset, .unset]) rfl ?_
      show Steps p.tables e below (s₁.setTop (mkF m 16 #[.val (.int p1), .val (.int p2), .val (.int p3), .val (.int p4), .val (.int (p1 &&& (3 : Int32))), .val (.int (p2 &&& (3 : Int32))), .unset, .unset, .unset, .unset, .unset, .unset, .unset, .unset, .unset, .unset, .unset, .unset, .unset, .unset, .unset, .unset] [])) _
      refine XS.goto X0.here hx rfl (pc0 := 16) (pc' := 31) rfl (hb hby at_16) (by decide) (by decide) ?_
      exact kt
  refine Go.adv sgA ?_
  show Go p.tables e below s _ _ _ (s₁.setTop (mkF m 31 #[.val (.int p1), .val (.int p2), .val (.int p3), .val (.int p4), .val (.int gg), .val (.int ss), .unset, .unset, .unset, .unset, .unset, .unset, .unset, .unset, .unset, .unset, .unset, .unset, .unset, .unset, .unset, .unset] []))
  have sg3 : ∀ t, Steps p.tables e below (s₁.setTop (mkF m 35 #[.val (.int p1), .val (.int p2), .val (.int p3), .val (.int p4), .val (.int gg), .val (.int ss), .unset, .unset, .unset, .unset, .unset, .unset, .unset, .unset, .unset, .unset, .unset, .unset, .unset, .unset, .unset, .unset] [(.int ss), (.int gg)])) t → Steps p.tables e below (s₁.setTop (mkF m 31 #[.val (.int p1), .val (.int p2), .val (.int p3), .val (.int p4), .val (.int gg), .val (.int ss), .unset, .unset, .unset, .unset, .unset, .unset, .unset, .unset, .unset, .unset, .unset, .unset, .unset, .unset, .unset, .unset] [])) t := by
    intro t kt
    show Steps p.tables e below (s₁.setTop (mkF m 31 #[.val (.int p1), .val (.int p2), .val (.int p3), .val (.int p4), .val (.int gg), .val (.int ss), .unset, .unset, .unset, .unset, .unset, .unset, .unset, .unset, .unset, .unset, .unset, .unset, .unset, .unset, .unset, .unset] [])) _
    refine XS.iload X0.here hx rfl (hb hby at_31) rfl ?_
    show Steps p.tables e below (s₁.setTop (mkF m 33 #[.val (.int p1), .val (.int p2), .val (.int p3), .val (.int p4), .val (.int gg), .val (.int ss), .unset, .unset, .unset, .unset, .unset, .unset, .unset, .unset, .unset, .unset, .unset, .unset, .unset, .unset, .unset, .unset] [(.int gg)])) _
    refine XS.iload X0.here hx rfl (hb hby at_33) rfl ?_
    exact kt
  refine Go.adv sg3 ?_
  obtain ⟨_, _, ⟨T4, L4, k4, n4⟩, -, X4, ⟨Lc4, hQ4, l4, y4, z4⟩, st4⟩ := Jvm.LawKit.callS X0 hx (y := (⟨"java/lang/Math", "min", "(II)I"⟩ : MethodName)) hown (mvT hZ (hw _ (List.mem_of_getElem? (i := 0) rfl))) (mvT hZ (hw _ (List.mem_of_getElem? (i := 1) rfl))) (mvT hZ (hw _ (List.mem_of_getElem? (i := 2) rfl))) (mvT hZ (hw _ (List.mem_of_getElem? (i := 3) rfl))) (by decide) (backOf (W := 0) (rm_min l Z a0 hw [] gg ss  h0 n0 Z0 ) hZ (hw _ (List.mem_of_getElem? (i := 3) rfl)) (hw _ (List.mem_of_getElem? (i := 2) rfl)) (by decide) (by decide)) (g := (mkF m 35 #[.val (.int p1), .val (.int p2), .val (.int p3), .val (.int p4), .val (.int gg), .val (.int ss), .unset, .unset, .unset, .unset, .unset, .unset, .unset, .unset, .unset, .unset, .unset, .unset, .unset, .unset, .unset, .unset] [(.int ss), (.int gg)])) rfl (by rw [hml]; rfl) (argsL := [(.int gg), (.int ss)]) (rest := []) (lenOf pd_oIIcI rfl) rfl (by show 2 * 0 + _ ≤ _; exact Nat.le_of_eq rfl) (hb hby at_35) (fun _ _ => ⟨rfl, e0, (by decide : 0 + 0 ≤ _), (by decide : 0 + 0 ≤ _)⟩)
  dsimp only [Pt.U, Pt.locs, Pt.cells, Pt.slots] at X4 l4 y4 z4 st4 hQ4
  subst l4 y4 z4
  obtain ⟨rfl, N4q, e4⟩ := hQ4
  have N4 := Fr.app N0 N4q
  refine Go.adv st4 ?_
  show Go p.tables e below s _ _ _ (T4.setTop (mkF m 38 #[.val (.int p1), .val (.int p2), .val (.int p3), .val (.int p4), .val (.int gg), .val (.int ss), .unset, .unset, .unset, .unset, .unset, .unset, .unset, .unset, .unset, .unset, .unset, .unset, .unset, .unset, .unset, .unset] [(.int (own_min gg ss))]))
  have hmn := own_min_le gg ss hg0 hs0
  generalize h_mn : (own_min gg ss) = mn
  show Go p.tables e below s _ _ _ (T4.setTop (mkF m 38 #[.val (.int p1), .val (.int p2), .val (.int p3), .val (.int p4), .val (.int gg), .val (.int ss), .unset, .unset, .unset, .unset, .unset, .unset, .unset, .unset, .unset, .unset, .unset, .unset, .unset, .unset, .unset, .unset] [(.int mn)]))
  rw [h_mn] at hmn
  have hk0 : 0 ≤ ((p3.toInt64) &&& (2147483647 : Int64)).toInt := by rw [Kit.i64_mask _ 2147483647 (k := 31) (by decide) (by decide)]; omega
  have hcr := own_rest (x := ((p3.toInt64) &&& (2147483647 : Int64))) (mm := mn) hk0 hmn.1
  have sg5 : ∀ t, Steps p.tables e below (T4.setTop (mkF m 55 #[.val (.int p1), .val (.int p2), .val (.int p3), .val (.int p4), .val (.int gg), .val (.int ss), .val (.long ((mn.toInt64) + (1 : Int64))), .second, .val (.int ((((p3.toInt64) &&& (2147483647 : Int64)) - (((p3.toInt64) &&& (2147483647 : Int64)) / ((mn.toInt64) + (1 : Int64))) * ((mn.toInt64) + (1 : Int64))).toInt32)), .unset, .unset, .unset, .unset, .unset, .unset, .unset, .unset, .unset, .unset, .unset, .unset, .unset] [])) t → Steps p.tables e below (T4.setTop (mkF m 38 #[.val (.int p1), .val (.int p2), .val (.int p3), .val (.int p4), .val (.int gg), .val (.int ss), .unset, .unset, .unset, .unset, .unset, .unset, .unset, .unset, .unset, .unset, .unset, .unset, .unset, .unset, .unset, .unset] [(.int mn)])) t := by
    intro t kt
    show Steps p.tables e below (T4.setTop (mkF m 38 #[.val (.int p1), .val (.int p2), .val (.int p3), .val (.int p4), .val (.int gg), .val (.int ss), .unset, .unset, .unset, .unset, .unset, .unset, .unset, .unset, .unset, .unset, .unset, .unset, .unset, .unset, .unset, .unset] [(.int mn)])) _
    refine XS.i2l X4.here hx rfl (hb hby at_38) rfl ?_
    show Steps p.tables e below (T4.setTop (mkF m 39 #[.val (.int p1), .val (.int p2), .val (.int p3), .val (.int p4), .val (.int gg), .val (.int ss), .unset, .unset, .unset, .unset, .unset, .unset, .unset, .unset, .unset, .unset, .unset, .unset, .unset, .unset, .unset, .unset] [(.long (mn.toInt64))])) _
    refine XS.lconst X4.here hx rfl (hb hby at_39) ?_
    show Steps p.tables e below (T4.setTop (mkF m 40 #[.val (.int p1), .val (.int p2), .val (.int p3), .val (.int p4), .val (.int gg), .val (.int ss), .unset, .unset, .unset, .unset, .unset, .unset, .unset, .unset, .unset, .unset, .unset, .unset, .unset, .unset, .unset, .unset] [(.long (1 : Int64)), (.long (mn.toInt64))])) _
    refine XS.ladd X4.here hx rfl (hb hby at_40) rfl ?_
    show Steps p.tables e below (T4.setTop (mkF m 41 #[.val (.int p1), .val (.int p2), .val (.int p3), .val (.int p4), .val (.int gg), .val (.int ss), .unset, .unset, .unset, .unset, .unset, .unset, .unset, .unset, .unset, .unset, .unset, .unset, .unset, .unset, .unset, .unset] [(.long ((mn.toInt64) + (1 : Int64)))])) _
    refine XS.lstore X4.here hx rfl (hb hby at_41) rfl (l' := #[.val (.int p1), .val (.int p2), .val (.int p3), .val (.int p4), .val (.int gg), .val (.int ss), .val (.long ((mn.toInt64) + (1 : Int64))), .second, .unset, .unset, .unset, .unset, .unset, .unset, .unset, .unset, .unset, .unset, .unset, .unset, .unset, .unset]) rfl ?_
    show Steps p.tables e below (T4.setTop (mkF m 43 #[.val (.int p1), .val (.int p2), .val (.int p3), .val (.int p4), .val (.int gg), .val (.int ss), .val (.long ((mn.toInt64) + (1 : Int64))), .second, .unset, .unset, .unset, .unset, .unset, .unset, .unset, .unset, .unset, .unset, .unset, .unset, .unset, .unset] [])) _
    refine XS.iloadN X4.here hx rfl (hb hby at_43) rfl ?_
    show Steps p.tables e below (T4.setTop (mkF m 44 #[.val (.int p1), .val (.int p2), .val (.int p3), .val (.int p4), .val (.int gg), .val (.int ss), .val (.long ((mn.toInt64) + (1 : Int64))), .second, .unset, .unset, .unset, .unset, .unset, .unset, .unset, .unset, .unset, .unset, .unset, .unset, .unset, .unset] [(.int p3)])) _
    refine XS.i2l X4.here hx rfl (hb hby at_44) rfl ?_
    show Steps p.tables e below (T4.setTop (mkF m 45 #[.val (.int p1), .val (.int p2), .val (.int p3), .val (.int p4), .val (.int gg), .val (.int ss), .val (.long ((mn.toInt64) + (1 : Int64))), .second, .unset, .unset, .unset, .unset, .unset, .unset, .unset, .unset, .unset, .unset, .unset, .unset, .unset, .unset] [(.long (p3.toInt64))])) _
    refine X4.ldc2Long hx hown (mvT hZ (hw _ (List.mem_of_getElem? (i := 4) rfl))) (g := (mkF m 45 #[.val (.int p1), .val (.int p2), .val (.int p3), .val (.int p4), .val (.int gg), .val (.int ss), .val (.long ((mn.toInt64) + (1 : Int64))), .second, .unset, .unset, .unset, .unset, .unset, .unset, .unset, .unset, .unset, .unset, .unset, .unset, .unset, .unset] [(.long (p3.toInt64))])) rfl (hb hby at_45) _ ?_
    show Steps p.tables e below (T4.setTop (mkF m 48 #[.val (.int p1), .val (.int p2), .val (.int p3), .val (.int p4), .val (.int gg), .val (.int ss), .val (.long ((mn.toInt64) + (1 : Int64))), .second, .unset, .unset, .unset, .unset, .unset, .unset, .unset, .unset, .unset, .unset, .unset, .unset, .unset, .unset] [(.long (2147483647 : Int64)), (.long (p3.toInt64))])) _
    refine XS.land X4.here hx rfl (hb hby at_48) rfl ?_
    show Steps p.tables e below (T4.setTop (mkF m 49 #[.val (.int p1), .val (.int p2), .val (.int p3), .val (.int p4), .val (.int gg), .val (.int ss), .val (.long ((mn.toInt64) + (1 : Int64))), .second, .unset, .unset, .unset, .unset, .unset, .unset, .unset, .unset, .unset, .unset, .unset, .unset, .unset, .unset] [(.long ((p3.toInt64) &&& (2147483647 : Int64)))])) _
    refine XS.lload X4.here hx rfl (hb hby at_49) rfl ?_
    show Steps p.tables e below (T4.setTop (mkF m 51 #[.val (.int p1), .val (.int p2), .val (.int p3), .val (.int p4), .val (.int gg), .val (.int ss), .val (.long ((mn.toInt64) + (1 : Int64))), .second, .unset, .unset, .unset, .unset, .unset, .unset, .unset, .unset, .unset, .unset, .unset, .unset, .unset, .unset] [(.long ((mn.toInt64) + (1 : Int64))), (.long ((p3.toInt64) &&& (2147483647 : Int64)))])) _
    refine XS.lrem X4.here hx rfl (hb hby at_51) rfl hcr.2.2 ?_
    show Steps p.tables e below (T4.setTop (mkF m 52 #[.val (.int p1), .val (.int p2), .val (.int p3), .val (.int p4), .val (.int gg), .val (.int ss), .val (.long ((mn.toInt64) + (1 : Int64))), .second, .unset, .unset, .unset, .unset, .unset, .unset, .unset, .unset, .unset, .unset, .unset, .unset, .unset, .unset] [(.long (((p3.toInt64) &&& (2147483647 : Int64)) - (((p3.toInt64) &&& (2147483647 : Int64)) / ((mn.toInt64) + (1 : Int64))) * ((mn.toInt64) + (1 : Int64))))])) _
    refine XS.l2i X4.here hx rfl (hb hby at_52) rfl ?_
    show Steps p.tables e below (T4.setTop (mkF m 53 #[.val (.int p1), .val (.int p2), .val (.int p3), .val (.int p4), .val (.int gg), .val (.int ss), .val (.long ((mn.toInt64) + (1 : Int64))), .second, .unset, .unset, .unset, .unset, .unset, .unset, .unset, .unset, .unset, .unset, .unset, .unset, .unset, .unset] [(.int ((((p3.toInt64) &&& (2147483647 : Int64)) - (((p3.toInt64) &&& (2147483647 : Int64)) / ((mn.toInt64) + (1 : Int64))) * ((mn.toInt64) + (1 : Int64))).toInt32))])) _
    refine XS.istore X4.here hx rfl (hb hby at_53) rfl (l' := #[.val (.int p1), .val (.int p2), .val (.int p3), .val (.int p4), .val (.int gg), .val (.int ss), .val (.long ((mn.toInt64) + (1 : Int64))), .second, .val (.int ((((p3.toInt64) &&& (2147483647 : Int64)) - (((p3.toInt64) &&& (2147483647 : Int64)) / ((mn.toInt64) + (1 : Int64))) * ((mn.toInt64) + (1 : Int64))).toInt32)), .unset, .unset, .unset, .unset, .unset, .unset, .unset, .unset, .unset, .unset, .unset, .unset, .unset]) rfl ?_
    exact kt
  refine Go.adv sg5 ?_
  generalize h_cc : ((((p3.toInt64) &&& (2147483647 : Int64)) - (((p3.toInt64) &&& (2147483647 : Int64)) / ((mn.toInt64) + (1 : Int64))) * ((mn.toInt64) + (1 : Int64))).toInt32) = cc
  show Go p.tables e below s _ _ _ (T4.setTop (mkF m 55 #[.val (.int p1), .val (.int p2), .val (.int p3), .val (.int p4), .val (.int gg), .val (.int ss), .val (.long ((mn.toInt64) + (1 : Int64))), .second, .val (.int cc), .unset, .unset, .unset, .unset, .unset, .unset, .unset, .unset, .unset, .unset, .unset, .unset, .unset] []))
  rw [h_cc] at hcr
  have hC : OwnCnt gg ss cc := ⟨hcr.1, Int.le_trans hcr.2.1 hmn.2.1, Int.le_trans hcr.2.1 hmn.2.2⟩
  have hC' : OwnCnt ss gg cc := hC.swap
  obtain ⟨T6, h6, X6, e6, E6, A6, D6, -, st6⟩ := newO X4 hx hZ hown (hw _ (List.mem_of_getElem? (i := 5) rfl)) (hw _ (List.mem_of_getElem? (i := 6) rfl)) (hw _ (List.mem_of_getElem? (i := 7) rfl)) e4 (g := (mkF m 55 #[.val (.int p1), .val (.int p2), .val (.int p3), .val (.int p4), .val (.int gg), .val (.int ss), .val (.long ((mn.toInt64) + (1 : Int64))), .second, .val (.int cc), .unset, .unset, .unset, .unset, .unset, .unset, .unset, .unset, .unset, .unset, .unset, .unset, .unset] [])) rfl (hb hby at_55) (by decide) (by decide)
  obtain ⟨b6, gb6⟩ : ∃ z, z = h0.size := ⟨_, rfl⟩
  rw [← gb6] at A6 D6 st6
  have g_b6 : n0 ≤ b6 := Nat.le_trans Z0 (Nat.le_of_eq gb6.symm)
  have sz_b6 : h0.size ≤ b6 := Nat.le_trans (Keep.refl h0 []).1 (Nat.le_of_eq gb6.symm)
  have K6 : Keep h0 h6 [] := (Keep.refl h0 []).ext E6
  have Z6 : n0 ≤ h6.size := Nat.le_trans Z0 E6.1
  have F_gold_b6 : Fld Z h6 b6 "com/example/tally/tally/score/QuestionScore" "gold" "I" (.int (0 : Int32)) := D6 (Or.inr (hw _ (List.mem_of_getElem? (i := 20) rfl))) (ty := .int) (by decide)
  have F_system_b6 : Fld Z h6 b6 "com/example/tally/tally/score/QuestionScore" "system" "I" (.int (0 : Int32)) := D6 (Or.inr (hw _ (List.mem_of_getElem? (i := 22) rfl))) (ty := .int) (by decide)
  have F_correct_b6 : Fld Z h6 b6 "com/example/tally/tally/score/QuestionScore" "correct" "I" (.int (0 : Int32)) := D6 (Or.inr (hw _ (List.mem_of_getElem? (i := 24) rfl))) (ty := .int) (by decide)
  refine Go.adv st6 ?_
  show Go p.tables e below s _ _ _ (T6.setTop (mkF m 58 #[.val (.int p1), .val (.int p2), .val (.int p3), .val (.int p4), .val (.int gg), .val (.int ss), .val (.long ((mn.toInt64) + (1 : Int64))), .second, .val (.int cc), .unset, .unset, .unset, .unset, .unset, .unset, .unset, .unset, .unset, .unset, .unset, .unset, .unset] [(.ref b6)]))
  have sg7 : ∀ t, Steps p.tables e below (T6.setTop (mkF m 65 #[.val (.int p1), .val (.int p2), .val (.int p3), .val (.int p4), .val (.int gg), .val (.int ss), .val (.long ((mn.toInt64) + (1 : Int64))), .second, .val (.int cc), .unset, .unset, .unset, .unset, .unset, .unset, .unset, .unset, .unset, .unset, .unset, .unset, .unset] [(.int cc), (.int ss), (.int gg), (.ref b6), (.ref b6)])) t → Steps p.tables e below (T6.setTop (mkF m 58 #[.val (.int p1), .val (.int p2), .val (.int p3), .val (.int p4), .val (.int gg), .val (.int ss), .val (.long ((mn.toInt64) + (1 : Int64))), .second, .val (.int cc), .unset, .unset, .unset, .unset, .unset, .unset, .unset, .unset, .unset, .unset, .unset, .unset, .unset] [(.ref b6)])) t := by
    intro t kt
    show Steps p.tables e below (T6.setTop (mkF m 58 #[.val (.int p1), .val (.int p2), .val (.int p3), .val (.int p4), .val (.int gg), .val (.int ss), .val (.long ((mn.toInt64) + (1 : Int64))), .second, .val (.int cc), .unset, .unset, .unset, .unset, .unset, .unset, .unset, .unset, .unset, .unset, .unset, .unset, .unset] [(.ref b6)])) _
    refine XS.dup X6.here hx rfl (hb hby at_58) rfl rfl ?_
    show Steps p.tables e below (T6.setTop (mkF m 59 #[.val (.int p1), .val (.int p2), .val (.int p3), .val (.int p4), .val (.int gg), .val (.int ss), .val (.long ((mn.toInt64) + (1 : Int64))), .second, .val (.int cc), .unset, .unset, .unset, .unset, .unset, .unset, .unset, .unset, .unset, .unset, .unset, .unset, .unset] [(.ref b6), (.ref b6)])) _
    refine XS.iload X6.here hx rfl (hb hby at_59) rfl ?_
    show Steps p.tables e below (T6.setTop (mkF m 61 #[.val (.int p1), .val (.int p2), .val (.int p3), .val (.int p4), .val (.int gg), .val (.int ss), .val (.long ((mn.toInt64) + (1 : Int64))), .second, .val (.int cc), .unset, .unset, .unset, .unset, .unset, .unset, .unset, .unset, .unset, .unset, .unset, .unset, .unset] [(.int gg), (.ref b6), (.ref b6)])) _
    refine XS.iload X6.here hx rfl (hb hby at_61) rfl ?_
    show Steps p.tables e below (T6.setTop (mkF m 63 #[.val (.int p1), .val (.int p2), .val (.int p3), .val (.int p4), .val (.int gg), .val (.int ss), .val (.long ((mn.toInt64) + (1 : Int64))), .second, .val (.int cc), .unset, .unset, .unset, .unset, .unset, .unset, .unset, .unset, .unset, .unset, .unset, .unset, .unset] [(.int ss), (.int gg), (.ref b6), (.ref b6)])) _
    refine XS.iload X6.here hx rfl (hb hby at_63) rfl ?_
    exact kt
  refine Go.adv sg7 ?_
  obtain ⟨_, _, ⟨T8, L8, k8, n8⟩, -, X8, ⟨Lc8, hQ8, l8, y8, z8⟩, st8⟩ := X6.specialBack hx (y := (⟨"com/example/tally/tally/score/QuestionScore", "<init>", "(III)V"⟩ : MethodName)) rfl hown (mvT hZ (hw _ (List.mem_of_getElem? (i := 8) rfl))) (mvT hZ (hw _ (List.mem_of_getElem? (i := 9) rfl))) (mvT hZ (hw _ (List.mem_of_getElem? (i := 10) rfl))) (by decide) (backOf (W := 1) (rm_init l Z a0 hw [] b6 gg ss cc (.int (0 : Int32)) (.int (0 : Int32)) (.int (0 : Int32)) h6 n0 Z6 A6 g_b6 F_gold_b6 F_system_b6 F_correct_b6 (by assumption)) hZ (hw _ (List.mem_of_getElem? (i := 10) rfl)) (hw _ (List.mem_of_getElem? (i := 7) rfl)) (by decide) (by decide)) (g := (mkF m 65 #[.val (.int p1), .val (.int p2), .val (.int p3), .val (.int p4), .val (.int gg), .val (.int ss), .val (.long ((mn.toInt64) + (1 : Int64))), .second, .val (.int cc), .unset, .unset, .unset, .unset, .unset, .unset, .unset, .unset, .unset, .unset, .unset, .unset, .unset] [(.int cc), (.int ss), (.int gg), (.ref b6), (.ref b6)])) rfl (by rw [hml]; rfl) (Steps.refl _) (a := b6) (argsL := [(.int gg), (.int ss), (.int cc)]) (rest := [(.ref b6)]) (lenOf pd_oIIIcV rfl) rfl (by show 2 * 0 + _ ≤ _; exact Nat.le_of_eq rfl) (hb hby at_65) (fun _ _ => ⟨rfl, e6, (by decide : 1 + 0 ≤ _), (by decide : 3 + 0 ≤ _)⟩)
  dsimp only [Pt.U, Pt.locs, Pt.cells, Pt.slots] at X8 l8 y8 z8 st8 hQ8
  subst l8 y8 z8
  obtain ⟨rfl, N8q, Kc8, p8_0, p8_1, p8_2, p8_3⟩ := hQ8
  have N8 := Fr.app N4 N8q
  have K8 : Keep h0 T8.heap [] := K6.trans Kc8 (allS (Or.inr sz_b6) all0)
  have Z8 : n0 ≤ T8.heap.size := Nat.le_trans Z6 Kc8.1
  refine Go.tr st8 ?_
  show Go p.tables e below s _ _ _ (T8.setTop (mkF m 68 #[.val (.int p1), .val (.int p2), .val (.int p3), .val (.int p4), .val (.int gg), .val (.int ss), .val (.long ((mn.toInt64) + (1 : Int64))), .second, .val (.int cc), .unset, .unset, .unset, .unset, .unset, .unset, .unset, .unset, .unset, .unset, .unset, .unset, .unset] [(.ref b6)]))
  have sg9 : ∀ t, Steps p.tables e below (T8.setTop (mkF m 70 #[.val (.int p1), .val (.int p2), .val (.int p3), .val (.int p4), .val (.int gg), .val (.int ss), .val (.long ((mn.toInt64) + (1 : Int64))), .second, .val (.int cc), .val (.ref b6), .unset, .unset, .unset, .unset, .unset, .unset, .unset, .unset, .unset, .unset, .unset, .unset] [])) t → Steps p.tables e below (T8.setTop (mkF m 68 #[.val (.int p1), .val (.int p2), .val (.int p3), .val (.int p4), .val (.int gg), .val (.int ss), .val (.long ((mn.toInt64) + (1 : Int64))), .second, .val (.int cc), .unset, .unset, .unset, .unset, .unset, .unset, .unset, .unset, .unset, .unset, .unset, .unset, .unset] [(.ref b6)])) t := by
    intro t kt
    show Steps p.tables e below (T8.setTop (mkF m 68 #[.val (.int p1), .val (.int p2), .val (.int p3), .val (.int p4), .val (.int gg), .val (.int ss), .val (.long ((mn.toInt64) + (1 : Int64))), .second, .val (.int cc), .unset, .unset, .unset, .unset, .unset, .unset, .unset, .unset, .unset, .unset, .unset, .unset, .unset] [(.ref b6)])) _
    refine XS.astore X8.here hx rfl (hb hby at_68) rfl rfl (l' := #[.val (.int p1), .val (.int p2), .val (.int p3), .val (.int p4), .val (.int gg), .val (.int ss), .val (.long ((mn.toInt64) + (1 : Int64))), .second, .val (.int cc), .val (.ref b6), .unset, .unset, .unset, .unset, .unset, .unset, .unset, .unset, .unset, .unset, .unset, .unset]) rfl ?_
    exact kt
  refine Go.adv sg9 ?_
  obtain ⟨T10, h10, X10, e10, E10, A10, D10, -, st10⟩ := newO X8 hx hZ hown (hw _ (List.mem_of_getElem? (i := 5) rfl)) (hw _ (List.mem_of_getElem? (i := 6) rfl)) (hw _ (List.mem_of_getElem? (i := 7) rfl)) rfl (g := (mkF m 70 #[.val (.int p1), .val (.int p2), .val (.int p3), .val (.int p4), .val (.int gg), .val (.int ss), .val (.long ((mn.toInt64) + (1 : Int64))), .second, .val (.int cc), .val (.ref b6), .unset, .unset, .unset, .unset, .unset, .unset, .unset, .unset, .unset, .unset, .unset, .unset] [])) rfl (hb hby at_70) (by decide) (by decide)
  obtain ⟨b10, gb10⟩ : ∃ z, z = T8.heap.size := ⟨_, rfl⟩
  rw [← gb10] at A10 D10 st10
  have g_b10 : n0 ≤ b10 := Nat.le_trans Z8 (Nat.le_of_eq gb10.symm)
  have sz_b10 : h0.size ≤ b10 := Nat.le_trans K8.1 (Nat.le_of_eq gb10.symm)
  have ne_b6_b10 : b6 ≠ b10 := Nat.ne_of_lt (Nat.lt_of_lt_of_le p8_0.lt (Nat.le_of_eq gb10.symm))
  have K10 : Keep h0 h10 [] := K8.ext E10
  have Z10 : n0 ≤ h10.size := Nat.le_trans Z8 E10.1
  have F_gold_b10 : Fld Z h10 b10 "com/example/tally/tally/score/QuestionScore" "gold" "I" (.int (0 : Int32)) := D10 (Or.inr (hw _ (List.mem_of_getElem? (i := 20) rfl))) (ty := .int) (by decide)
  have F_system_b10 : Fld Z h10 b10 "com/example/tally/tally/score/QuestionScore" "system" "I" (.int (0 : Int32)) := D10 (Or.inr (hw _ (List.mem_of_getElem? (i := 22) rfl))) (ty := .int) (by decide)
  have F_correct_b10 : Fld Z h10 b10 "com/example/tally/tally/score/QuestionScore" "correct" "I" (.int (0 : Int32)) := D10 (Or.inr (hw _ (List.mem_of_getElem? (i := 24) rfl))) (ty := .int) (by decide)
  refine Go.adv st10 ?_
  show Go p.tables e below s _ _ _ (T10.setTop (mkF m 73 #[.val (.int p1), .val (.int p2), .val (.int p3), .val (.int p4), .val (.int gg), .val (.int ss), .val (.long ((mn.toInt64) + (1 : Int64))), .second, .val (.int cc), .val (.ref b6), .unset, .unset, .unset, .unset, .unset, .unset, .unset, .unset, .unset, .unset, .unset, .unset] [(.ref b10)]))
  have sg11 : ∀ t, Steps p.tables e below (T10.setTop (mkF m 80 #[.val (.int p1), .val (.int p2), .val (.int p3), .val (.int p4), .val (.int gg), .val (.int ss), .val (.long ((mn.toInt64) + (1 : Int64))), .second, .val (.int cc), .val (.ref b6), .unset, .unset, .unset, .unset, .unset, .unset, .unset, .unset, .unset, .unset, .unset, .unset] [(.int cc), (.int gg), (.int ss), (.ref b10), (.ref b10)])) t → Steps p.tables e below (T10.setTop (mkF m 73 #[.val (.int p1), .val (.int p2), .val (.int p3), .val (.int p4), .val (.int gg), .val (.int ss), .val (.long ((mn.toInt64) + (1 : Int64))), .second, .val (.int cc), .val (.ref b6), .unset, .unset, .unset, .unset, .unset, .unset, .unset, .unset, .unset, .unset, .unset, .unset] [(.ref b10)])) t := by
    intro t kt
    show Steps p.tables e below (T10.setTop (mkF m 73 #[.val (.int p1), .val (.int p2), .val (.int p3), .val (.int p4), .val (.int gg), .val (.int ss), .val (.long ((mn.toInt64) + (1 : Int64))), .second, .val (.int cc), .val (.ref b6), .unset, .unset, .unset, .unset, .unset, .unset, .unset, .unset, .unset, .unset, .unset, .unset] [(.ref b10)])) _
    refine XS.dup X10.here hx rfl (hb hby at_73) rfl rfl ?_
    show Steps p.tables e below (T10.setTop (mkF m 74 #[.val (.int p1), .val (.int p2), .val (.int p3), .val (.int p4), .val (.int gg), .val (.int ss), .val (.long ((mn.toInt64) + (1 : Int64))), .second, .val (.int cc), .val (.ref b6), .unset, .unset, .unset, .unset, .unset, .unset, .unset, .unset, .unset, .unset, .unset, .unset] [(.ref b10), (.ref b10)])) _
    refine XS.iload X10.here hx rfl (hb hby at_74) rfl ?_
    show Steps p.tables e below (T10.setTop (mkF m 76 #[.val (.int p1), .val (.int p2), .val (.int p3), .val (.int p4), .val (.int gg), .val (.int ss), .val (.long ((mn.toInt64) + (1 : Int64))), .second, .val (.int cc), .val (.ref b6), .unset, .unset, .unset, .unset, .unset, .unset, .unset, .unset, .unset, .unset, .unset, .unset] [(.int ss), (.ref b10), (.ref b10)])) _
    refine XS.iload X10.here hx rfl (hb hby at_76) rfl ?_
    show Steps p.tables e below (T10.setTop (mkF m 78 #[.val (.int p1), .val (.int p2), .val (.int p3), .val (.int p4), .val (.int gg), .val (.int ss), .val (.long ((mn.toInt64) + (1 : Int64))), .second, .val (.int cc), .val (.ref b6), .unset, .unset, .unset, .unset, .unset, .unset, .unset, .unset, .unset, .unset, .unset, .unset] [(.int gg), (.int ss), (.ref b10), (.ref b10)])) _
    refine XS.iload X10.here hx rfl (hb hby at_78) rfl ?_
    exact kt
  refine Go.adv sg11 ?_
  obtain ⟨_, _, ⟨T12, L12, k12, n12⟩, -, X12, ⟨Lc12, hQ12, l12, y12, z12⟩, st12⟩ := X10.specialBack hx (y := (⟨"com/example/tally/tally/score/QuestionScore", "<init>", "(III)V"⟩ : MethodName)) rfl hown (mvT hZ (hw _ (List.mem_of_getElem? (i := 8) rfl))) (mvT hZ (hw _ (List.mem_of_getElem? (i := 9) rfl))) (mvT hZ (hw _ (List.mem_of_getElem? (i := 10) rfl))) (by decide) (backOf (W := 1) (rm_init l Z a0 hw [] b10 ss gg cc (.int (0 : Int32)) (.int (0 : Int32)) (.int (0 : Int32)) h10 n0 Z10 A10 g_b10 F_gold_b10 F_system_b10 F_correct_b10 (by assumption)) hZ (hw _ (List.mem_of_getElem? (i := 10) rfl)) (hw _ (List.mem_of_getElem? (i := 7) rfl)) (by decide) (by decide)) (g := (mkF m 80 #[.val (.int p1), .val (.int p2), .val (.int p3), .val (.int p4), .val (.int gg), .val (.int ss), .val (.long ((mn.toInt64) + (1 : Int64))), .second, .val (.int cc), .val (.ref b6), .unset, .unset, .unset, .unset, .unset, .unset, .unset, .unset, .unset, .unset, .unset, .unset] [(.int cc), (.int gg), (.int ss), (.ref b10), (.ref b10)])) rfl (by rw [hml]; rfl) (Steps.refl _) (a := b10) (argsL := [(.int ss), (.int gg), (.int cc)]) (rest := [(.ref b10)]) (lenOf pd_oIIIcV rfl) rfl (by show 2 * 0 + _ ≤ _; exact Nat.le_of_eq rfl) (hb hby at_80) (fun _ _ => ⟨rfl, e10, (by decide : 2 + 0 ≤ _), (by decide : 6 + 0 ≤ _)⟩)
  dsimp only [Pt.U, Pt.locs, Pt.cells, Pt.slots] at X12 l12 y12 z12 st12 hQ12
  subst l12 y12 z12
  obtain ⟨rfl, N12q, Kc12, p12_0, p12_1, p12_2, p12_3⟩ := hQ12
  have N12 := Fr.app N8 N12q
  have K12 : Keep h0 T12.heap [] := K10.trans Kc12 (allS (Or.inr sz_b10) all0)
  have Z12 : n0 ≤ T12.heap.size := Nat.le_trans Z10 Kc12.1
  refine Go.tr st12 ?_
  show Go p.tables e below s _ _ _ (T12.setTop (mkF m 83 #[.val (.int p1), .val (.int p2), .val (.int p3), .val (.int p4), .val (.int gg), .val (.int ss), .val (.long ((mn.toInt64) + (1 : Int64))), .second, .val (.int cc), .val (.ref b6), .unset, .unset, .unset, .unset, .unset, .unset, .unset, .unset, .unset, .unset, .unset, .unset] [(.ref b10)]))
  have sg13 : ∀ t, Steps p.tables e below (T12.setTop (mkF m 87 #[.val (.int p1), .val (.int p2), .val (.int p3), .val (.int p4), .val (.int gg), .val (.int ss), .val (.long ((mn.toInt64) + (1 : Int64))), .second, .val (.int cc), .val (.ref b6), .val (.ref b10), .unset, .unset, .unset, .unset, .unset, .unset, .unset, .unset, .unset, .unset, .unset] [(.ref b6)])) t → Steps p.tables e below (T12.setTop (mkF m 83 #[.val (.int p1), .val (.int p2), .val (.int p3), .val (.int p4), .val (.int gg), .val (.int ss), .val (.long ((mn.toInt64) + (1 : Int64))), .second, .val (.int cc), .val (.ref b6), .unset, .unset, .unset, .unset, .unset, .unset, .unset, .unset, .unset, .unset, .unset, .unset] [(.ref b10)])) t := by
    intro t kt
    show Steps p.tables e below (T12.setTop (mkF m 83 #[.val (.int p1), .val (.int p2), .val (.int p3), .val (.int p4), .val (.int gg), .val (.int ss), .val (.long ((mn.toInt64) + (1 : Int64))), .second, .val (.int cc), .val (.ref b6), .unset, .unset, .unset, .unset, .unset, .unset, .unset, .unset, .unset, .unset, .unset, .unset] [(.ref b10)])) _
    refine XS.astore X12.here hx rfl (hb hby at_83) rfl rfl (l' := #[.val (.int p1), .val (.int p2), .val (.int p3), .val (.int p4), .val (.int gg), .val (.int ss), .val (.long ((mn.toInt64) + (1 : Int64))), .second, .val (.int cc), .val (.ref b6), .val (.ref b10), .unset, .unset, .unset, .unset, .unset, .unset, .unset, .unset, .unset, .unset, .unset]) rfl ?_
    show Steps p.tables e below (T12.setTop (mkF m 85 #[.val (.int p1), .val (.int p2), .val (.int p3), .val (.int p4), .val (.int gg), .val (.int ss), .val (.long ((mn.toInt64) + (1 : Int64))), .second, .val (.int cc), .val (.ref b6), .val (.ref b10), .unset, .unset, .unset, .unset, .unset, .unset, .unset, .unset, .unset, .unset, .unset] [])) _
    refine XS.aload X12.here hx rfl (hb hby at_85) rfl rfl ?_
    exact kt
  refine Go.adv sg13 ?_
  have f14 := ((p8_1.ext E10).keep Kc12 (ninS ne_b6_b10 nin0))
  have f15 := ((p8_2.ext E10).keep Kc12 (ninS ne_b6_b10 nin0))
  have f16 := ((p8_3.ext E10).keep Kc12 (ninS ne_b6_b10 nin0))
  have f18 := ((p8_0.ext E10).keep Kc12)
  obtain ⟨cq17, kq17, q17a, q17b, q17c⟩ := isOf hZ rfl f18
  obtain ⟨_, _, ⟨T17, L17, k17, n17⟩, -, X17, ⟨Lc17, hQ17, l17, y17, z17⟩, st17⟩ := X12.virtualBack hx (y := (⟨"com/example/tally/tally/score/QuestionScore", "f1", "()D"⟩ : MethodName)) (z := (⟨"com/example/tally/tally/score/QuestionScore", "f1", "()D"⟩ : MethodName)) hown (mvT hZ (hw _ (List.mem_of_getElem? (i := 25) rfl))) (mvT hZ (hw _ (List.mem_of_getElem? (i := 26) rfl))) (notFace_of_selects (args := #[]) (mvT hZ (hw _ (List.mem_of_getElem? (i := 28) rfl)))) (mvT hZ (hw _ (List.mem_of_getElem? (i := 28) rfl))) (mvT hZ (hw _ (List.mem_of_getElem? (i := 27) rfl))) (by decide) (backOf (W := 0) (rm_f1 l Z a0 hw [] b6 gg ss cc T12.heap n0 Z12 f14 f15 f16 (by assumption)) hZ (hw _ (List.mem_of_getElem? (i := 29) rfl)) (hw _ (List.mem_of_getElem? (i := 7) rfl)) (by decide) (by decide)) q17a q17c (g := (mkF m 87 #[.val (.int p1), .val (.int p2), .val (.int p3), .val (.int p4), .val (.int gg), .val (.int ss), .val (.long ((mn.toInt64) + (1 : Int64))), .second, .val (.int cc), .val (.ref b6), .val (.ref b10), .unset, .unset, .unset, .unset, .unset, .unset, .unset, .unset, .unset, .unset, .unset] [(.ref b6)])) rfl (by rw [hml]; rfl) (Steps.refl _) (argsL := []) (rest := []) (lenOf pd_ocD rfl) rfl (by show 2 * 0 + _ ≤ _; exact Nat.le_of_eq rfl) (hb hby at_87) (fun _ _ => ⟨rfl, rfl, (by decide : 2 + 0 ≤ _), (by decide : 6 + 0 ≤ _)⟩)
  dsimp only [Pt.U, Pt.locs, Pt.cells, Pt.slots] at X17 l17 y17 z17 st17 hQ17
  subst l17 y17 z17
  obtain ⟨rfl, N17q, e17⟩ := hQ17
  have N17 := Fr.app N12 N17q
  refine Go.tr st17 ?_
  show Go p.tables e below s _ _ _ (T17.setTop (mkF m 90 #[.val (.int p1), .val (.int p2), .val (.int p3), .val (.int p4), .val (.int gg), .val (.int ss), .val (.long ((mn.toInt64) + (1 : Int64))), .second, .val (.int cc), .val (.ref b6), .val (.ref b10), .unset, .unset, .unset, .unset, .unset, .unset, .unset, .unset, .unset, .unset, .unset] [(.double (own_f1 gg ss cc))]))
  have sg19 : ∀ t, Steps p.tables e below (T17.setTop (mkF m 94 #[.val (.int p1), .val (.int p2), .val (.int p3), .val (.int p4), .val (.int gg), .val (.int ss), .val (.long ((mn.toInt64) + (1 : Int64))), .second, .val (.int cc), .val (.ref b6), .val (.ref b10), .val (.double (own_f1 gg ss cc)), .second, .unset, .unset, .unset, .unset, .unset, .unset, .unset, .unset, .unset] [(.ref b10)])) t → Steps p.tables e below (T17.setTop (mkF m 90 #[.val (.int p1), .val (.int p2), .val (.int p3), .val (.int p4), .val (.int gg), .val (.int ss), .val (.long ((mn.toInt64) + (1 : Int64))), .second, .val (.int cc), .val (.ref b6), .val (.ref b10), .unset, .unset, .unset, .unset, .unset, .unset, .unset, .unset, .unset, .unset, .unset] [(.double (own_f1 gg ss cc))])) t := by
    intro t kt
    show Steps p.tables e below (T17.setTop (mkF m 90 #[.val (.int p1), .val (.int p2), .val (.int p3), .val (.int p4), .val (.int gg), .val (.int ss), .val (.long ((mn.toInt64) + (1 : Int64))), .second, .val (.int cc), .val (.ref b6), .val (.ref b10), .unset, .unset, .unset, .unset, .unset, .unset, .unset, .unset, .unset, .unset, .unset] [(.double (own_f1 gg ss cc))])) _
    refine own_dstore X17.here hx rfl (hb hby at_90) rfl (l' := #[.val (.int p1), .val (.int p2), .val (.int p3), .val (.int p4), .val (.int gg), .val (.int ss), .val (.long ((mn.toInt64) + (1 : Int64))), .second, .val (.int cc), .val (.ref b6), .val (.ref b10), .val (.double (own_f1 gg ss cc)), .second, .unset, .unset, .unset, .unset, .unset, .unset, .unset, .unset, .unset]) rfl ?_
    show Steps p.tables e below (T17.setTop (mkF m 92 #[.val (.int p1), .val (.int p2), .val (.int p3), .val (.int p4), .val (.int gg), .val (.int ss), .val (.long ((mn.toInt64) + (1 : Int64))), .second, .val (.int cc), .val (.ref b6), .val (.ref b10), .val (.double (own_f1 gg ss cc)), .second, .unset, .unset, .unset, .unset, .unset, .unset, .unset, .unset, .unset] [])) _
    refine XS.aload X17.here hx rfl (hb hby at_92) rfl rfl ?_
    exact kt
  refine Go.adv sg19 ?_
  obtain ⟨cq20, kq20, q20a, q20b, q20c⟩ := isOf hZ e17 p12_0
  obtain ⟨_, _, ⟨T20, L20, k20, n20⟩, -, X20, ⟨Lc20, hQ20, l20, y20, z20⟩, st20⟩ := X17.virtualBack hx (y := (⟨"com/example/tally/tally/score/QuestionScore", "f1", "()D"⟩ : MethodName)) (z := (⟨"com/example/tally/tally/score/QuestionScore", "f1", "()D"⟩ : MethodName)) hown (mvT hZ (hw _ (List.mem_of_getElem? (i := 25) rfl))) (mvT hZ (hw _ (List.mem_of_getElem? (i := 26) rfl))) (notFace_of_selects (args := #[]) (mvT hZ (hw _ (List.mem_of_getElem? (i := 28) rfl)))) (mvT hZ (hw _ (List.mem_of_getElem? (i := 28) rfl))) (mvT hZ (hw _ (List.mem_of_getElem? (i := 27) rfl))) (by decide) (backOf (W := 0) (rm_f1 l Z a0 hw [] b10 ss gg cc T12.heap n0 Z12 p12_1 p12_2 p12_3 (by assumption)) hZ (hw _ (List.mem_of_getElem? (i := 29) rfl)) (hw _ (List.mem_of_getElem? (i := 7) rfl)) (by decide) (by decide)) q20a q20c (g := (mkF m 94 #[.val (.int p1), .val (.int p2), .val (.int p3), .val (.int p4), .val (.int gg), .val (.int ss), .val (.long ((mn.toInt64) + (1 : Int64))), .second, .val (.int cc), .val (.ref b6), .val (.ref b10), .val (.double (own_f1 gg ss cc)), .second, .unset, .unset, .unset, .unset, .unset, .unset, .unset, .unset, .unset] [(.ref b10)])) rfl (by rw [hml]; rfl) (Steps.refl _) (argsL := []) (rest := []) (lenOf pd_ocD rfl) rfl (by show 2 * 0 + _ ≤ _; exact Nat.le_of_eq rfl) (hb hby at_94) (fun _ _ => ⟨rfl, e17, (by decide : 2 + 0 ≤ _), (by decide : 6 + 0 ≤ _)⟩)
  dsimp only [Pt.U, Pt.locs, Pt.cells, Pt.slots] at X20 l20 y20 z20 st20 hQ20
  subst l20 y20 z20
  obtain ⟨rfl, N20q, e20⟩ := hQ20
  have N20 := Fr.app N17 N20q
  refine Go.tr st20 ?_
  show Go p.tables e below s _ _ _ (T20.setTop (mkF m 97 #[.val (.int p1), .val (.int p2), .val (.int p3), .val (.int p4), .val (.int gg), .val (.int ss), .val (.long ((mn.toInt64) + (1 : Int64))), .second, .val (.int cc), .val (.ref b6), .val (.ref b10), .val (.double (own_f1 gg ss cc)), .second, .unset, .unset, .unset, .unset, .unset, .unset, .unset, .unset, .unset] [(.double (own_f1 ss gg cc))]))
  have sg21 : ∀ t, Steps p.tables e below (T20.setTop (mkF m 99 #[.val (.int p1), .val (.int p2), .val (.int p3), .val (.int p4), .val (.int gg), .val (.int ss), .val (.long ((mn.toInt64) + (1 : Int64))), .second, .val (.int cc), .val (.ref b6), .val (.ref b10), .val (.double (own_f1 gg ss cc)), .second, .val (.double (own_f1 ss gg cc)), .second, .unset, .unset, .unset, .unset, .unset, .unset, .unset] [])) t → Steps p.tables e below (T20.setTop (mkF m 97 #[.val (.int p1), .val (.int p2), .val (.int p3), .val (.int p4), .val (.int gg), .val (.int ss), .val (.long ((mn.toInt64) + (1 : Int64))), .second, .val (.int cc), .val (.ref b6), .val (.ref b10), .val (.double (own_f1 gg ss cc)), .second, .unset, .unset, .unset, .unset, .unset, .unset, .unset, .unset, .unset] [(.double (own_f1 ss gg cc))])) t := by
    intro t kt
    show Steps p.tables e below (T20.setTop (mkF m 97 #[.val (.int p1), .val (.int p2), .val (.int p3), .val (.int p4), .val (.int gg), .val (.int ss), .val (.long ((mn.toInt64) + (1 : Int64))), .second, .val (.int cc), .val (.ref b6), .val (.ref b10), .val (.double (own_f1 gg ss cc)), .second, .unset, .unset, .unset, .unset, .unset, .unset, .unset, .unset, .unset] [(.double (own_f1 ss gg cc))])) _
    refine own_dstore X20.here hx rfl (hb hby at_97) rfl (l' := #[.val (.int p1), .val (.int p2), .val (.int p3), .val (.int p4), .val (.int gg), .val (.int ss), .val (.long ((mn.toInt64) + (1 : Int64))), .second, .val (.int cc), .val (.ref b6), .val (.ref b10), .val (.double (own_f1 gg ss cc)), .second, .val (.double (own_f1 ss gg cc)), .second, .unset, .unset, .unset, .unset, .unset, .unset, .unset]) rfl ?_
    exact kt
  refine Go.adv sg21 ?_
  by_cases hg : gg = 0
  · by_cases hs : ss = 0
    · have hcg : cc = gg := own_e32.mpr (by have := own_z32.mp hg; obtain ⟨c1, c2, c3⟩ := hC; omega)
      have hcs : cc = ss := hcg.trans (hg.trans hs.symm)
      have hc0 : cc = 0 := hcg.trans hg
      obtain ⟨k1, k2, k3, k4⟩ := own_f1_A (cc := cc) hg hs
      have sg22 : ∀ t, Steps p.tables e below (T20.setTop (mkF m 318 #[.val (.int p1), .val (.int p2), .val (.int p3), .val (.int p4), .val (.int gg), .val (.int ss), .val (.long ((mn.toInt64) + (1 : Int64))), .second, .val (.int cc), .val (.ref b6), .val (.ref b10), .val (.double (own_f1 gg ss cc)), .second, .val (.double (own_f1 ss gg cc)), .second, .val (.double (4607182418800017408 : UInt64)), .second, .val (.int (1 : Int32)), .val (.int (1 : Int32)), .val (.int (1 : Int32)), .val (.int (1 : Int32)), .val (.int (1 : Int32))] [(.int (1 : Int32))])) t → Steps p.tables e below (T20.setTop (mkF m 99 #[.val (.int p1), .val (.int p2), .val (.int p3), .val (.int p4), .val (.int gg), .val (.int ss), .val (.long ((mn.toInt64) + (1 : Int64))), .second, .val (.int cc), .val (.ref b6), .val (.ref b10), .val (.double (own_f1 gg ss cc)), .second, .val (.double (own_f1 ss gg cc)), .second, .unset, .unset, .unset, .unset, .unset, .unset, .unset] [])) t := by
        intro t kt
        show Steps p.tables e below (T20.setTop (mkF m 99 #[.val (.int p1), .val (.int p2), .val (.int p3), .val (.int p4), .val (.int gg), .val (.int ss), .val (.long ((mn.toInt64) + (1 : Int64))), .second, .val (.int cc), .val (.ref b6), .val (.ref b10), .val (.double (own_f1 gg ss cc)), .second, .val (.double (own_f1 ss gg cc)), .second, .unset, .unset, .unset, .unset, .unset, .unset, .unset] [])) _
        refine XS.iload X20.here hx rfl (hb hby at_99) rfl ?_
        show Steps p.tables e below (T20.setTop (mkF m 101 #[.val (.int p1), .val (.int p2), .val (.int p3), .val (.int p4), .val (.int gg), .val (.int ss), .val (.long ((mn.toInt64) + (1 : Int64))), .second, .val (.int cc), .val (.ref b6), .val (.ref b10), .val (.double (own_f1 gg ss cc)), .second, .val (.double (own_f1 ss gg cc)), .second, .unset, .unset, .unset, .unset, .unset, .unset, .unset] [(.int gg)])) _
        refine XS.ifNo X20.here hx rfl (hb hby at_101) rfl ((if0 _ _).trans (teq (hg : gg = (0 : Int32))).2) ?_
        show Steps p.tables e below (T20.setTop (mkF m 104 #[.val (.int p1), .val (.int p2), .val (.int p3), .val (.int p4), .val (.int gg), .val (.int ss), .val (.long ((mn.toInt64) + (1 : Int64))), .second, .val (.int cc), .val (.ref b6), .val (.ref b10), .val (.double (own_f1 gg ss cc)), .second, .val (.double (own_f1 ss gg cc)), .second, .unset, .unset, .unset, .unset, .unset, .unset, .unset] [])) _
        refine XS.iload X20.here hx rfl (hb hby at_104) rfl ?_
        show Steps p.tables e below (T20.setTop (mkF m 106 #[.val (.int p1), .val (.int p2), .val (.int p3), .val (.int p4), .val (.int gg), .val (.int ss), .val (.long ((mn.toInt64) + (1 : Int64))), .second, .val (.int cc), .val (.ref b6), .val (.ref b10), .val (.double (own_f1 gg ss cc)), .second, .val (.double (own_f1 ss gg cc)), .second, .unset, .unset, .unset, .unset, .unset, .unset, .unset] [(.int ss)])) _
        refine XS.ifNo X20.here hx rfl (hb hby at_106) rfl ((if0 _ _).trans (teq (hs : ss = (0 : Int32))).2) ?_
        show Steps p.tables e below (T20.setTop (mkF m 109 #[.val (.int p1), .val (.int p2), .val (.int p3), .val (.int p4), .val (.int gg), .val (.int ss), .val (.long ((mn.toInt64) + (1 : Int64))), .second, .val (.int cc), .val (.ref b6), .val (.ref b10), .val (.double (own_f1 gg ss cc)), .second, .val (.double (own_f1 ss gg cc)), .second, .unset, .unset, .unset, .unset, .unset, .unset, .unset] [])) _
        refine own_dconst1 X20.here hx rfl (hb hby at_109) ?_
        show Steps p.tables e below (T20.setTop (mkF m 110 #[.val (.int p1), .val (.int p2), .val (.int p3), .val (.int p4), .val (.int gg), .val (.int ss), .val (.long ((mn.toInt64) + (1 : Int64))), .second, .val (.int cc), .val (.ref b6), .val (.ref b10), .val (.double (own_f1 gg ss cc)), .second, .val (.double (own_f1 ss gg cc)), .second, .unset, .unset, .unset, .unset, .unset, .unset, .unset] [(.double (4607182418800017408 : UInt64))])) _
        refine own_dstore X20.here hx rfl (hb hby at_110) rfl (l' := #[.val (.int p1), .val (.int p2), .val (.int p3), .val (.int p4), .val (.int gg), .val (.int ss), .val (.long ((mn.toInt64) + (1 : Int64))), .second, .val (.int cc), .val (.ref b6), .val (.ref b10), .val (.double (own_f1 gg ss cc)), .second, .val (.double (own_f1 ss gg cc)), .second, .val (.double (4607182418800017408 : UInt64)), .second, .unset, .unset, .unset, .unset, .unset]) rfl ?_
        show Steps p.tables e below (T20.setTop (mkF m 112 #[.val (.int p1), .val (.int p2), .val (.int p3), .val (.int p4), .val (.int gg), .val (.int ss), .val (.long ((mn.toInt64) + (1 : Int64))), .second, .val (.int cc), .val (.ref b6), .val (.ref b10), .val (.double (own_f1 gg ss cc)), .second, .val (.double (own_f1 ss gg cc)), .second, .val (.double (4607182418800017408 : UInt64)), .second, .unset, .unset, .unset, .unset, .unset] [])) _
        refine XS.goto X20.here hx rfl (pc0 := 112) (pc' := 154) rfl (hb hby at_112) (by decide) (by decide) ?_
        show Steps p.tables e below (T20.setTop (mkF m 154 #[.val (.int p1), .val (.int p2), .val (.int p3), .val (.int p4), .val (.int gg), .val (.int ss), .val (.long ((mn.toInt64) + (1 : Int64))), .second, .val (.int cc), .val (.ref b6), .val (.ref b10), .val (.double (own_f1 gg ss cc)), .second, .val (.double (own_f1 ss gg cc)), .second, .val (.double (4607182418800017408 : UInt64)), .second, .unset, .unset, .unset, .unset, .unset] [])) _
        refine own_dload X20.here hx rfl (hb hby at_154) rfl ?_
        show Steps p.tables e below (T20.setTop (mkF m 156 #[.val (.int p1), .val (.int p2), .val (.int p3), .val (.int p4), .val (.int gg), .val (.int ss), .val (.long ((mn.toInt64) + (1 : Int64))), .second, .val (.int cc), .val (.ref b6), .val (.ref b10), .val (.double (own_f1 gg ss cc)), .second, .val (.double (own_f1 ss gg cc)), .second, .val (.double (4607182418800017408 : UInt64)), .second, .unset, .unset, .unset, .unset, .unset] [(.double (own_f1 gg ss cc))])) _
        refine own_dload X20.here hx rfl (hb hby at_156) rfl ?_
        show Steps p.tables e below (T20.setTop (mkF m 158 #[.val (.int p1), .val (.int p2), .val (.int p3), .val (.int p4), .val (.int gg), .val (.int ss), .val (.long ((mn.toInt64) + (1 : Int64))), .second, .val (.int cc), .val (.ref b6), .val (.ref b10), .val (.double (own_f1 gg ss cc)), .second, .val (.double (own_f1 ss gg cc)), .second, .val (.double (4607182418800017408 : UInt64)), .second, .unset, .unset, .unset, .unset, .unset] [(.double (4607182418800017408 : UInt64)), (.double (own_f1 gg ss cc))])) _
        refine own_dcmp X20.here hx rfl (hb hby at_158) rfl ?_
        show Steps p.tables e below (T20.setTop (mkF m 159 #[.val (.int p1), .val (.int p2), .val (.int p3), .val (.int p4), .val (.int gg), .val (.int ss), .val (.long ((mn.toInt64) + (1 : Int64))), .second, .val (.int cc), .val (.ref b6), .val (.ref b10), .val (.double (own_f1 gg ss cc)), .second, .val (.double (own_f1 ss gg cc)), .second, .val (.double (4607182418800017408 : UInt64)), .second, .unset, .unset, .unset, .unset, .unset] [(.int (cmpValue (FP.dcmp (own_f1 gg ss cc) (4607182418800017408 : UInt64)) .l))])) _
        refine XS.ifNo X20.here hx rfl (hb hby at_159) rfl ((if0 _ _).trans (teq ((by rw [Own.cv_eq k1] <;> decide) : (cmpValue (FP.dcmp (own_f1 gg ss cc) (4607182418800017408 : UInt64)) .l) = (0 : Int32))).2) ?_
        show Steps p.tables e below (T20.setTop (mkF m 162 #[.val (.int p1), .val (.int p2), .val (.int p3), .val (.int p4), .val (.int gg), .val (.int ss), .val (.long ((mn.toInt64) + (1 : Int64))), .second, .val (.int cc), .val (.ref b6), .val (.ref b10), .val (.double (own_f1 gg ss cc)), .second, .val (.double (own_f1 ss gg cc)), .second, .val (.double (4607182418800017408 : UInt64)), .second, .unset, .unset, .unset, .unset, .unset] [])) _
        refine XS.iconst X20.here hx rfl (hb hby at_162) ?_
        show Steps p.tables e below (T20.setTop (mkF m 163 #[.val (.int p1), .val (.int p2), .val (.int p3), .val (.int p4), .val (.int gg), .val (.int ss), .val (.long ((mn.toInt64) + (1 : Int64))), .second, .val (.int cc), .val (.ref b6), .val (.ref b10), .val (.double (own_f1 gg ss cc)), .second, .val (.double (own_f1 ss gg cc)), .second, .val (.double (4607182418800017408 : UInt64)), .second, .unset, .unset, .unset, .unset, .unset] [(.int (1 : Int32))])) _
        refine XS.goto X20.here hx rfl (pc0 := 163) (pc' := 167) rfl (hb hby at_163) (by decide) (by decide) ?_
        show Steps p.tables e below (T20.setTop (mkF m 167 #[.val (.int p1), .val (.int p2), .val (.int p3), .val (.int p4), .val (.int gg), .val (.int ss), .val (.long ((mn.toInt64) + (1 : Int64))), .second, .val (.int cc), .val (.ref b6), .val (.ref b10), .val (.double (own_f1 gg ss cc)), .second, .val (.double (own_f1 ss gg cc)), .second, .val (.double (4607182418800017408 : UInt64)), .second, .unset, .unset, .unset, .unset, .unset] [(.int (1 : Int32))])) _
        refine XS.istore X20.here hx rfl (hb hby at_167) rfl (l' := #[.val (.int p1), .val (.int p2), .val (.int p3), .val (.int p4), .val (.int gg), .val (.int ss), .val (.long ((mn.toInt64) + (1 : Int64))), .second, .val (.int cc), .val (.ref b6), .val (.ref b10), .val (.double (own_f1 gg ss cc)), .second, .val (.double (own_f1 ss gg cc)), .second, .val (.double (4607182418800017408 : UInt64)), .second, .val (.int (1 : Int32)), .unset, .unset, .unset, .unset]) rfl ?_
        show Steps p.tables e below (T20.setTop (mkF m 169 #[.val (.int p1), .val (.int p2), .val (.int p3), .val (.int p4), .val (.int gg), .val (.int ss), .val (.long ((mn.toInt64) + (1 : Int64))), .second, .val (.int cc), .val (.ref b6), .val (.ref b10), .val (.double (own_f1 gg ss cc)), .second, .val (.double (own_f1 ss gg cc)), .second, .val (.double (4607182418800017408 : UInt64)), .second, .val (.int (1 : Int32)), .unset, .unset, .unset, .unset] [])) _
        refine own_dload X20.here hx rfl (hb hby at_169) rfl ?_
        show Steps p.tables e below (T20.setTop (mkF m 171 #[.val (.int p1), .val (.int p2), .val (.int p3), .val (.int p4), .val (.int gg), .val (.int ss), .val (.long ((mn.toInt64) + (1 : Int64))), .second, .val (.int cc), .val (.ref b6), .val (.ref b10), .val (.double (own_f1 gg ss cc)), .second, .val (.double (own_f1 ss gg cc)), .second, .val (.double (4607182418800017408 : UInt64)), .second, .val (.int (1 : Int32)), .unset, .unset, .unset, .unset] [(.double (own_f1 gg ss cc))])) _
        refine own_dload X20.here hx rfl (hb hby at_171) rfl ?_
        show Steps p.tables e below (T20.setTop (mkF m 173 #[.val (.int p1), .val (.int p2), .val (.int p3), .val (.int p4), .val (.int gg), .val (.int ss), .val (.long ((mn.toInt64) + (1 : Int64))), .second, .val (.int cc), .val (.ref b6), .val (.ref b10), .val (.double (own_f1 gg ss cc)), .second, .val (.double (own_f1 ss gg cc)), .second, .val (.double (4607182418800017408 : UInt64)), .second, .val (.int (1 : Int32)), .unset, .unset, .unset, .unset] [(.double (own_f1 ss gg cc)), (.double (own_f1 gg ss cc))])) _
        refine own_dcmp X20.here hx rfl (hb hby at_173) rfl ?_
        show Steps p.tables e below (T20.setTop (mkF m 174 #[.val (.int p1), .val (.int p2), .val (.int p3), .val (.int p4), .val (.int gg), .val (.int ss), .val (.long ((mn.toInt64) + (1 : Int64))), .second, .val (.int cc), .val (.ref b6), .val (.ref b10), .val (.double (own_f1 gg ss cc)), .second, .val (.double (own_f1 ss gg cc)), .second, .val (.double (4607182418800017408 : UInt64)), .second, .val (.int (1 : Int32)), .unset, .unset, .unset, .unset] [(.int (cmpValue (FP.dcmp (own_f1 gg ss cc) (own_f1 ss gg cc)) .l))])) _
        refine XS.ifNo X20.here hx rfl (hb hby at_174) rfl ((if0 _ _).trans (teq ((by rw [Own.cv_eq k2] <;> decide) : (cmpValue (FP.dcmp (own_f1 gg ss cc) (own_f1 ss gg cc)) .l) = (0 : Int32))).2) ?_
        show Steps p.tables e below (T20.setTop (mkF m 177 #[.val (.int p1), .val (.int p2), .val (.int p3), .val (.int p4), .val (.int gg), .val (.int ss), .val (.long ((mn.toInt64) + (1 : Int64))), .second, .val (.int cc), .val (.ref b6), .val (.ref b10), .val (.double (own_f1 gg ss cc)), .second, .val (.double (own_f1 ss gg cc)), .second, .val (.double (4607182418800017408 : UInt64)), .second, .val (.int (1 : Int32)), .unset, .unset, .unset, .unset] [])) _
        refine XS.iconst X20.here hx rfl (hb hby at_177) ?_
        show Steps p.tables e below (T20.setTop (mkF m 178 #[.val (.int p1), .val (.int p2), .val (.int p3), .val (.int p4), .val (.int gg), .val (.int ss), .val (.long ((mn.toInt64) + (1 : Int64))), .second, .val (.int cc), .val (.ref b6), .val (.ref b10), .val (.double (own_f1 gg ss cc)), .second, .val (.double (own_f1 ss gg cc)), .second, .val (.double (4607182418800017408 : UInt64)), .second, .val (.int (1 : Int32)), .unset, .unset, .unset, .unset] [(.int (1 : Int32))])) _
        refine XS.goto X20.here hx rfl (pc0 := 178) (pc' := 182) rfl (hb hby at_178) (by decide) (by decide) ?_
        show Steps p.tables e below (T20.setTop (mkF m 182 #[.val (.int p1), .val (.int p2), .val (.int p3), .val (.int p4), .val (.int gg), .val (.int ss), .val (.long ((mn.toInt64) + (1 : Int64))), .second, .val (.int cc), .val (.ref b6), .val (.ref b10), .val (.double (own_f1 gg ss cc)), .second, .val (.double (own_f1 ss gg cc)), .second, .val (.double (4607182418800017408 : UInt64)), .second, .val (.int (1 : Int32)), .unset, .unset, .unset, .unset] [(.int (1 : Int32))])) _
        refine XS.istore X20.here hx rfl (hb hby at_182) rfl (l' := #[.val (.int p1), .val (.int p2), .val (.int p3), .val (.int p4), .val (.int gg), .val (.int ss), .val (.long ((mn.toInt64) + (1 : Int64))), .second, .val (.int cc), .val (.ref b6), .val (.ref b10), .val (.double (own_f1 gg ss cc)), .second, .val (.double (own_f1 ss gg cc)), .second, .val (.double (4607182418800017408 : UInt64)), .second, .val (.int (1 : Int32)), .val (.int (1 : Int32)), .unset, .unset, .unset]) rfl ?_
        show Steps p.tables e below (T20.setTop (mkF m 184 #[.val (.int p1), .val (.int p2), .val (.int p3), .val (.int p4), .val (.int gg), .val (.int ss), .val (.long ((mn.toInt64) + (1 : Int64))), .second, .val (.int cc), .val (.ref b6), .val (.ref b10), .val (.double (own_f1 gg ss cc)), .second, .val (.double (own_f1 ss gg cc)), .second, .val (.double (4607182418800017408 : UInt64)), .second, .val (.int (1 : Int32)), .val (.int (1 : Int32)), .unset, .unset, .unset] [])) _
        refine own_dconst0 X20.here hx rfl (hb hby at_184) ?_
        show Steps p.tables e below (T20.setTop (mkF m 185 #[.val (.int p1), .val (.int p2), .val (.int p3), .val (.int p4), .val (.int gg), .val (.int ss), .val (.long ((mn.toInt64) + (1 : Int64))), .second, .val (.int cc), .val (.ref b6), .val (.ref b10), .val (.double (own_f1 gg ss cc)), .second, .val (.double (own_f1 ss gg cc)), .second, .val (.double (4607182418800017408 : UInt64)), .second, .val (.int (1 : Int32)), .val (.int (1 : Int32)), .unset, .unset, .unset] [(.double (0 : UInt64))])) _
        refine own_dload X20.here hx rfl (hb hby at_185) rfl ?_
        show Steps p.tables e below (T20.setTop (mkF m 187 #[.val (.int p1), .val (.int p2), .val (.int p3), .val (.int p4), .val (.int gg), .val (.int ss), .val (.long ((mn.toInt64) + (1 : Int64))), .second, .val (.int cc), .val (.ref b6), .val (.ref b10), .val (.double (own_f1 gg ss cc)), .second, .val (.double (own_f1 ss gg cc)), .second, .val (.double (4607182418800017408 : UInt64)), .second, .val (.int (1 : Int32)), .val (.int (1 : Int32)), .unset, .unset, .unset] [(.double (own_f1 gg ss cc)), (.double (0 : UInt64))])) _
        refine own_dcmp X20.here hx rfl (hb hby at_187) rfl ?_
        show Steps p.tables e below (T20.setTop (mkF m 188 #[.val (.int p1), .val (.int p2), .val (.int p3), .val (.int p4), .val (.int gg), .val (.int ss), .val (.long ((mn.toInt64) + (1 : Int64))), .second, .val (.int cc), .val (.ref b6), .val (.ref b10), .val (.double (own_f1 gg ss cc)), .second, .val (.double (own_f1 ss gg cc)), .second, .val (.double (4607182418800017408 : UInt64)), .second, .val (.int (1 : Int32)), .val (.int (1 : Int32)), .unset, .unset, .unset] [(.int (cmpValue (FP.dcmp (0 : UInt64) (own_f1 gg ss cc)) .g))])) _
        refine XS.ifNo X20.here hx rfl (hb hby at_188) rfl ((if0 _ _).trans (flt ((by rw [Own.cv_lt k3] <;> decide) : ¬ ((0 : Int32) < (cmpValue (FP.dcmp (0 : UInt64) (own_f1 gg ss cc)) .g)))).2.2.1) ?_
        show Steps p.tables e below (T20.setTop (mkF m 191 #[.val (.int p1), .val (.int p2), .val (.int p3), .val (.int p4), .val (.int gg), .val (.int ss), .val (.long ((mn.toInt64) + (1 : Int64))), .second, .val (.int cc), .val (.ref b6), .val (.ref b10), .val (.double (own_f1 gg ss cc)), .second, .val (.double (own_f1 ss gg cc)), .second, .val (.double (4607182418800017408 : UInt64)), .second, .val (.int (1 : Int32)), .val (.int (1 : Int32)), .unset, .unset, .unset] [])) _
        refine own_dload X20.here hx rfl (hb hby at_191) rfl ?_
        show Steps p.tables e below (T20.setTop (mkF m 193 #[.val (.int p1), .val (.int p2), .val (.int p3), .val (.int p4), .val (.int gg), .val (.int ss), .val (.long ((mn.toInt64) + (1 : Int64))), .second, .val (.int cc), .val (.ref b6), .val (.ref b10), .val (.double (own_f1 gg ss cc)), .second, .val (.double (own_f1 ss gg cc)), .second, .val (.double (4607182418800017408 : UInt64)), .second, .val (.int (1 : Int32)), .val (.int (1 : Int32)), .unset, .unset, .unset] [(.double (own_f1 gg ss cc))])) _
        refine own_dconst1 X20.here hx rfl (hb hby at_193) ?_
        show Steps p.tables e below (T20.setTop (mkF m 194 #[.val (.int p1), .val (.int p2), .val (.int p3), .val (.int p4), .val (.int gg), .val (.int ss), .val (.long ((mn.toInt64) + (1 : Int64))), .second, .val (.int cc), .val (.ref b6), .val (.ref b10), .val (.double (own_f1 gg ss cc)), .second, .val (.double (own_f1 ss gg cc)), .second, .val (.double (4607182418800017408 : UInt64)), .second, .val (.int (1 : Int32)), .val (.int (1 : Int32)), .unset, .unset, .unset] [(.double (4607182418800017408 : UInt64)), (.double (own_f1 gg ss cc))])) _
        refine own_dcmp X20.here hx rfl (hb hby at_194) rfl ?_
        show Steps p.tables e below (T20.setTop (mkF m 195 #[.val (.int p1), .val (.int p2), .val (.int p3), .val (.int p4), .val (.int gg), .val (.int ss), .val (.long ((mn.toInt64) + (1 : Int64))), .second, .val (.int cc), .val (.ref b6), .val (.ref b10), .val (.double (own_f1 gg ss cc)), .second, .val (.double (own_f1 ss gg cc)), .second, .val (.double (4607182418800017408 : UInt64)), .second, .val (.int (1 : Int32)), .val (.int (1 : Int32)), .unset, .unset, .unset] [(.int (cmpValue (FP.dcmp (own_f1 gg ss cc) (4607182418800017408 : UInt64)) .g))])) _
        refine XS.ifNo X20.here hx rfl (hb hby at_195) rfl ((if0 _ _).trans (flt ((by rw [Own.cv_eq k1] <;> decide) : ¬ ((0 : Int32) < (cmpValue (FP.dcmp (own_f1 gg ss cc) (4607182418800017408 : UInt64)) .g)))).2.2.1) ?_
        show Steps p.tables e below (T20.setTop (mkF m 198 #[.val (.int p1), .val (.int p2), .val (.int p3), .val (.int p4), .val (.int gg), .val (.int ss), .val (.long ((mn.toInt64) + (1 : Int64))), .second, .val (.int cc), .val (.ref b6), .val (.ref b10), .val (.double (own_f1 gg ss cc)), .second, .val (.double (own_f1 ss gg cc)), .second, .val (.double (4607182418800017408 : UInt64)), .second, .val (.int (1 : Int32)), .val (.int (1 : Int32)), .unset, .unset, .unset] [])) _
        refine XS.iconst X20.here hx rfl (hb hby at_198) ?_
        show Steps p.tables e below (T20.setTop (mkF m 199 #[.val (.int p1), .val (.int p2), .val (.int p3), .val (.int p4), .val (.int gg), .val (.int ss), .val (.long ((mn.toInt64) + (1 : Int64))), .second, .val (.int cc), .val (.ref b6), .val (.ref b10), .val (.double (own_f1 gg ss cc)), .second, .val (.double (own_f1 ss gg cc)), .second, .val (.double (4607182418800017408 : UInt64)), .second, .val (.int (1 : Int32)), .val (.int (1 : Int32)), .unset, .unset, .unset] [(.int (1 : Int32))])) _
        refine XS.goto X20.here hx rfl (pc0 := 199) (pc' := 203) rfl (hb hby at_199) (by decide) (by decide) ?_
        show Steps p.tables e below (T20.setTop (mkF m 203 #[.val (.int p1), .val (.int p2), .val (.int p3), .val (.int p4), .val (.int gg), .val (.int ss), .val (.long ((mn.toInt64) + (1 : Int64))), .second, .val (.int cc), .val (.ref b6), .val (.ref b10), .val (.double (own_f1 gg ss cc)), .second, .val (.double (own_f1 ss gg cc)), .second, .val (.double (4607182418800017408 : UInt64)), .second, .val (.int (1 : Int32)), .val (.int (1 : Int32)), .unset, .unset, .unset] [(.int (1 : Int32))])) _
        refine XS.istore X20.here hx rfl (hb hby at_203) rfl (l' := #[.val (.int p1), .val (.int p2), .val (.int p3), .val (.int p4), .val (.int gg), .val (.int ss), .val (.long ((mn.toInt64) + (1 : Int64))), .second, .val (.int cc), .val (.ref b6), .val (.ref b10), .val (.double (own_f1 gg ss cc)), .second, .val (.double (own_f1 ss gg cc)), .second, .val (.double (4607182418800017408 : UInt64)), .second, .val (.int (1 : Int32)), .val (.int (1 : Int32)), .val (.int (1 : Int32)), .unset, .unset]) rfl ?_
        show Steps p.tables e below (T20.setTop (mkF m 205 #[.val (.int p1), .val (.int p2), .val (.int p3), .val (.int p4), .val (.int gg), .val (.int ss), .val (.long ((mn.toInt64) + (1 : Int64))), .second, .val (.int cc), .val (.ref b6), .val (.ref b10), .val (.double (own_f1 gg ss cc)), .second, .val (.double (own_f1 ss gg cc)), .second, .val (.double (4607182418800017408 : UInt64)), .second, .val (.int (1 : Int32)), .val (.int (1 : Int32)), .val (.int (1 : Int32)), .unset, .unset] [])) _
        refine own_dload X20.here hx rfl (hb hby at_205) rfl ?_
        show Steps p.tables e below (T20.setTop (mkF m 207 #[.val (.int p1), .val (.int p2), .val (.int p3), .val (.int p4), .val (.int gg), .val (.int ss), .val (.long ((mn.toInt64) + (1 : Int64))), .second, .val (.int cc), .val (.ref b6), .val (.ref b10), .val (.double (own_f1 gg ss cc)), .second, .val (.double (own_f1 ss gg cc)), .second, .val (.double (4607182418800017408 : UInt64)), .second, .val (.int (1 : Int32)), .val (.int (1 : Int32)), .val (.int (1 : Int32)), .unset, .unset] [(.double (own_f1 gg ss cc))])) _
        refine own_dconst1 X20.here hx rfl (hb hby at_207) ?_
        show Steps p.tables e below (T20.setTop (mkF m 208 #[.val (.int p1), .val (.int p2), .val (.int p3), .val (.int p4), .val (.int gg), .val (.int ss), .val (.long ((mn.toInt64) + (1 : Int64))), .second, .val (.int cc), .val (.ref b6), .val (.ref b10), .val (.double (own_f1 gg ss cc)), .second, .val (.double (own_f1 ss gg cc)), .second, .val (.double (4607182418800017408 : UInt64)), .second, .val (.int (1 : Int32)), .val (.int (1 : Int32)), .val (.int (1 : Int32)), .unset, .unset] [(.double (4607182418800017408 : UInt64)), (.double (own_f1 gg ss cc))])) _
        refine own_dcmp X20.here hx rfl (hb hby at_208) rfl ?_
        show Steps p.tables e below (T20.setTop (mkF m 209 #[.val (.int p1), .val (.int p2), .val (.int p3), .val (.int p4), .val (.int gg), .val (.int ss), .val (.long ((mn.toInt64) + (1 : Int64))), .second, .val (.int cc), .val (.ref b6), .val (.ref b10), .val (.double (own_f1 gg ss cc)), .second, .val (.double (own_f1 ss gg cc)), .second, .val (.double (4607182418800017408 : UInt64)), .second, .val (.int (1 : Int32)), .val (.int (1 : Int32)), .val (.int (1 : Int32)), .unset, .unset] [(.int (cmpValue (FP.dcmp (own_f1 gg ss cc) (4607182418800017408 : UInt64)) .l))])) _
        refine XS.ifNo X20.here hx rfl (hb hby at_209) rfl ((if0 _ _).trans (teq ((by rw [Own.cv_eq k1] <;> decide) : (cmpValue (FP.dcmp (own_f1 gg ss cc) (4607182418800017408 : UInt64)) .l) = (0 : Int32))).2) ?_
        show Steps p.tables e below (T20.setTop (mkF m 212 #[.val (.int p1), .val (.int p2), .val (.int p3), .val (.int p4), .val (.int gg), .val (.int ss), .val (.long ((mn.toInt64) + (1 : Int64))), .second, .val (.int cc), .val (.ref b6), .val (.ref b10), .val (.double (own_f1 gg ss cc)), .second, .val (.double (own_f1 ss gg cc)), .second, .val (.double (4607182418800017408 : UInt64)), .second, .val (.int (1 : Int32)), .val (.int (1 : Int32)), .val (.int (1 : Int32)), .unset, .unset] [])) _
        refine XS.iconst X20.here hx rfl (hb hby at_212) ?_
        show Steps p.tables e below (T20.setTop (mkF m 213 #[.val (.int p1), .val (.int p2), .val (.int p3), .val (.int p4), .val (.int gg), .val (.int ss), .val (.long ((mn.toInt64) + (1 : Int64))), .second, .val (.int cc), .val (.ref b6), .val (.ref b10), .val (.double (own_f1 gg ss cc)), .second, .val (.double (own_f1 ss gg cc)), .second, .val (.double (4607182418800017408 : UInt64)), .second, .val (.int (1 : Int32)), .val (.int (1 : Int32)), .val (.int (1 : Int32)), .unset, .unset] [(.int (1 : Int32))])) _
        refine XS.goto X20.here hx rfl (pc0 := 213) (pc' := 217) rfl (hb hby at_213) (by decide) (by decide) ?_
        show Steps p.tables e below (T20.setTop (mkF m 217 #[.val (.int p1), .val (.int p2), .val (.int p3), .val (.int p4), .val (.int gg), .val (.int ss), .val (.long ((mn.toInt64) + (1 : Int64))), .second, .val (.int cc), .val (.ref b6), .val (.ref b10), .val (.double (own_f1 gg ss cc)), .second, .val (.double (own_f1 ss gg cc)), .second, .val (.double (4607182418800017408 : UInt64)), .second, .val (.int (1 : Int32)), .val (.int (1 : Int32)), .val (.int (1 : Int32)), .unset, .unset] [(.int (1 : Int32))])) _
        refine XS.iload X20.here hx rfl (hb hby at_217) rfl ?_
        show Steps p.tables e below (T20.setTop (mkF m 219 #[.val (.int p1), .val (.int p2), .val (.int p3), .val (.int p4), .val (.int gg), .val (.int ss), .val (.long ((mn.toInt64) + (1 : Int64))), .second, .val (.int cc), .val (.ref b6), .val (.ref b10), .val (.double (own_f1 gg ss cc)), .second, .val (.double (own_f1 ss gg cc)), .second, .val (.double (4607182418800017408 : UInt64)), .second, .val (.int (1 : Int32)), .val (.int (1 : Int32)), .val (.int (1 : Int32)), .unset, .unset] [(.int cc), (.int (1 : Int32))])) _
        refine XS.iload X20.here hx rfl (hb hby at_219) rfl ?_
        show Steps p.tables e below (T20.setTop (mkF m 221 #[.val (.int p1), .val (.int p2), .val (.int p3), .val (.int p4), .val (.int gg), .val (.int ss), .val (.long ((mn.toInt64) + (1 : Int64))), .second, .val (.int cc), .val (.ref b6), .val (.ref b10), .val (.double (own_f1 gg ss cc)), .second, .val (.double (own_f1 ss gg cc)), .second, .val (.double (4607182418800017408 : UInt64)), .second, .val (.int (1 : Int32)), .val (.int (1 : Int32)), .val (.int (1 : Int32)), .unset, .unset] [(.int gg), (.int cc), (.int (1 : Int32))])) _
        refine XS.icmpNo X20.here hx rfl (hb hby at_221) rfl (teq (hcg : cc = gg)).2 ?_
        show Steps p.tables e below (T20.setTop (mkF m 224 #[.val (.int p1), .val (.int p2), .val (.int p3), .val (.int p4), .val (.int gg), .val (.int ss), .val (.long ((mn.toInt64) + (1 : Int64))), .second, .val (.int cc), .val (.ref b6), .val (.ref b10), .val (.double (own_f1 gg ss cc)), .second, .val (.double (own_f1 ss gg cc)), .second, .val (.double (4607182418800017408 : UInt64)), .second, .val (.int (1 : Int32)), .val (.int (1 : Int32)), .val (.int (1 : Int32)), .unset, .unset] [(.int (1 : Int32))])) _
        refine XS.iload X20.here hx rfl (hb hby at_224) rfl ?_
        show Steps p.tables e below (T20.setTop (mkF m 226 #[.val (.int p1), .val (.int p2), .val (.int p3), .val (.int p4), .val (.int gg), .val (.int ss), .val (.long ((mn.toInt64) + (1 : Int64))), .second, .val (.int cc), .val (.ref b6), .val (.ref b10), .val (.double (own_f1 gg ss cc)), .second, .val (.double (own_f1 ss gg cc)), .second, .val (.double (4607182418800017408 : UInt64)), .second, .val (.int (1 : Int32)), .val (.int (1 : Int32)), .val (.int (1 : Int32)), .unset, .unset] [(.int cc), (.int (1 : Int32))])) _
        refine XS.iload X20.here hx rfl (hb hby at_226) rfl ?_
        show Steps p.tables e below (T20.setTop (mkF m 228 #[.val (.int p1), .val (.int p2), .val (.int p3), .val (.int p4), .val (.int gg), .val (.int ss), .val (.long ((mn.toInt64) + (1 : Int64))), .second, .val (.int cc), .val (.ref b6), .val (.ref b10), .val (.double (own_f1 gg ss cc)), .second, .val (.double (own_f1 ss gg cc)), .second, .val (.double (4607182418800017408 : UInt64)), .second, .val (.int (1 : Int32)), .val (.int (1 : Int32)), .val (.int (1 : Int32)), .unset, .unset] [(.int ss), (.int cc), (.int (1 : Int32))])) _
        refine XS.icmpNo X20.here hx rfl (hb hby at_228) rfl (teq (hcs : cc = ss)).2 ?_
        show Steps p.tables e below (T20.setTop (mkF m 231 #[.val (.int p1), .val (.int p2), .val (.int p3), .val (.int p4), .val (.int gg), .val (.int ss), .val (.long ((mn.toInt64) + (1 : Int64))), .second, .val (.int cc), .val (.ref b6), .val (.ref b10), .val (.double (own_f1 gg ss cc)), .second, .val (.double (own_f1 ss gg cc)), .second, .val (.double (4607182418800017408 : UInt64)), .second, .val (.int (1 : Int32)), .val (.int (1 : Int32)), .val (.int (1 : Int32)), .unset, .unset] [(.int (1 : Int32))])) _
        refine XS.iconst X20.here hx rfl (hb hby at_231) ?_
        show Steps p.tables e below (T20.setTop (mkF m 232 #[.val (.int p1), .val (.int p2), .val (.int p3), .val (.int p4), .val (.int gg), .val (.int ss), .val (.long ((mn.toInt64) + (1 : Int64))), .second, .val (.int cc), .val (.ref b6), .val (.ref b10), .val (.double (own_f1 gg ss cc)), .second, .val (.double (own_f1 ss gg cc)), .second, .val (.double (4607182418800017408 : UInt64)), .second, .val (.int (1 : Int32)), .val (.int (1 : Int32)), .val (.int (1 : Int32)), .unset, .unset] [(.int (1 : Int32)), (.int (1 : Int32))])) _
        refine XS.goto X20.here hx rfl (pc0 := 232) (pc' := 236) rfl (hb hby at_232) (by decide) (by decide) ?_
        show Steps p.tables e below (T20.setTop (mkF m 236 #[.val (.int p1), .val (.int p2), .val (.int p3), .val (.int p4), .val (.int gg), .val (.int ss), .val (.long ((mn.toInt64) + (1 : Int64))), .second, .val (.int cc), .val (.ref b6), .val (.ref b10), .val (.double (own_f1 gg ss cc)), .second, .val (.double (own_f1 ss gg cc)), .second, .val (.double (4607182418800017408 : UInt64)), .second, .val (.int (1 : Int32)), .val (.int (1 : Int32)), .val (.int (1 : Int32)), .unset, .unset] [(.int (1 : Int32)), (.int (1 : Int32))])) _
        refine XS.icmpNo X20.here hx rfl (hb hby at_236) rfl (teq (by decide : (1 : Int32) = (1 : Int32))).2 ?_
        show Steps p.tables e below (T20.setTop (mkF m 239 #[.val (.int p1), .val (.int p2), .val (.int p3), .val (.int p4), .val (.int gg), .val (.int ss), .val (.long ((mn.toInt64) + (1 : Int64))), .second, .val (.int cc), .val (.ref b6), .val (.ref b10), .val (.double (own_f1 gg ss cc)), .second, .val (.double (own_f1 ss gg cc)), .second, .val (.double (4607182418800017408 : UInt64)), .second, .val (.int (1 : Int32)), .val (.int (1 : Int32)), .val (.int (1 : Int32)), .unset, .unset] [])) _
        refine XS.iconst X20.here hx rfl (hb hby at_239) ?_
        show Steps p.tables e below (T20.setTop (mkF m 240 #[.val (.int p1), .val (.int p2), .val (.int p3), .val (.int p4), .val (.int gg), .val (.int ss), .val (.long ((mn.toInt64) + (1 : Int64))), .second, .val (.int cc), .val (.ref b6), .val (.ref b10), .val (.double (own_f1 gg ss cc)), .second, .val (.double (own_f1 ss gg cc)), .second, .val (.double (4607182418800017408 : UInt64)), .second, .val (.int (1 : Int32)), .val (.int (1 : Int32)), .val (.int (1 : Int32)), .unset, .unset] [(.int (1 : Int32))])) _
        refine XS.goto X20.here hx rfl (pc0 := 240) (pc' := 244) rfl (hb hby at_240) (by decide) (by decide) ?_
        show Steps p.tables e below (T20.setTop (mkF m 244 #[.val (.int p1), .val (.int p2), .val (.int p3), .val (.int p4), .val (.int gg), .val (.int ss), .val (.long ((mn.toInt64) + (1 : Int64))), .second, .val (.int cc), .val (.ref b6), .val (.ref b10), .val (.double (own_f1 gg ss cc)), .second, .val (.double (own_f1 ss gg cc)), .second, .val (.double (4607182418800017408 : UInt64)), .second, .val (.int (1 : Int32)), .val (.int (1 : Int32)), .val (.int (1 : Int32)), .unset, .unset] [(.int (1 : Int32))])) _
        refine XS.istore X20.here hx rfl (hb hby at_244) rfl (l' := #[.val (.int p1), .val (.int p2), .val (.int p3), .val (.int p4), .val (.int gg), .val (.int ss), .val (.long ((mn.toInt64) + (1 : Int64))), .second, .val (.int cc), .val (.ref b6), .val (.ref b10), .val (.double (own_f1 gg ss cc)), .second, .val (.double (own_f1 ss gg cc)), .second, .val (.double (4607182418800017408 : UInt64)), .second, .val (.int (1 : Int32)), .val (.int (1 : Int32)), .val (.int (1 : Int32)), .val (.int (1 : Int32)), .unset]) rfl ?_
        show Steps p.tables e below (T20.setTop (mkF m 246 #[.val (.int p1), .val (.int p2), .val (.int p3), .val (.int p4), .val (.int gg), .val (.int ss), .val (.long ((mn.toInt64) + (1 : Int64))), .second, .val (.int cc), .val (.ref b6), .val (.ref b10), .val (.double (own_f1 gg ss cc)), .second, .val (.double (own_f1 ss gg cc)), .second, .val (.double (4607182418800017408 : UInt64)), .second, .val (.int (1 : Int32)), .val (.int (1 : Int32)), .val (.int (1 : Int32)), .val (.int (1 : Int32)), .unset] [])) _
        refine own_dload X20.here hx rfl (hb hby at_246) rfl ?_
        show Steps p.tables e below (T20.setTop (mkF m 248 #[.val (.int p1), .val (.int p2), .val (.int p3), .val (.int p4), .val (.int gg), .val (.int ss), .val (.long ((mn.toInt64) + (1 : Int64))), .second, .val (.int cc), .val (.ref b6), .val (.ref b10), .val (.double (own_f1 gg ss cc)), .second, .val (.double (own_f1 ss gg cc)), .second, .val (.double (4607182418800017408 : UInt64)), .second, .val (.int (1 : Int32)), .val (.int (1 : Int32)), .val (.int (1 : Int32)), .val (.int (1 : Int32)), .unset] [(.double (own_f1 gg ss cc))])) _
        refine own_dconst0 X20.here hx rfl (hb hby at_248) ?_
        show Steps p.tables e below (T20.setTop (mkF m 249 #[.val (.int p1), .val (.int p2), .val (.int p3), .val (.int p4), .val (.int gg), .val (.int ss), .val (.long ((mn.toInt64) + (1 : Int64))), .second, .val (.int cc), .val (.ref b6), .val (.ref b10), .val (.double (own_f1 gg ss cc)), .second, .val (.double (own_f1 ss gg cc)), .second, .val (.double (4607182418800017408 : UInt64)), .second, .val (.int (1 : Int32)), .val (.int (1 : Int32)), .val (.int (1 : Int32)), .val (.int (1 : Int32)), .unset] [(.double (0 : UInt64)), (.double (own_f1 gg ss cc))])) _
        refine own_dcmp X20.here hx rfl (hb hby at_249) rfl ?_
        show Steps p.tables e below (T20.setTop (mkF m 250 #[.val (.int p1), .val (.int p2), .val (.int p3), .val (.int p4), .val (.int gg), .val (.int ss), .val (.long ((mn.toInt64) + (1 : Int64))), .second, .val (.int cc), .val (.ref b6), .val (.ref b10), .val (.double (own_f1 gg ss cc)), .second, .val (.double (own_f1 ss gg cc)), .second, .val (.double (4607182418800017408 : UInt64)), .second, .val (.int (1 : Int32)), .val (.int (1 : Int32)), .val (.int (1 : Int32)), .val (.int (1 : Int32)), .unset] [(.int (cmpValue (FP.dcmp (own_f1 gg ss cc) (0 : UInt64)) .l))])) _
        refine XS.ifYes X20.here hx rfl (pc0 := 250) (pc' := 257) rfl (hb hby at_250) rfl ((if0 _ _).trans (feq ((by rw [Own.cv_gt k4] <;> decide) : ¬ ((cmpValue (FP.dcmp (own_f1 gg ss cc) (0 : UInt64)) .l) = (0 : Int32)))).2) (by decide) (by decide) ?_
        show Steps p.tables e below (T20.setTop (mkF m 257 #[.val (.int p1), .val (.int p2), .val (.int p3), .val (.int p4), .val (.int gg), .val (.int ss), .val (.long ((mn.toInt64) + (1 : Int64))), .second, .val (.int cc), .val (.ref b6), .val (.ref b10), .val (.double (own_f1 gg ss cc)), .second, .val (.double (own_f1 ss gg cc)), .second, .val (.double (4607182418800017408 : UInt64)), .second, .val (.int (1 : Int32)), .val (.int (1 : Int32)), .val (.int (1 : Int32)), .val (.int (1 : Int32)), .unset] [])) _
        refine XS.iconst X20.here hx rfl (hb hby at_257) ?_
        show Steps p.tables e below (T20.setTop (mkF m 258 #[.val (.int p1), .val (.int p2), .val (.int p3), .val (.int p4), .val (.int gg), .val (.int ss), .val (.long ((mn.toInt64) + (1 : Int64))), .second, .val (.int cc), .val (.ref b6), .val (.ref b10), .val (.double (own_f1 gg ss cc)), .second, .val (.double (own_f1 ss gg cc)), .second, .val (.double (4607182418800017408 : UInt64)), .second, .val (.int (1 : Int32)), .val (.int (1 : Int32)), .val (.int (1 : Int32)), .val (.int (1 : Int32)), .unset] [(.int (0 : Int32))])) _
        refine XS.iload X20.here hx rfl (hb hby at_258) rfl ?_
        show Steps p.tables e below (T20.setTop (mkF m 260 #[.val (.int p1), .val (.int p2), .val (.int p3), .val (.int p4), .val (.int gg), .val (.int ss), .val (.long ((mn.toInt64) + (1 : Int64))), .second, .val (.int cc), .val (.ref b6), .val (.ref b10), .val (.double (own_f1 gg ss cc)), .second, .val (.double (own_f1 ss gg cc)), .second, .val (.double (4607182418800017408 : UInt64)), .second, .val (.int (1 : Int32)), .val (.int (1 : Int32)), .val (.int (1 : Int32)), .val (.int (1 : Int32)), .unset] [(.int cc), (.int (0 : Int32))])) _
        refine XS.ifNo X20.here hx rfl (hb hby at_260) rfl ((if0 _ _).trans (teq (hc0 : cc = (0 : Int32))).2) ?_
        show Steps p.tables e below (T20.setTop (mkF m 263 #[.val (.int p1), .val (.int p2), .val (.int p3), .val (.int p4), .val (.int gg), .val (.int ss), .val (.long ((mn.toInt64) + (1 : Int64))), .second, .val (.int cc), .val (.ref b6), .val (.ref b10), .val (.double (own_f1 gg ss cc)), .second, .val (.double (own_f1 ss gg cc)), .second, .val (.double (4607182418800017408 : UInt64)), .second, .val (.int (1 : Int32)), .val (.int (1 : Int32)), .val (.int (1 : Int32)), .val (.int (1 : Int32)), .unset] [(.int (0 : Int32))])) _
        refine XS.iload X20.here hx rfl (hb hby at_263) rfl ?_
        show Steps p.tables e below (T20.setTop (mkF m 265 #[.val (.int p1), .val (.int p2), .val (.int p3), .val (.int p4), .val (.int gg), .val (.int ss), .val (.long ((mn.toInt64) + (1 : Int64))), .second, .val (.int cc), .val (.ref b6), .val (.ref b10), .val (.double (own_f1 gg ss cc)), .second, .val (.double (own_f1 ss gg cc)), .second, .val (.double (4607182418800017408 : UInt64)), .second, .val (.int (1 : Int32)), .val (.int (1 : Int32)), .val (.int (1 : Int32)), .val (.int (1 : Int32)), .unset] [(.int gg), (.int (0 : Int32))])) _
        refine XS.ifNo X20.here hx rfl (hb hby at_265) rfl ((if0 _ _).trans (teq (hg : gg = (0 : Int32))).2) ?_
        show Steps p.tables e below (T20.setTop (mkF m 268 #[.val (.int p1), .val (.int p2), .val (.int p3), .val (.int p4), .val (.int gg), .val (.int ss), .val (.long ((mn.toInt64) + (1 : Int64))), .second, .val (.int cc), .val (.ref b6), .val (.ref b10), .val (.double (own_f1 gg ss cc)), .second, .val (.double (own_f1 ss gg cc)), .second, .val (.double (4607182418800017408 : UInt64)), .second, .val (.int (1 : Int32)), .val (.int (1 : Int32)), .val (.int (1 : Int32)), .val (.int (1 : Int32)), .unset] [(.int (0 : Int32))])) _
        refine XS.iload X20.here hx rfl (hb hby at_268) rfl ?_
        show Steps p.tables e below (T20.setTop (mkF m 270 #[.val (.int p1), .val (.int p2), .val (.int p3), .val (.int p4), .val (.int gg), .val (.int ss), .val (.long ((mn.toInt64) + (1 : Int64))), .second, .val (.int cc), .val (.ref b6), .val (.ref b10), .val (.double (own_f1 gg ss cc)), .second, .val (.double (own_f1 ss gg cc)), .second, .val (.double (4607182418800017408 : UInt64)), .second, .val (.int (1 : Int32)), .val (.int (1 : Int32)), .val (.int (1 : Int32)), .val (.int (1 : Int32)), .unset] [(.int ss), (.int (0 : Int32))])) _
        refine XS.ifYes X20.here hx rfl (pc0 := 270) (pc' := 277) rfl (hb hby at_270) rfl ((if0 _ _).trans (teq (hs : ss = (0 : Int32))).1) (by decide) (by decide) ?_
        show Steps p.tables e below (T20.setTop (mkF m 277 #[.val (.int p1), .val (.int p2), .val (.int p3), .val (.int p4), .val (.int gg), .val (.int ss), .val (.long ((mn.toInt64) + (1 : Int64))), .second, .val (.int cc), .val (.ref b6), .val (.ref b10), .val (.double (own_f1 gg ss cc)), .second, .val (.double (own_f1 ss gg cc)), .second, .val (.double (4607182418800017408 : UInt64)), .second, .val (.int (1 : Int32)), .val (.int (1 : Int32)), .val (.int (1 : Int32)), .val (.int (1 : Int32)), .unset] [(.int (0 : Int32))])) _
        refine XS.iconst X20.here hx rfl (hb hby at_277) ?_
        show Steps p.tables e below (T20.setTop (mkF m 278 #[.val (.int p1), .val (.int p2), .val (.int p3), .val (.int p4), .val (.int gg), .val (.int ss), .val (.long ((mn.toInt64) + (1 : Int64))), .second, .val (.int cc), .val (.ref b6), .val (.ref b10), .val (.double (own_f1 gg ss cc)), .second, .val (.double (own_f1 ss gg cc)), .second, .val (.double (4607182418800017408 : UInt64)), .second, .val (.int (1 : Int32)), .val (.int (1 : Int32)), .val (.int (1 : Int32)), .val (.int (1 : Int32)), .unset] [(.int (0 : Int32)), (.int (0 : Int32))])) _
        refine XS.icmpNo X20.here hx rfl (hb hby at_278) rfl (teq (by decide : (0 : Int32) = (0 : Int32))).2 ?_
        show Steps p.tables e below (T20.setTop (mkF m 281 #[.val (.int p1), .val (.int p2), .val (.int p3), .val (.int p4), .val (.int gg), .val (.int ss), .val (.long ((mn.toInt64) + (1 : Int64))), .second, .val (.int cc), .val (.ref b6), .val (.ref b10), .val (.double (own_f1 gg ss cc)), .second, .val (.double (own_f1 ss gg cc)), .second, .val (.double (4607182418800017408 : UInt64)), .second, .val (.int (1 : Int32)), .val (.int (1 : Int32)), .val (.int (1 : Int32)), .val (.int (1 : Int32)), .unset] [])) _
        refine XS.iconst X20.here hx rfl (hb hby at_281) ?_
        show Steps p.tables e below (T20.setTop (mkF m 282 #[.val (.int p1), .val (.int p2), .val (.int p3), .val (.int p4), .val (.int gg), .val (.int ss), .val (.long ((mn.toInt64) + (1 : Int64))), .second, .val (.int cc), .val (.ref b6), .val (.ref b10), .val (.double (own_f1 gg ss cc)), .second, .val (.double (own_f1 ss gg cc)), .second, .val (.double (4607182418800017408 : UInt64)), .second, .val (.int (1 : Int32)), .val (.int (1 : Int32)), .val (.int (1 : Int32)), .val (.int (1 : Int32)), .unset] [(.int (1 : Int32))])) _
        refine XS.goto X20.here hx rfl (pc0 := 282) (pc' := 286) rfl (hb hby at_282) (by decide) (by decide) ?_
        show Steps p.tables e below (T20.setTop (mkF m 286 #[.val (.int p1), .val (.int p2), .val (.int p3), .val (.int p4), .val (.int gg), .val (.int ss), .val (.long ((mn.toInt64) + (1 : Int64))), .second, .val (.int cc), .val (.ref b6), .val (.ref b10), .val (.double (own_f1 gg ss cc)), .second, .val (.double (own_f1 ss gg cc)), .second, .val (.double (4607182418800017408 : UInt64)), .second, .val (.int (1 : Int32)), .val (.int (1 : Int32)), .val (.int (1 : Int32)), .val (.int (1 : Int32)), .unset] [(.int (1 : Int32))])) _
        refine XS.istore X20.here hx rfl (hb hby at_286) rfl (l' := #[.val (.int p1), .val (.int p2), .val (.int p3), .val (.int p4), .val (.int gg), .val (.int ss), .val (.long ((mn.toInt64) + (1 : Int64))), .second, .val (.int cc), .val (.ref b6), .val (.ref b10), .val (.double (own_f1 gg ss cc)), .second, .val (.double (own_f1 ss gg cc)), .second, .val (.double (4607182418800017408 : UInt64)), .second, .val (.int (1 : Int32)), .val (.int (1 : Int32)), .val (.int (1 : Int32)), .val (.int (1 : Int32)), .val (.int (1 : Int32))]) rfl ?_
        show Steps p.tables e below (T20.setTop (mkF m 288 #[.val (.int p1), .val (.int p2), .val (.int p3), .val (.int p4), .val (.int gg), .val (.int ss), .val (.long ((mn.toInt64) + (1 : Int64))), .second, .val (.int cc), .val (.ref b6), .val (.ref b10), .val (.double (own_f1 gg ss cc)), .second, .val (.double (own_f1 ss gg cc)), .second, .val (.double (4607182418800017408 : UInt64)), .second, .val (.int (1 : Int32)), .val (.int (1 : Int32)), .val (.int (1 : Int32)), .val (.int (1 : Int32)), .val (.int (1 : Int32))] [])) _
        refine XS.iload X20.here hx rfl (hb hby at_288) rfl ?_
        show Steps p.tables e below (T20.setTop (mkF m 290 #[.val (.int p1), .val (.int p2), .val (.int p3), .val (.int p4), .val (.int gg), .val (.int ss), .val (.long ((mn.toInt64) + (1 : Int64))), .second, .val (.int cc), .val (.ref b6), .val (.ref b10), .val (.double (own_f1 gg ss cc)), .second, .val (.double (own_f1 ss gg cc)), .second, .val (.double (4607182418800017408 : UInt64)), .second, .val (.int (1 : Int32)), .val (.int (1 : Int32)), .val (.int (1 : Int32)), .val (.int (1 : Int32)), .val (.int (1 : Int32))] [(.int (1 : Int32))])) _
        refine XS.ifNo X20.here hx rfl (hb hby at_290) rfl ((if0 _ _).trans (feq (by decide : ¬ ((1 : Int32) = (0 : Int32)))).1) ?_
        show Steps p.tables e below (T20.setTop (mkF m 293 #[.val (.int p1), .val (.int p2), .val (.int p3), .val (.int p4), .val (.int gg), .val (.int ss), .val (.long ((mn.toInt64) + (1 : Int64))), .second, .val (.int cc), .val (.ref b6), .val (.ref b10), .val (.double (own_f1 gg ss cc)), .second, .val (.double (own_f1 ss gg cc)), .second, .val (.double (4607182418800017408 : UInt64)), .second, .val (.int (1 : Int32)), .val (.int (1 : Int32)), .val (.int (1 : Int32)), .val (.int (1 : Int32)), .val (.int (1 : Int32))] [])) _
        refine XS.iload X20.here hx rfl (hb hby at_293) rfl ?_
        show Steps p.tables e below (T20.setTop (mkF m 295 #[.val (.int p1), .val (.int p2), .val (.int p3), .val (.int p4), .val (.int gg), .val (.int ss), .val (.long ((mn.toInt64) + (1 : Int64))), .second, .val (.int cc), .val (.ref b6), .val (.ref b10), .val (.double (own_f1 gg ss cc)), .second, .val (.double (own_f1 ss gg cc)), .second, .val (.double (4607182418800017408 : UInt64)), .second, .val (.int (1 : Int32)), .val (.int (1 : Int32)), .val (.int (1 : Int32)), .val (.int (1 : Int32)), .val (.int (1 : Int32))] [(.int (1 : Int32))])) _
        refine XS.ifNo X20.here hx rfl (hb hby at_295) rfl ((if0 _ _).trans (feq (by decide : ¬ ((1 : Int32) = (0 : Int32)))).1) ?_
        show Steps p.tables e below (T20.setTop (mkF m 298 #[.val (.int p1), .val (.int p2), .val (.int p3), .val (.int p4), .val (.int gg), .val (.int ss), .val (.long ((mn.toInt64) + (1 : Int64))), .second, .val (.int cc), .val (.ref b6), .val (.ref b10), .val (.double (own_f1 gg ss cc)), .second, .val (.double (own_f1 ss gg cc)), .second, .val (.double (4607182418800017408 : UInt64)), .second, .val (.int (1 : Int32)), .val (.int (1 : Int32)), .val (.int (1 : Int32)), .val (.int (1 : Int32)), .val (.int (1 : Int32))] [])) _
        refine XS.iload X20.here hx rfl (hb hby at_298) rfl ?_
        show Steps p.tables e below (T20.setTop (mkF m 300 #[.val (.int p1), .val (.int p2), .val (.int p3), .val (.int p4), .val (.int gg), .val (.int ss), .val (.long ((mn.toInt64) + (1 : Int64))), .second, .val (.int cc), .val (.ref b6), .val (.ref b10), .val (.double (own_f1 gg ss cc)), .second, .val (.double (own_f1 ss gg cc)), .second, .val (.double (4607182418800017408 : UInt64)), .second, .val (.int (1 : Int32)), .val (.int (1 : Int32)), .val (.int (1 : Int32)), .val (.int (1 : Int32)), .val (.int (1 : Int32))] [(.int (1 : Int32))])) _
        refine XS.ifNo X20.here hx rfl (hb hby at_300) rfl ((if0 _ _).trans (feq (by decide : ¬ ((1 : Int32) = (0 : Int32)))).1) ?_
        show Steps p.tables e below (T20.setTop (mkF m 303 #[.val (.int p1), .val (.int p2), .val (.int p3), .val (.int p4), .val (.int gg), .val (.int ss), .val (.long ((mn.toInt64) + (1 : Int64))), .second, .val (.int cc), .val (.ref b6), .val (.ref b10), .val (.double (own_f1 gg ss cc)), .second, .val (.double (own_f1 ss gg cc)), .second, .val (.double (4607182418800017408 : UInt64)), .second, .val (.int (1 : Int32)), .val (.int (1 : Int32)), .val (.int (1 : Int32)), .val (.int (1 : Int32)), .val (.int (1 : Int32))] [])) _
        refine XS.iload X20.here hx rfl (hb hby at_303) rfl ?_
        show Steps p.tables e below (T20.setTop (mkF m 305 #[.val (.int p1), .val (.int p2), .val (.int p3), .val (.int p4), .val (.int gg), .val (.int ss), .val (.long ((mn.toInt64) + (1 : Int64))), .second, .val (.int cc), .val (.ref b6), .val (.ref b10), .val (.double (own_f1 gg ss cc)), .second, .val (.double (own_f1 ss gg cc)), .second, .val (.double (4607182418800017408 : UInt64)), .second, .val (.int (1 : Int32)), .val (.int (1 : Int32)), .val (.int (1 : Int32)), .val (.int (1 : Int32)), .val (.int (1 : Int32))] [(.int (1 : Int32))])) _
        refine XS.ifNo X20.here hx rfl (hb hby at_305) rfl ((if0 _ _).trans (feq (by decide : ¬ ((1 : Int32) = (0 : Int32)))).1) ?_
        show Steps p.tables e below (T20.setTop (mkF m 308 #[.val (.int p1), .val (.int p2), .val (.int p3), .val (.int p4), .val (.int gg), .val (.int ss), .val (.long ((mn.toInt64) + (1 : Int64))), .second, .val (.int cc), .val (.ref b6), .val (.ref b10), .val (.double (own_f1 gg ss cc)), .second, .val (.double (own_f1 ss gg cc)), .second, .val (.double (4607182418800017408 : UInt64)), .second, .val (.int (1 : Int32)), .val (.int (1 : Int32)), .val (.int (1 : Int32)), .val (.int (1 : Int32)), .val (.int (1 : Int32))] [])) _
        refine XS.iload X20.here hx rfl (hb hby at_308) rfl ?_
        show Steps p.tables e below (T20.setTop (mkF m 310 #[.val (.int p1), .val (.int p2), .val (.int p3), .val (.int p4), .val (.int gg), .val (.int ss), .val (.long ((mn.toInt64) + (1 : Int64))), .second, .val (.int cc), .val (.ref b6), .val (.ref b10), .val (.double (own_f1 gg ss cc)), .second, .val (.double (own_f1 ss gg cc)), .second, .val (.double (4607182418800017408 : UInt64)), .second, .val (.int (1 : Int32)), .val (.int (1 : Int32)), .val (.int (1 : Int32)), .val (.int (1 : Int32)), .val (.int (1 : Int32))] [(.int (1 : Int32))])) _
        refine XS.ifNo X20.here hx rfl (hb hby at_310) rfl ((if0 _ _).trans (feq (by decide : ¬ ((1 : Int32) = (0 : Int32)))).1) ?_
        show Steps p.tables e below (T20.setTop (mkF m 313 #[.val (.int p1), .val (.int p2), .val (.int p3), .val (.int p4), .val (.int gg), .val (.int ss), .val (.long ((mn.toInt64) + (1 : Int64))), .second, .val (.int cc), .val (.ref b6), .val (.ref b10), .val (.double (own_f1 gg ss cc)), .second, .val (.double (own_f1 ss gg cc)), .second, .val (.double (4607182418800017408 : UInt64)), .second, .val (.int (1 : Int32)), .val (.int (1 : Int32)), .val (.int (1 : Int32)), .val (.int (1 : Int32)), .val (.int (1 : Int32))] [])) _
        refine XS.iconst X20.here hx rfl (hb hby at_313) ?_
        show Steps p.tables e below (T20.setTop (mkF m 314 #[.val (.int p1), .val (.int p2), .val (.int p3), .val (.int p4), .val (.int gg), .val (.int ss), .val (.long ((mn.toInt64) + (1 : Int64))), .second, .val (.int cc), .val (.ref b6), .val (.ref b10), .val (.double (own_f1 gg ss cc)), .second, .val (.double (own_f1 ss gg cc)), .second, .val (.double (4607182418800017408 : UInt64)), .second, .val (.int (1 : Int32)), .val (.int (1 : Int32)), .val (.int (1 : Int32)), .val (.int (1 : Int32)), .val (.int (1 : Int32))] [(.int (1 : Int32))])) _
        refine XS.goto X20.here hx rfl (pc0 := 314) (pc' := 318) rfl (hb hby at_314) (by decide) (by decide) ?_
        exact kt
      refine Go.adv sg22 ?_
      refine Go.ret (v := (some (.int (1 : Int32)))) X20 (fun h => by rw [Bd.returns] at h; cases h) Bd.notSynchronized (fun fs hr => retN X20 hx (t := .boolean) Bd.returns (by simp) (hb hby at_318) hr) ?_ (by decide) (by decide)
      show Q_rm0 Z p1 p2 p3 p4 h0 n0 (some (.int (1 : Int32))) T20.heap _
      rw [e20]
      exact ⟨rfl, N20⟩
    · have hc0 : cc = 0 := own_z32.mpr (by have := own_z32.mp hg; obtain ⟨c1, c2, c3⟩ := hC; omega)
      have hcg : cc = gg := hc0.trans hg.symm
      have hcs : ¬ (cc = ss) := fun q => hs (q.symm.trans hc0)
      obtain ⟨k1, k2, k3, k4⟩ := own_f1_B (cc := cc) (Or.inl hg) (fun q => hs (q.symm.trans hg))
      have sg23 : ∀ t, Steps p.tables e below (T20.setTop (mkF m 318 #[.val (.int p1), .val (.int p2), .val (.int p3), .val (.int p4), .val (.int gg), .val (.int ss), .val (.long ((mn.toInt64) + (1 : Int64))), .second, .val (.int cc), .val (.ref b6), .val (.ref b10), .val (.double (own_f1 gg ss cc)), .second, .val (.double (own_f1 ss gg cc)), .second, .val (.double (0 : UInt64)), .second, .val (.int (1 : Int32)), .val (.int (1 : Int32)), .val (.int (1 : Int32)), .val (.int (1 : Int32)), .val (.int (1 : Int32))] [(.int (1 : Int32))])) t → Steps p.tables e below (T20.setTop (mkF m 99 #[.val (.int p1), .val (.int p2), .val (.int p3), .val (.int p4), .val (.int gg), .val (.int ss), .val (.long ((mn.toInt64) + (1 : Int64))), .second, .val (.int cc), .val (.ref b6), .val (.ref b10), .val (.double (own_f1 gg ss cc)), .second, .val (.double (own_f1 ss gg cc)), .second, .unset, .unset, .unset, .unset, .unset, .unset, .unset] [])) t := by
        intro t kt
        show Steps p.tables e below (T20.setTop (mkF m 99 #[.val (.int p1), .val (.int p2), .val (.int p3), .val (.int p4), .val (.int gg), .val (.int ss), .val (.long ((mn.toInt64) + (1 : Int64))), .second, .val (.int cc), .val (.ref b6), .val (.ref b10), .val (.double (own_f1 gg ss cc)), .second, .val (.double (own_f1 ss gg cc)), .second, .unset, .unset, .unset, .unset, .unset, .unset, .unset] [])) _
        refine XS.iload X20.here hx rfl (hb hby at_99) rfl ?_
        show Steps p.tables e below (T20.setTop (mkF m 101 #[.val (.int p1), .val (.int p2), .val (.int p3), .val (.int p4), .val (.int gg), .val (.int ss), .val (.long ((mn.toInt64) + (1 : Int64))), .second, .val (.int cc), .val (.ref b6), .val (.ref b10), .val (.double (own_f1 gg ss cc)), .second, .val (.double (own_f1 ss gg cc)), .second, .unset, .unset, .unset, .unset, .unset, .unset, .unset] [(.int gg)])) _
        refine XS.ifNo X20.here hx rfl (hb hby at_101) rfl ((if0 _ _).trans (teq (hg : gg = (0 : Int32))).2) ?_
        show Steps p.tables e below (T20.setTop (mkF m 104 #[.val (.int p1), .val (.int p2), .val (.int p3), .val (.int p4), .val (.int gg), .val (.int ss), .val (.long ((mn.toInt64) + (1 : Int64))), .second, .val (.int cc), .val (.ref b6), .val (.ref b10), .val (.double (own_f1 gg ss cc)), .second, .val (.double (own_f1 ss gg cc)), .second, .unset, .unset, .unset, .unset, .unset, .unset, .unset] [])) _
        refine XS.iload X20.here hx rfl (hb hby at_104) rfl ?_
        show Steps p.tables e below (T20.setTop (mkF m 106 #[.val (.int p1), .val (.int p2), .val (.int p3), .val (.int p4), .val (.int gg), .val (.int ss), .val (.long ((mn.toInt64) + (1 : Int64))), .second, .val (.int cc), .val (.ref b6), .val (.ref b10), .val (.double (own_f1 gg ss cc)), .second, .val (.double (own_f1 ss gg cc)), .second, .unset, .unset, .unset, .unset, .unset, .unset, .unset] [(.int ss)])) _
        refine XS.ifYes X20.here hx rfl (pc0 := 106) (pc' := 115) rfl (hb hby at_106) rfl ((if0 _ _).trans (feq (hs : ¬ (ss = (0 : Int32)))).2) (by decide) (by decide) ?_
        show Steps p.tables e below (T20.setTop (mkF m 115 #[.val (.int p1), .val (.int p2), .val (.int p3), .val (.int p4), .val (.int gg), .val (.int ss), .val (.long ((mn.toInt64) + (1 : Int64))), .second, .val (.int cc), .val (.ref b6), .val (.ref b10), .val (.double (own_f1 gg ss cc)), .second, .val (.double (own_f1 ss gg cc)), .second, .unset, .unset, .unset, .unset, .unset, .unset, .unset] [])) _
        refine XS.iload X20.here hx rfl (hb hby at_115) rfl ?_
        show Steps p.tables e below (T20.setTop (mkF m 117 #[.val (.int p1), .val (.int p2), .val (.int p3), .val (.int p4), .val (.int gg), .val (.int ss), .val (.long ((mn.toInt64) + (1 : Int64))), .second, .val (.int cc), .val (.ref b6), .val (.ref b10), .val (.double (own_f1 gg ss cc)), .second, .val (.double (own_f1 ss gg cc)), .second, .unset, .unset, .unset, .unset, .unset, .unset, .unset] [(.int gg)])) _
        refine XS.ifYes X20.here hx rfl (pc0 := 117) (pc' := 125) rfl (hb hby at_117) rfl ((if0 _ _).trans (teq (hg : gg = (0 : Int32))).1) (by decide) (by decide) ?_
        show Steps p.tables e below (T20.setTop (mkF m 125 #[.val (.int p1), .val (.int p2), .val (.int p3), .val (.int p4), .val (.int gg), .val (.int ss), .val (.long ((mn.toInt64) + (1 : Int64))), .second, .val (.int cc), .val (.ref b6), .val (.ref b10), .val (.double (own_f1 gg ss cc)), .second, .val (.double (own_f1 ss gg cc)), .second, .unset, .unset, .unset, .unset, .unset, .unset, .unset] [])) _
        refine own_dconst0 X20.here hx rfl (hb hby at_125) ?_
        show Steps p.tables e below (T20.setTop (mkF m 126 #[.val (.int p1), .val (.int p2), .val (.int p3), .val (.int p4), .val (.int gg), .val (.int ss), .val (.long ((mn.toInt64) + (1 : Int64))), .second, .val (.int cc), .val (.ref b6), .val (.ref b10), .val (.double (own_f1 gg ss cc)), .second, .val (.double (own_f1 ss gg cc)), .second, .unset, .unset, .unset, .unset, .unset, .unset, .unset] [(.double (0 : UInt64))])) _
        refine own_dstore X20.here hx rfl (hb hby at_126) rfl (l' := #[.val (.int p1), .val (.int p2), .val (.int p3), .val (.int p4), .val (.int gg), .val (.int ss), .val (.long ((mn.toInt64) + (1 : Int64))), .second, .val (.int cc), .val (.ref b6), .val (.ref b10), .val (.double (own_f1 gg ss cc)), .second, .val (.double (own_f1 ss gg cc)), .second, .val (.double (0 : UInt64)), .second, .unset, .unset, .unset, .unset, .unset]) rfl ?_
        show Steps p.tables e below (T20.setTop (mkF m 128 #[.val (.int p1), .val (.int p2), .val (.int p3), .val (.int p4), .val (.int gg), .val (.int ss), .val (.long ((mn.toInt64) + (1 : Int64))), .second, .val (.int cc), .val (.ref b6), .val (.ref b10), .val (.double (own_f1 gg ss cc)), .second, .val (.double (own_f1 ss gg cc)), .second, .val (.double (0 : UInt64)), .second, .unset, .unset, .unset, .unset, .unset] [])) _
        refine XS.goto X20.here hx rfl (pc0 := 128) (pc' := 154) rfl (hb hby at_128) (by decide) (by decide) ?_
        show Steps p.tables e below (T20.setTop (mkF m 154 #[.val (.int p1), .val (.int p2), .val (.int p3), .val (.int p4), .val (.int gg), .val (.int ss), .val (.long ((mn.toInt64) + (1 : Int64))), .second, .val (.int cc), .val (.ref b6), .val (.ref b10), .val (.double (own_f1 gg ss cc)), .second, .val (.double (own_f1 ss gg cc)), .second, .val (.double (0 : UInt64)), .second, .unset, .unset, .unset, .unset, .unset] [])) _
        refine own_dload X20.here hx rfl (hb hby at_154) rfl ?_
        show Steps p.tables e below (T20.setTop (mkF m 156 #[.val (.int p1), .val (.int p2), .val (.int p3), .val (.int p4), .val (.int gg), .val (.int ss), .val (.long ((mn.toInt64) + (1 : Int64))), .second, .val (.int cc), .val (.ref b6), .val (.ref b10), .val (.double (own_f1 gg ss cc)), .second, .val (.double (own_f1 ss gg cc)), .second, .val (.double (0 : UInt64)), .second, .unset, .unset, .unset, .unset, .unset] [(.double (own_f1 gg ss cc))])) _
        refine own_dload X20.here hx rfl (hb hby at_156) rfl ?_
        show Steps p.tables e below (T20.setTop (mkF m 158 #[.val (.int p1), .val (.int p2), .val (.int p3), .val (.int p4), .val (.int gg), .val (.int ss), .val (.long ((mn.toInt64) + (1 : Int64))), .second, .val (.int cc), .val (.ref b6), .val (.ref b10), .val (.double (own_f1 gg ss cc)), .second, .val (.double (own_f1 ss gg cc)), .second, .val (.double (0 : UInt64)), .second, .unset, .unset, .unset, .unset, .unset] [(.double (0 : UInt64)), (.double (own_f1 gg ss cc))])) _
        refine own_dcmp X20.here hx rfl (hb hby at_158) rfl ?_
        show Steps p.tables e below (T20.setTop (mkF m 159 #[.val (.int p1), .val (.int p2), .val (.int p3), .val (.int p4), .val (.int gg), .val (.int ss), .val (.long ((mn.toInt64) + (1 : Int64))), .second, .val (.int cc), .val (.ref b6), .val (.ref b10), .val (.double (own_f1 gg ss cc)), .second, .val (.double (own_f1 ss gg cc)), .second, .val (.double (0 : UInt64)), .second, .unset, .unset, .unset, .unset, .unset] [(.int (cmpValue (FP.dcmp (own_f1 gg ss cc) (0 : UInt64)) .l))])) _
        refine XS.ifNo X20.here hx rfl (hb hby at_159) rfl ((if0 _ _).trans (teq ((by rw [Own.cv_eq k4] <;> decide) : (cmpValue (FP.dcmp (own_f1 gg ss cc) (0 : UInt64)) .l) = (0 : Int32))).2) ?_
        show Steps p.tables e below (T20.setTop (mkF m 162 #[.val (.int p1), .val (.int p2), .val (.int p3), .val (.int p4), .val (.int gg), .val (.int ss), .val (.long ((mn.toInt64) + (1 : Int64))), .second, .val (.int cc), .val (.ref b6), .val (.ref b10), .val (.double (own_f1 gg ss cc)), .second, .val (.double (own_f1 ss gg cc)), .second, .val (.double (0 : UInt64)), .second, .unset, .unset, .unset, .unset, .unset] [])) _
        refine XS.iconst X20.here hx rfl (hb hby at_162) ?_
        show Steps p.tables e below (T20.setTop (mkF m 163 #[.val (.int p1), .val (.int p2), .val (.int p3), .val (.int p4), .val (.int gg), .val (.int ss), .val (.long ((mn.toInt64) + (1 : Int64))), .second, .val (.int cc), .val (.ref b6), .val (.ref b10), .val (.double (own_f1 gg ss cc)), .second, .val (.double (own_f1 ss gg cc)), .second, .val (.double (0 : UInt64)), .second, .unset, .unset, .unset, .unset, .unset] [(.int (1 : Int32))])) _
        refine XS.goto X20.here hx rfl (pc0 := 163) (pc' := 167) rfl (hb hby at_163) (by decide) (by decide) ?_
        show Steps p.tables e below (T20.setTop (mkF m 167 #[.val (.int p1), .val (.int p2), .val (.int p3), .val (.int p4), .val (.int gg), .val (.int ss), .val (.long ((mn.toInt64) + (1 : Int64))), .second, .val (.int cc), .val (.ref b6), .val (.ref b10), .val (.double (own_f1 gg ss cc)), .second, .val (.double (own_f1 ss gg cc)), .second, .val (.double (0 : UInt64)), .second, .unset, .unset, .unset, .unset, .unset] [(.int (1 : Int32))])) _
        refine XS.istore X20.here hx rfl (hb hby at_167) rfl (l' := #[.val (.int p1), .val (.int p2), .val (.int p3), .val (.int p4), .val (.int gg), .val (.int ss), .val (.long ((mn.toInt64) + (1 : Int64))), .second, .val (.int cc), .val (.ref b6), .val (.ref b10), .val (.double (own_f1 gg ss cc)), .second, .val (.double (own_f1 ss gg cc)), .second, .val (.double (0 : UInt64)), .second, .val (.int (1 : Int32)), .unset, .unset, .unset, .unset]) rfl ?_
        show Steps p.tables e below (T20.setTop (mkF m 169 #[.val (.int p1), .val (.int p2), .val (.int p3), .val (.int p4), .val (.int gg), .val (.int ss), .val (.long ((mn.toInt64) + (1 : Int64))), .second, .val (.int cc), .val (.ref b6), .val (.ref b10), .val (.double (own_f1 gg ss cc)), .second, .val (.double (own_f1 ss gg cc)), .second, .val (.double (0 : UInt64)), .second, .val (.int (1 : Int32)), .unset, .unset, .unset, .unset] [])) _
        refine own_dload X20.here hx rfl (hb hby at_169) rfl ?_
        show Steps p.tables e below (T20.setTop (mkF m 171 #[.val (.int p1), .val (.int p2), .val (.int p3), .val (.int p4), .val (.int gg), .val (.int ss), .val (.long ((mn.toInt64) + (1 : Int64))), .second, .val (.int cc), .val (.ref b6), .val (.ref b10), .val (.double (own_f1 gg ss cc)), .second, .val (.double (own_f1 ss gg cc)), .second, .val (.double (0 : UInt64)), .second, .val (.int (1 : Int32)), .unset, .unset, .unset, .unset] [(.double (own_f1 gg ss cc))])) _
        refine own_dload X20.here hx rfl (hb hby at_171) rfl ?_
        show Steps p.tables e below (T20.setTop (mkF m 173 #[.val (.int p1), .val (.int p2), .val (.int p3), .val (.int p4), .val (.int gg), .val (.int ss), .val (.long ((mn.toInt64) + (1 : Int64))), .second, .val (.int cc), .val (.ref b6), .val (.ref b10), .val (.double (own_f1 gg ss cc)), .second, .val (.double (own_f1 ss gg cc)), .second, .val (.double (0 : UInt64)), .second, .val (.int (1 : Int32)), .unset, .unset, .unset, .unset] [(.double (own_f1 ss gg cc)), (.double (own_f1 gg ss cc))])) _
        refine own_dcmp X20.here hx rfl (hb hby at_173) rfl ?_
        show Steps p.tables e below (T20.setTop (mkF m 174 #[.val (.int p1), .val (.int p2), .val (.int p3), .val (.int p4), .val (.int gg), .val (.int ss), .val (.long ((mn.toInt64) + (1 : Int64))), .second, .val (.int cc), .val (.ref b6), .val (.ref b10), .val (.double (own_f1 gg ss cc)), .second, .val (.double (own_f1 ss gg cc)), .second, .val (.double (0 : UInt64)), .second, .val (.int (1 : Int32)), .unset, .unset, .unset, .unset] [(.int (cmpValue (FP.dcmp (own_f1 gg ss cc) (own_f1 ss gg cc)) .l))])) _
        refine XS.ifNo X20.here hx rfl (hb hby at_174) rfl ((if0 _ _).trans (teq ((by rw [Own.cv_eq k2] <;> decide) : (cmpValue (FP.dcmp (own_f1 gg ss cc) (own_f1 ss gg cc)) .l) = (0 : Int32))).2) ?_
        show Steps p.tables e below (T20.setTop (mkF m 177 #[.val (.int p1), .val (.int p2), .val (.int p3), .val (.int p4), .val (.int gg), .val (.int ss), .val (.long ((mn.toInt64) + (1 : Int64))), .second, .val (.int cc), .val (.ref b6), .val (.ref b10), .val (.double (own_f1 gg ss cc)), .second, .val (.double (own_f1 ss gg cc)), .second, .val (.double (0 : UInt64)), .second, .val (.int (1 : Int32)), .unset, .unset, .unset, .unset] [])) _
        refine XS.iconst X20.here hx rfl (hb hby at_177) ?_
        show Steps p.tables e below (T20.setTop (mkF m 178 #[.val (.int p1), .val (.int p2), .val (.int p3), .val (.int p4), .val (.int gg), .val (.int ss), .val (.long ((mn.toInt64) + (1 : Int64))), .second, .val (.int cc), .val (.ref b6), .val (.ref b10), .val (.double (own_f1 gg ss cc)), .second, .val (.double (own_f1 ss gg cc)), .second, .val (.double (0 : UInt64)), .second, .val (.int (1 : Int32)), .unset, .unset, .unset, .unset] [(.int (1 : Int32))])) _
        refine XS.goto X20.here hx rfl (pc0 := 178) (pc' := 182) rfl (hb hby at_178) (by decide) (by decide) ?_
        show Steps p.tables e below (T20.setTop (mkF m 182 #[.val (.int p1), .val (.int p2), .val (.int p3), .val (.int p4), .val (.int gg), .val (.int ss), .val (.long ((mn.toInt64) + (1 : Int64))), .second, .val (.int cc), .val (.ref b6), .val (.ref b10), .val (.double (own_f1 gg ss cc)), .second, .val (.double (own_f1 ss gg cc)), .second, .val (.double (0 : UInt64)), .second, .val (.int (1 : Int32)), .unset, .unset, .unset, .unset] [(.int (1 : Int32))])) _
        refine XS.istore X20.here hx rfl (hb hby at_182) rfl (l' := #[.val (.int p1), .val (.int p2), .val (.int p3), .val (.int p4), .val (.int gg), .val (.int ss), .val (.long ((mn.toInt64) + (1 : Int64))), .second, .val (.int cc), .val (.ref b6), .val (.ref b10), .val (.double (own_f1 gg ss cc)), .second, .val (.double (own_f1 ss gg cc)), .second, .val (.double (0 : UInt64)), .second, .val (.int (1 : Int32)), .val (.int (1 : Int32)), .unset, .unset, .unset]) rfl ?_
        show Steps p.tables e below (T20.setTop (mkF m 184 #[.val (.int p1), .val (.int p2), .val (.int p3), .val (.int p4), .val (.int gg), .val (.int ss), .val (.long ((mn.toInt64) + (1 : Int64))), .second, .val (.int cc), .val (.ref b6), .val (.ref b10), .val (.double (own_f1 gg ss cc)), .second, .val (.double (own_f1 ss gg cc)), .second, .val (.double (0 : UInt64)), .second, .val (.int (1 : Int32)), .val (.int (1 : Int32)), .unset, .unset, .unset] [])) _
        refine own_dconst0 X20.here hx rfl (hb hby at_184) ?_
        show Steps p.tables e below (T20.setTop (mkF m 185 #[.val (.int p1), .val (.int p2), .val (.int p3), .val (.int p4), .val (.int gg), .val (.int ss), .val (.long ((mn.toInt64) + (1 : Int64))), .second, .val (.int cc), .val (.ref b6), .val (.ref b10), .val (.double (own_f1 gg ss cc)), .second, .val (.double (own_f1 ss gg cc)), .second, .val (.double (0 : UInt64)), .second, .val (.int (1 : Int32)), .val (.int (1 : Int32)), .unset, .unset, .unset] [(.double (0 : UInt64))])) _
        refine own_dload X20.here hx rfl (hb hby at_185) rfl ?_
        show Steps p.tables e below (T20.setTop (mkF m 187 #[.val (.int p1), .val (.int p2), .val (.int p3), .val (.int p4), .val (.int gg), .val (.int ss), .val (.long ((mn.toInt64) + (1 : Int64))), .second, .val (.int cc), .val (.ref b6), .val (.ref b10), .val (.double (own_f1 gg ss cc)), .second, .val (.double (own_f1 ss gg cc)), .second, .val (.double (0 : UInt64)), .second, .val (.int (1 : Int32)), .val (.int (1 : Int32)), .unset, .unset, .unset] [(.double (own_f1 gg ss cc)), (.double (0 : UInt64))])) _
        refine own_dcmp X20.here hx rfl (hb hby at_187) rfl ?_
        show Steps p.tables e below (T20.setTop (mkF m 188 #[.val (.int p1), .val (.int p2), .val (.int p3), .val (.int p4), .val (.int gg), .val (.int ss), .val (.long ((mn.toInt64) + (1 : Int64))), .second, .val (.int cc), .val (.ref b6), .val (.ref b10), .val (.double (own_f1 gg ss cc)), .second, .val (.double (own_f1 ss gg cc)), .second, .val (.double (0 : UInt64)), .second, .val (.int (1 : Int32)), .val (.int (1 : Int32)), .unset, .unset, .unset] [(.int (cmpValue (FP.dcmp (0 : UInt64) (own_f1 gg ss cc)) .g))])) _
        refine XS.ifNo X20.here hx rfl (hb hby at_188) rfl ((if0 _ _).trans (flt ((by rw [Own.cv_eq k3] <;> decide) : ¬ ((0 : Int32) < (cmpValue (FP.dcmp (0 : UInt64) (own_f1 gg ss cc)) .g)))).2.2.1) ?_
        show Steps p.tables e below (T20.setTop (mkF m 191 #[.val (.int p1), .val (.int p2), .val (.int p3), .val (.int p4), .val (.int gg), .val (.int ss), .val (.long ((mn.toInt64) + (1 : Int64))), .second, .val (.int cc), .val (.ref b6), .val (.ref b10), .val (.double (own_f1 gg ss cc)), .second, .val (.double (own_f1 ss gg cc)), .second, .val (.double (0 : UInt64)), .second, .val (.int (1 : Int32)), .val (.int (1 : Int32)), .unset, .unset, .unset] [])) _
        refine own_dload X20.here hx rfl (hb hby at_191) rfl ?_
        show Steps p.tables e below (T20.setTop (mkF m 193 #[.val (.int p1), .val (.int p2), .val (.int p3), .val (.int p4), .val (.int gg), .val (.int ss), .val (.long ((mn.toInt64) + (1 : Int64))), .second, .val (.int cc), .val (.ref b6), .val (.ref b10), .val (.double (own_f1 gg ss cc)), .second, .val (.double (own_f1 ss gg cc)), .second, .val (.double (0 : UInt64)), .second, .val (.int (1 : Int32)), .val (.int (1 : Int32)), .unset, .unset, .unset] [(.double (own_f1 gg ss cc))])) _
        refine own_dconst1 X20.here hx rfl (hb hby at_193) ?_
        show Steps p.tables e below (T20.setTop (mkF m 194 #[.val (.int p1), .val (.int p2), .val (.int p3), .val (.int p4), .val (.int gg), .val (.int ss), .val (.long ((mn.toInt64) + (1 : Int64))), .second, .val (.int cc), .val (.ref b6), .val (.ref b10), .val (.double (own_f1 gg ss cc)), .second, .val (.double (own_f1 ss gg cc)), .second, .val (.double (0 : UInt64)), .second, .val (.int (1 : Int32)), .val (.int (1 : Int32)), .unset, .unset, .unset] [(.double (4607182418800017408 : UInt64)), (.double (own_f1 gg ss cc))])) _
        refine own_dcmp X20.here hx rfl (hb hby at_194) rfl ?_
        show Steps p.tables e below (T20.setTop (mkF m 195 #[.val (.int p1), .val (.int p2), .val (.int p3), .val (.int p4), .val (.int gg), .val (.int ss), .val (.long ((mn.toInt64) + (1 : Int64))), .second, .val (.int cc), .val (.ref b6), .val (.ref b10), .val (.double (own_f1 gg ss cc)), .second, .val (.double (own_f1 ss gg cc)), .second, .val (.double (0 : UInt64)), .second, .val (.int (1 : Int32)), .val (.int (1 : Int32)), .unset, .unset, .unset] [(.int (cmpValue (FP.dcmp (own_f1 gg ss cc) (4607182418800017408 : UInt64)) .g))])) _
        refine XS.ifNo X20.here hx rfl (hb hby at_195) rfl ((if0 _ _).trans (flt ((by rw [Own.cv_lt k1] <;> decide) : ¬ ((0 : Int32) < (cmpValue (FP.dcmp (own_f1 gg ss cc) (4607182418800017408 : UInt64)) .g)))).2.2.1) ?_
        show Steps p.tables e below (T20.setTop (mkF m 198 #[.val (.int p1), .val (.int p2), .val (.int p3), .val (.int p4), .val (.int gg), .val (.int ss), .val (.long ((mn.toInt64) + (1 : Int64))), .second, .val (.int cc), .val (.ref b6), .val (.ref b10), .val (.double (own_f1 gg ss cc)), .second, .val (.double (own_f1 ss gg cc)), .second, .val (.double (0 : UInt64)), .second, .val (.int (1 : Int32)), .val (.int (1 : Int32)), .unset, .unset, .unset] [])) _
        refine XS.iconst X20.here hx rfl (hb hby at_198) ?_
        show Steps p.tables e below (T20.setTop (mkF m 199 #[.val (.int p1), .val (.int p2), .val (.int p3), .val (.int p4), .val (.int gg), .val (.int ss), .val (.long ((mn.toInt64) + (1 : Int64))), .second, .val (.int cc), .val (.ref b6), .val (.ref b10), .val (.double (own_f1 gg ss cc)), .second, .val (.double (own_f1 ss gg cc)), .second, .val (.double (0 : UInt64)), .second, .val (.int (1 : Int32)), .val (.int (1 : Int32)), .unset, .unset, .unset] [(.int (1 : Int32))])) _
        refine XS.goto X20.here hx rfl (pc0 := 199) (pc' := 203) rfl (hb hby at_199) (by decide) (by decide) ?_
        show Steps p.tables e below (T20.setTop (mkF m 203 #[.val (.int p1), .val (.int p2), .val (.int p3), .val (.int p4), .val (.int gg), .val (.int ss), .val (.long ((mn.toInt64) + (1 : Int64))), .second, .val (.int cc), .val (.ref b6), .val (.ref b10), .val (.double (own_f1 gg ss cc)), .second, .val (.double (own_f1 ss gg cc)), .second, .val (.double (0 : UInt64)), .second, .val (.int (1 : Int32)), .val (.int (1 : Int32)), .unset, .unset, .unset] [(.int (1 : Int32))])) _
        refine XS.istore X20.here hx rfl (hb hby at_203) rfl (l' := #[.val (.int p1), .val (.int p2), .val (.int p3), .val (.int p4), .val (.int gg), .val (.int ss), .val (.long ((mn.toInt64) + (1 : Int64))), .second, .val (.int cc), .val (.ref b6), .val (.ref b10), .val (.double (own_f1 gg ss cc)), .second, .val (.double (own_f1 ss gg cc)), .second, .val (.double (0 : UInt64)), .second, .val (.int (1 : Int32)), .val (.int (1 : Int32)), .val (.int (1 : Int32)), .unset, .unset]) rfl ?_
        show Steps p.tables e below (T20.setTop (mkF m 205 #[.val (.int p1), .val (.int p2), .val (.int p3), .val (.int p4), .val (.int gg), .val (.int ss), .val (.long ((mn.toInt64) + (1 : Int64))), .second, .val (.int cc), .val (.ref b6), .val (.ref b10), .val (.double (own_f1 gg ss cc)), .second, .val (.double (own_f1 ss gg cc)), .second, .val (.double (0 : UInt64)), .second, .val (.int (1 : Int32)), .val (.int (1 : Int32)), .val (.int (1 : Int32)), .unset, .unset] [])) _
        refine own_dload X20.here hx rfl (hb hby at_205) rfl ?_
        show Steps p.tables e below (T20.setTop (mkF m 207 #[.val (.int p1), .val (.int p2), .val (.int p3), .val (.int p4), .val (.int gg), .val (.int ss), .val (.long ((mn.toInt64) + (1 : Int64))), .second, .val (.int cc), .val (.ref b6), .val (.ref b10), .val (.double (own_f1 gg ss cc)), .second, .val (.double (own_f1 ss gg cc)), .second, .val (.double (0 : UInt64)), .second, .val (.int (1 : Int32)), .val (.int (1 : Int32)), .val (.int (1 : Int32)), .unset, .unset] [(.double (own_f1 gg ss cc))])) _
        refine own_dconst1 X20.here hx rfl (hb hby at_207) ?_
        show Steps p.tables e below (T20.setTop (mkF m 208 #[.val (.int p1), .val (.int p2), .val (.int p3), .val (.int p4), .val (.int gg), .val (.int ss), .val (.long ((mn.toInt64) + (1 : Int64))), .second, .val (.int cc), .val (.ref b6), .val (.ref b10), .val (.double (own_f1 gg ss cc)), .second, .val (.double (own_f1 ss gg cc)), .second, .val (.double (0 : UInt64)), .second, .val (.int (1 : Int32)), .val (.int (1 : Int32)), .val (.int (1 : Int32)), .unset, .unset] [(.double (4607182418800017408 : UInt64)), (.double (own_f1 gg ss cc))])) _
        refine own_dcmp X20.here hx rfl (hb hby at_208) rfl ?_
        show Steps p.tables e below (T20.setTop (mkF m 209 #[.val (.int p1), .val (.int p2), .val (.int p3), .val (.int p4), .val (.int gg), .val (.int ss), .val (.long ((mn.toInt64) + (1 : Int64))), .second, .val (.int cc), .val (.ref b6), .val (.ref b10), .val (.double (own_f1 gg ss cc)), .second, .val (.double (own_f1 ss gg cc)), .second, .val (.double (0 : UInt64)), .second, .val (.int (1 : Int32)), .val (.int (1 : Int32)), .val (.int (1 : Int32)), .unset, .unset] [(.int (cmpValue (FP.dcmp (own_f1 gg ss cc) (4607182418800017408 : UInt64)) .l))])) _
        refine XS.ifYes X20.here hx rfl (pc0 := 209) (pc' := 216) rfl (hb hby at_209) rfl ((if0 _ _).trans (feq ((by rw [Own.cv_lt k1] <;> decide) : ¬ ((cmpValue (FP.dcmp (own_f1 gg ss cc) (4607182418800017408 : UInt64)) .l) = (0 : Int32)))).2) (by decide) (by decide) ?_
        show Steps p.tables e below (T20.setTop (mkF m 216 #[.val (.int p1), .val (.int p2), .val (.int p3), .val (.int p4), .val (.int gg), .val (.int ss), .val (.long ((mn.toInt64) + (1 : Int64))), .second, .val (.int cc), .val (.ref b6), .val (.ref b10), .val (.double (own_f1 gg ss cc)), .second, .val (.double (own_f1 ss gg cc)), .second, .val (.double (0 : UInt64)), .second, .val (.int (1 : Int32)), .val (.int (1 : Int32)), .val (.int (1 : Int32)), .unset, .unset] [])) _
        refine XS.iconst X20.here hx rfl (hb hby at_216) ?_
        show Steps p.tables e below (T20.setTop (mkF m 217 #[.val (.int p1), .val (.int p2), .val (.int p3), .val (.int p4), .val (.int gg), .val (.int ss), .val (.long ((mn.toInt64) + (1 : Int64))), .second, .val (.int cc), .val (.ref b6), .val (.ref b10), .val (.double (own_f1 gg ss cc)), .second, .val (.double (own_f1 ss gg cc)), .second, .val (.double (0 : UInt64)), .second, .val (.int (1 : Int32)), .val (.int (1 : Int32)), .val (.int (1 : Int32)), .unset, .unset] [(.int (0 : Int32))])) _
        refine XS.iload X20.here hx rfl (hb hby at_217) rfl ?_
        show Steps p.tables e below (T20.setTop (mkF m 219 #[.val (.int p1), .val (.int p2), .val (.int p3), .val (.int p4), .val (.int gg), .val (.int ss), .val (.long ((mn.toInt64) + (1 : Int64))), .second, .val (.int cc), .val (.ref b6), .val (.ref b10), .val (.double (own_f1 gg ss cc)), .second, .val (.double (own_f1 ss gg cc)), .second, .val (.double (0 : UInt64)), .second, .val (.int (1 : Int32)), .val (.int (1 : Int32)), .val (.int (1 : Int32)), .unset, .unset] [(.int cc), (.int (0 : Int32))])) _
        refine XS.iload X20.here hx rfl (hb hby at_219) rfl ?_
        show Steps p.tables e below (T20.setTop (mkF m 221 #[.val (.int p1), .val (.int p2), .val (.int p3), .val (.int p4), .val (.int gg), .val (.int ss), .val (.long ((mn.toInt64) + (1 : Int64))), .second, .val (.int cc), .val (.ref b6), .val (.ref b10), .val (.double (own_f1 gg ss cc)), .second, .val (.double (own_f1 ss gg cc)), .second, .val (.double (0 : UInt64)), .second, .val (.int (1 : Int32)), .val (.int (1 : Int32)), .val (.int (1 : Int32)), .unset, .unset] [(.int gg), (.int cc), (.int (0 : Int32))])) _
        refine XS.icmpNo X20.here hx rfl (hb hby at_221) rfl (teq (hcg : cc = gg)).2 ?_
        show Steps p.tables e below (T20.setTop (mkF m 224 #[.val (.int p1), .val (.int p2), .val (.int p3), .val (.int p4), .val (.int gg), .val (.int ss), .val (.long ((mn.toInt64) + (1 : Int64))), .second, .val (.int cc), .val (.ref b6), .val (.ref b10), .val (.double (own_f1 gg ss cc)), .second, .val (.double (own_f1 ss gg cc)), .second, .val (.double (0 : UInt64)), .second, .val (.int (1 : Int32)), .val (.int (1 : Int32)), .val (.int (1 : Int32)), .unset, .unset] [(.int (0 : Int32))])) _
        refine XS.iload X20.here hx rfl (hb hby at_224) rfl ?_
        show Steps p.tables e below (T20.setTop (mkF m 226 #[.val (.int p1), .val (.int p2), .val (.int p3), .val (.int p4), .val (.int gg), .val (.int ss), .val (.long ((mn.toInt64) + (1 : Int64))), .second, .val (.int cc), .val (.ref b6), .val (.ref b10), .val (.double (own_f1 gg ss cc)), .second, .val (.double (own_f1 ss gg cc)), .second, .val (.double (0 : UInt64)), .second, .val (.int (1 : Int32)), .val (.int (1 : Int32)), .val (.int (1 : Int32)), .unset, .unset] [(.int cc), (.int (0 : Int32))])) _
        refine XS.iload X20.here hx rfl (hb hby at_226) rfl ?_
        show Steps p.tables e below (T20.setTop (mkF m 228 #[.val (.int p1), .val (.int p2), .val (.int p3), .val (.int p4), .val (.int gg), .val (.int ss), .val (.long ((mn.toInt64) + (1 : Int64))), .second, .val (.int cc), .val (.ref b6), .val (.ref b10), .val (.double (own_f1 gg ss cc)), .second, .val (.double (own_f1 ss gg cc)), .second, .val (.double (0 : UInt64)), .second, .val (.int (1 : Int32)), .val (.int (1 : Int32)), .val (.int (1 : Int32)), .unset, .unset] [(.int ss), (.int cc), (.int (0 : Int32))])) _
        refine XS.icmpYes X20.here hx rfl (pc0 := 228) (pc' := 235) rfl (hb hby at_228) rfl (feq (hcs : ¬ (cc = ss))).2 (by decide) (by decide) ?_
        show Steps p.tables e below (T20.setTop (mkF m 235 #[.val (.int p1), .val (.int p2), .val (.int p3), .val (.int p4), .val (.int gg), .val (.int ss), .val (.long ((mn.toInt64) + (1 : Int64))), .second, .val (.int cc), .val (.ref b6), .val (.ref b10), .val (.double (own_f1 gg ss cc)), .second, .val (.double (own_f1 ss gg cc)), .second, .val (.double (0 : UInt64)), .second, .val (.int (1 : Int32)), .val (.int (1 : Int32)), .val (.int (1 : Int32)), .unset, .unset] [(.int (0 : Int32))])) _
        refine XS.iconst X20.here hx rfl (hb hby at_235) ?_
        show Steps p.tables e below (T20.setTop (mkF m 236 #[.val (.int p1), .val (.int p2), .val (.int p3), .val (.int p4), .val (.int gg), .val (.int ss), .val (.long ((mn.toInt64) + (1 : Int64))), .second, .val (.int cc), .val (.ref b6), .val (.ref b10), .val (.double (own_f1 gg ss cc)), .second, .val (.double (own_f1 ss gg cc)), .second, .val (.double (0 : UInt64)), .second, .val (.int (1 : Int32)), .val (.int (1 : Int32)), .val (.int (1 : Int32)), .unset, .unset] [(.int (0 : Int32)), (.int (0 : Int32))])) _
        refine XS.icmpNo X20.here hx rfl (hb hby at_236) rfl (teq (by decide : (0 : Int32) = (0 : Int32))).2 ?_
        show Steps p.tables e below (T20.setTop (mkF m 239 #[.val (.int p1), .val (.int p2), .val (.int p3), .val (.int p4), .val (.int gg), .val (.int ss), .val (.long ((mn.toInt64) + (1 : Int64))), .second, .val (.int cc), .val (.ref b6), .val (.ref b10), .val (.double (own_f1 gg ss cc)), .second, .val (.double (own_f1 ss gg cc)), .second, .val (.double (0 : UInt64)), .second, .val (.int (1 : Int32)), .val (.int (1 : Int32)), .val (.int (1 : Int32)), .unset, .unset] [])) _
        refine XS.iconst X20.here hx rfl (hb hby at_239) ?_
        show Steps p.tables e below (T20.setTop (mkF m 240 #[.val (.int p1), .val (.int p2), .val (.int p3), .val (.int p4), .val (.int gg), .val (.int ss), .val (.long ((mn.toInt64) + (1 : Int64))), .second, .val (.int cc), .val (.ref b6), .val (.ref b10), .val (.double (own_f1 gg ss cc)), .second, .val (.double (own_f1 ss gg cc)), .second, .val (.double (0 : UInt64)), .second, .val (.int (1 : Int32)), .val (.int (1 : Int32)), .val (.int (1 : Int32)), .unset, .unset] [(.int (1 : Int32))])) _
        refine XS.goto X20.here hx rfl (pc0 := 240) (pc' := 244) rfl (hb hby at_240) (by decide) (by decide) ?_
        show Steps p.tables e below (T20.setTop (mkF m 244 #[.val (.int p1), .val (.int p2), .val (.int p3), .val (.int p4), .val (.int gg), .val (.int ss), .val (.long ((mn.toInt64) + (1 : Int64))), .second, .val (.int cc), .val (.ref b6), .val (.ref b10), .val (.double (own_f1 gg ss cc)), .second, .val (.double (own_f1 ss gg cc)), .second, .val (.double (0 : UInt64)), .second, .val (.int (1 : Int32)), .val (.int (1 : Int32)), .val (.int (1 : Int32)), .unset, .unset] [(.int (1 : Int32))])) _
        refine XS.istore X20.here hx rfl (hb hby at_244) rfl (l' := #[.val (.int p1), .val (.int p2), .val (.int p3), .val (.int p4), .val (.int gg), .val (.int ss), .val (.long ((mn.toInt64) + (1 : Int64))), .second, .val (.int cc), .val (.ref b6), .val (.ref b10), .val (.double (own_f1 gg ss cc)), .second, .val (.double (own_f1 ss gg cc)), .second, .val (.double (0 : UInt64)), .second, .val (.int (1 : Int32)), .val (.int (1 : Int32)), .val (.int (1 : Int32)), .val (.int (1 : Int32)), .unset]) rfl ?_
        show Steps p.tables e below (T20.setTop (mkF m 246 #[.val (.int p1), .val (.int p2), .val (.int p3), .val (.int p4), .val (.int gg), .val (.int ss), .val (.long ((mn.toInt64) + (1 : Int64))), .second, .val (.int cc), .val (.ref b6), .val (.ref b10), .val (.double (own_f1 gg ss cc)), .second, .val (.double (own_f1 ss gg cc)), .second, .val (.double (0 : UInt64)), .second, .val (.int (1 : Int32)), .val (.int (1 : Int32)), .val (.int (1 : Int32)), .val (.int (1 : Int32)), .unset] [])) _
        refine own_dload X20.here hx rfl (hb hby at_246) rfl ?_
        show Steps p.tables e below (T20.setTop (mkF m 248 #[.val (.int p1), .val (.int p2), .val (.int p3), .val (.int p4), .val (.int gg), .val (.int ss), .val (.long ((mn.toInt64) + (1 : Int64))), .second, .val (.int cc), .val (.ref b6), .val (.ref b10), .val (.double (own_f1 gg ss cc)), .second, .val (.double (own_f1 ss gg cc)), .second, .val (.double (0 : UInt64)), .second, .val (.int (1 : Int32)), .val (.int (1 : Int32)), .val (.int (1 : Int32)), .val (.int (1 : Int32)), .unset] [(.double (own_f1 gg ss cc))])) _
        refine own_dconst0 X20.here hx rfl (hb hby at_248) ?_
        show Steps p.tables e below (T20.setTop (mkF m 249 #[.val (.int p1), .val (.int p2), .val (.int p3), .val (.int p4), .val (.int gg), .val (.int ss), .val (.long ((mn.toInt64) + (1 : Int64))), .second, .val (.int cc), .val (.ref b6), .val (.ref b10), .val (.double (own_f1 gg ss cc)), .second, .val (.double (own_f1 ss gg cc)), .second, .val (.double (0 : UInt64)), .second, .val (.int (1 : Int32)), .val (.int (1 : Int32)), .val (.int (1 : Int32)), .val (.int (1 : Int32)), .unset] [(.double (0 : UInt64)), (.double (own_f1 gg ss cc))])) _
        refine own_dcmp X20.here hx rfl (hb hby at_249) rfl ?_
        show Steps p.tables e below (T20.setTop (mkF m 250 #[.val (.int p1), .val (.int p2), .val (.int p3), .val (.int p4), .val (.int gg), .val (.int ss), .val (.long ((mn.toInt64) + (1 : Int64))), .second, .val (.int cc), .val (.ref b6), .val (.ref b10), .val (.double (own_f1 gg ss cc)), .second, .val (.double (own_f1 ss gg cc)), .second, .val (.double (0 : UInt64)), .second, .val (.int (1 : Int32)), .val (.int (1 : Int32)), .val (.int (1 : Int32)), .val (.int (1 : Int32)), .unset] [(.int (cmpValue (FP.dcmp (own_f1 gg ss cc) (0 : UInt64)) .l))])) _
        refine XS.ifNo X20.here hx rfl (hb hby at_250) rfl ((if0 _ _).trans (teq ((by rw [Own.cv_eq k4] <;> decide) : (cmpValue (FP.dcmp (own_f1 gg ss cc) (0 : UInt64)) .l) = (0 : Int32))).2) ?_
        show Steps p.tables e below (T20.setTop (mkF m 253 #[.val (.int p1), .val (.int p2), .val (.int p3), .val (.int p4), .val (.int gg), .val (.int ss), .val (.long ((mn.toInt64) + (1 : Int64))), .second, .val (.int cc), .val (.ref b6), .val (.ref b10), .val (.double (own_f1 gg ss cc)), .second, .val (.double (own_f1 ss gg cc)), .second, .val (.double (0 : UInt64)), .second, .val (.int (1 : Int32)), .val (.int (1 : Int32)), .val (.int (1 : Int32)), .val (.int (1 : Int32)), .unset] [])) _
        refine XS.iconst X20.here hx rfl (hb hby at_253) ?_
        show Steps p.tables e below (T20.setTop (mkF m 254 #[.val (.int p1), .val (.int p2), .val (.int p3), .val (.int p4), .val (.int gg), .val (.int ss), .val (.long ((mn.toInt64) + (1 : Int64))), .second, .val (.int cc), .val (.ref b6), .val (.ref b10), .val (.double (own_f1 gg ss cc)), .second, .val (.double (own_f1 ss gg cc)), .second, .val (.double (0 : UInt64)), .second, .val (.int (1 : Int32)), .val (.int (1 : Int32)), .val (.int (1 : Int32)), .val (.int (1 : Int32)), .unset] [(.int (1 : Int32))])) _
        refine XS.goto X20.here hx rfl (pc0 := 254) (pc' := 258) rfl (hb hby at_254) (by decide) (by decide) ?_
        show Steps p.tables e below (T20.setTop (mkF m 258 #[.val (.int p1), .val (.int p2), .val (.int p3), .val (.int p4), .val (.int gg), .val (.int ss), .val (.long ((mn.toInt64) + (1 : Int64))), .second, .val (.int cc), .val (.ref b6), .val (.ref b10), .val (.double (own_f1 gg ss cc)), .second, .val (.double (own_f1 ss gg cc)), .second, .val (.double (0 : UInt64)), .second, .val (.int (1 : Int32)), .val (.int (1 : Int32)), .val (.int (1 : Int32)), .val (.int (1 : Int32)), .unset] [(.int (1 : Int32))])) _
        refine XS.iload X20.here hx rfl (hb hby at_258) rfl ?_
        show Steps p.tables e below (T20.setTop (mkF m 260 #[.val (.int p1), .val (.int p2), .val (.int p3), .val (.int p4), .val (.int gg), .val (.int ss), .val (.long ((mn.toInt64) + (1 : Int64))), .second, .val (.int cc), .val (.ref b6), .val (.ref b10), .val (.double (own_f1 gg ss cc)), .second, .val (.double (own_f1 ss gg cc)), .second, .val (.double (0 : UInt64)), .second, .val (.int (1 : Int32)), .val (.int (1 : Int32)), .val (.int (1 : Int32)), .val (.int (1 : Int32)), .unset] [(.int cc), (.int (1 : Int32))])) _
        refine XS.ifNo X20.here hx rfl (hb hby at_260) rfl ((if0 _ _).trans (teq (hc0 : cc = (0 : Int32))).2) ?_
        show Steps p.tables e below (T20.setTop (mkF m 263 #[.val (.int p1), .val (.int p2), .val (.int p3), .val (.int p4), .val (.int gg), .val (.int ss), .val (.long ((mn.toInt64) + (1 : Int64))), .second, .val (.int cc), .val (.ref b6), .val (.ref b10), .val (.double (own_f1 gg ss cc)), .second, .val (.double (own_f1 ss gg cc)), .second, .val (.double (0 : UInt64)), .second, .val (.int (1 : Int32)), .val (.int (1 : Int32)), .val (.int (1 : Int32)), .val (.int (1 : Int32)), .unset] [(.int (1 : Int32))])) _
        refine XS.iload X20.here hx rfl (hb hby at_263) rfl ?_
        show Steps p.tables e below (T20.setTop (mkF m 265 #[.val (.int p1), .val (.int p2), .val (.int p3), .val (.int p4), .val (.int gg), .val (.int ss), .val (.long ((mn.toInt64) + (1 : Int64))), .second, .val (.int cc), .val (.ref b6), .val (.ref b10), .val (.double (own_f1 gg ss cc)), .second, .val (.double (own_f1 ss gg cc)), .second, .val (.double (0 : UInt64)), .second, .val (.int (1 : Int32)), .val (.int (1 : Int32)), .val (.int (1 : Int32)), .val (.int (1 : Int32)), .unset] [(.int gg), (.int (1 : Int32))])) _
        refine XS.ifNo X20.here hx rfl (hb hby at_265) rfl ((if0 _ _).trans (teq (hg : gg = (0 : Int32))).2) ?_
        show Steps p.tables e below (T20.setTop (mkF m 268 #[.val (.int p1), .val (.int p2), .val (.int p3), .val (.int p4), .val (.int gg), .val (.int ss), .val (.long ((mn.toInt64) + (1 : Int64))), .second, .val (.int cc), .val (.ref b6), .val (.ref b10), .val (.double (own_f1 gg ss cc)), .second, .val (.double (own_f1 ss gg cc)), .second, .val (.double (0 : UInt64)), .second, .val (.int (1 : Int32)), .val (.int (1 : Int32)), .val (.int (1 : Int32)), .val (.int (1 : Int32)), .unset] [(.int (1 : Int32))])) _
        refine XS.iload X20.here hx rfl (hb hby at_268) rfl ?_
        show Steps p.tables e below (T20.setTop (mkF m 270 #[.val (.int p1), .val (.int p2), .val (.int p3), .val (.int p4), .val (.int gg), .val (.int ss), .val (.long ((mn.toInt64) + (1 : Int64))), .second, .val (.int cc), .val (.ref b6), .val (.ref b10), .val (.double (own_f1 gg ss cc)), .second, .val (.double (own_f1 ss gg cc)), .second, .val (.double (0 : UInt64)), .second, .val (.int (1 : Int32)), .val (.int (1 : Int32)), .val (.int (1 : Int32)), .val (.int (1 : Int32)), .unset] [(.int ss), (.int (1 : Int32))])) _
        refine XS.ifNo X20.here hx rfl (hb hby at_270) rfl ((if0 _ _).trans (feq (hs : ¬ (ss = (0 : Int32)))).1) ?_
        show Steps p.tables e below (T20.setTop (mkF m 273 #[.val (.int p1), .val (.int p2), .val (.int p3), .val (.int p4), .val (.int gg), .val (.int ss), .val (.long ((mn.toInt64) + (1 : Int64))), .second, .val (.int cc), .val (.ref b6), .val (.ref b10), .val (.double (own_f1 gg ss cc)), .second, .val (.double (own_f1 ss gg cc)), .second, .val (.double (0 : UInt64)), .second, .val (.int (1 : Int32)), .val (.int (1 : Int32)), .val (.int (1 : Int32)), .val (.int (1 : Int32)), .unset] [(.int (1 : Int32))])) _
        refine XS.iconst X20.here hx rfl (hb hby at_273) ?_
        show Steps p.tables e below (T20.setTop (mkF m 274 #[.val (.int p1), .val (.int p2), .val (.int p3), .val (.int p4), .val (.int gg), .val (.int ss), .val (.long ((mn.toInt64) + (1 : Int64))), .second, .val (.int cc), .val (.ref b6), .val (.ref b10), .val (.double (own_f1 gg ss cc)), .second, .val (.double (own_f1 ss gg cc)), .second, .val (.double (0 : UInt64)), .second, .val (.int (1 : Int32)), .val (.int (1 : Int32)), .val (.int (1 : Int32)), .val (.int (1 : Int32)), .unset] [(.int (1 : Int32)), (.int (1 : Int32))])) _
        refine XS.goto X20.here hx rfl (pc0 := 274) (pc' := 278) rfl (hb hby at_274) (by decide) (by decide) ?_
        show Steps p.tables e below (T20.setTop (mkF m 278 #[.val (.int p1), .val (.int p2), .val (.int p3), .val (.int p4), .val (.int gg), .val (.int ss), .val (.long ((mn.toInt64) + (1 : Int64))), .second, .val (.int cc), .val (.ref b6), .val (.ref b10), .val (.double (own_f1 gg ss cc)), .second, .val (.double (own_f1 ss gg cc)), .second, .val (.double (0 : UInt64)), .second, .val (.int (1 : Int32)), .val (.int (1 : Int32)), .val (.int (1 : Int32)), .val (.int (1 : Int32)), .unset] [(.int (1 : Int32)), (.int (1 : Int32))])) _
        refine XS.icmpNo X20.here hx rfl (hb hby at_278) rfl (teq (by decide : (1 : Int32) = (1 : Int32))).2 ?_
        show Steps p.tables e below (T20.setTop (mkF m 281 #[.val (.int p1), .val (.int p2), .val (.int p3), .val (.int p4), .val (.int gg), .val (.int ss), .val (.long ((mn.toInt64) + (1 : Int64))), .second, .val (.int cc), .val (.ref b6), .val (.ref b10), .val (.double (own_f1 gg ss cc)), .second, .val (.double (own_f1 ss gg cc)), .second, .val (.double (0 : UInt64)), .second, .val (.int (1 : Int32)), .val (.int (1 : Int32)), .val (.int (1 : Int32)), .val (.int (1 : Int32)), .unset] [])) _
        refine XS.iconst X20.here hx rfl (hb hby at_281) ?_
        show Steps p.tables e below (T20.setTop (mkF m 282 #[.val (.int p1), .val (.int p2), .val (.int p3), .val (.int p4), .val (.int gg), .val (.int ss), .val (.long ((mn.toInt64) + (1 : Int64))), .second, .val (.int cc), .val (.ref b6), .val (.ref b10), .val (.double (own_f1 gg ss cc)), .second, .val (.double (own_f1 ss gg cc)), .second, .val (.double (0 : UInt64)), .second, .val (.int (1 : Int32)), .val (.int (1 : Int32)), .val (.int (1 : Int32)), .val (.int (1 : Int32)), .unset] [(.int (1 : Int32))])) _
        refine XS.goto X20.here hx rfl (pc0 := 282) (pc' := 286) rfl (hb hby at_282) (by decide) (by decide) ?_
        show Steps p.tables e below (T20.setTop (mkF m 286 #[.val (.int p1), .val (.int p2), .val (.int p3), .val (.int p4), .val (.int gg), .val (.int ss), .val (.long ((mn.toInt64) + (1 : Int64))), .second, .val (.int cc), .val (.ref b6), .val (.ref b10), .val (.double (own_f1 gg ss cc)), .second, .val (.double (own_f1 ss gg cc)), .second, .val (.double (0 : UInt64)), .second, .val (.int (1 : Int32)), .val (.int (1 : Int32)), .val (.int (1 : Int32)), .val (.int (1 : Int32)), .unset] [(.int (1 : Int32))])) _
        refine XS.istore X20.here hx rfl (hb hby at_286) rfl (l' := #[.val (.int p1), .val (.int p2), .val (.int p3), .val (.int p4), .val (.int gg), .val (.int ss), .val (.long ((mn.toInt64) + (1 : Int64))), .second, .val (.int cc), .val (.ref b6), .val (.ref b10), .val (.double (own_f1 gg ss cc)), .second, .val (.double (own_f1 ss gg cc)), .second, .val (.double (0 : UInt64)), .second, .val (.int (1 : Int32)), .val (.int (1 : Int32)), .val (.int (1 : Int32)), .val (.int (1 : Int32)), .val (.int (1 : Int32))]) rfl ?_
        show Steps p.tables e below (T20.setTop (mkF m 288 #[.val (.int p1), .val (.int p2), .val (.int p3), .val (.int p4), .val (.int gg), .val (.int ss), .val (.long ((mn.toInt64) + (1 : Int64))), .second, .val (.int cc), .val (.ref b6), .val (.ref b10), .val (.double (own_f1 gg ss cc)), .second, .val (.double (own_f1 ss gg cc)), .second, .val (.double (0 : UInt64)), .second, .val (.int (1 : Int32)), .val (.int (1 : Int32)), .val (.int (1 : Int32)), .val (.int (1 : Int32)), .val (.int (1 : Int32))] [])) _
        refine XS.iload X20.here hx rfl (hb hby at_288) rfl ?_
        show Steps p.tables e below (T20.setTop (mkF m 290 #[.val (.int p1), .val (.int p2), .val (.int p3), .val (.int p4), .val (.int gg), .val (.int ss), .val (.long ((mn.toInt64) + (1 : Int64))), .second, .val (.int cc), .val (.ref b6), .val (.ref b10), .val (.double (own_f1 gg ss cc)), .second, .val (.double (own_f1 ss gg cc)), .second, .val (.double (0 : UInt64)), .second, .val (.int (1 : Int32)), .val (.int (1 : Int32)), .val (.int (1 : Int32)), .val (.int (1 : Int32)), .val (.int (1 : Int32))] [(.int (1 : Int32))])) _
        refine XS.ifNo X20.here hx rfl (hb hby at_290) rfl ((if0 _ _).trans (feq (by decide : ¬ ((1 : Int32) = (0 : Int32)))).1) ?_
        show Steps p.tables e below (T20.setTop (mkF m 293 #[.val (.int p1), .val (.int p2), .val (.int p3), .val (.int p4), .val (.int gg), .val (.int ss), .val (.long ((mn.toInt64) + (1 : Int64))), .second, .val (.int cc), .val (.ref b6), .val (.ref b10), .val (.double (own_f1 gg ss cc)), .second, .val (.double (own_f1 ss gg cc)), .second, .val (.double (0 : UInt64)), .second, .val (.int (1 : Int32)), .val (.int (1 : Int32)), .val (.int (1 : Int32)), .val (.int (1 : Int32)), .val (.int (1 : Int32))] [])) _
        refine XS.iload X20.here hx rfl (hb hby at_293) rfl ?_
        show Steps p.tables e below (T20.setTop (mkF m 295 #[.val (.int p1), .val (.int p2), .val (.int p3), .val (.int p4), .val (.int gg), .val (.int ss), .val (.long ((mn.toInt64) + (1 : Int64))), .second, .val (.int cc), .val (.ref b6), .val (.ref b10), .val (.double (own_f1 gg ss cc)), .second, .val (.double (own_f1 ss gg cc)), .second, .val (.double (0 : UInt64)), .second, .val (.int (1 : Int32)), .val (.int (1 : Int32)), .val (.int (1 : Int32)), .val (.int (1 : Int32)), .val (.int (1 : Int32))] [(.int (1 : Int32))])) _
        refine XS.ifNo X20.here hx rfl (hb hby at_295) rfl ((if0 _ _).trans (feq (by decide : ¬ ((1 : Int32) = (0 : Int32)))).1) ?_
        show Steps p.tables e below (T20.setTop (mkF m 298 #[.val (.int p1), .val (.int p2), .val (.int p3), .val (.int p4), .val (.int gg), .val (.int ss), .val (.long ((mn.toInt64) + (1 : Int64))), .second, .val (.int cc), .val (.ref b6), .val (.ref b10), .val (.double (own_f1 gg ss cc)), .second, .val (.double (own_f1 ss gg cc)), .second, .val (.double (0 : UInt64)), .second, .val (.int (1 : Int32)), .val (.int (1 : Int32)), .val (.int (1 : Int32)), .val (.int (1 : Int32)), .val (.int (1 : Int32))] [])) _
        refine XS.iload X20.here hx rfl (hb hby at_298) rfl ?_
        show Steps p.tables e below (T20.setTop (mkF m 300 #[.val (.int p1), .val (.int p2), .val (.int p3), .val (.int p4), .val (.int gg), .val (.int ss), .val (.long ((mn.toInt64) + (1 : Int64))), .second, .val (.int cc), .val (.ref b6), .val (.ref b10), .val (.double (own_f1 gg ss cc)), .second, .val (.double (own_f1 ss gg cc)), .second, .val (.double (0 : UInt64)), .second, .val (.int (1 : Int32)), .val (.int (1 : Int32)), .val (.int (1 : Int32)), .val (.int (1 : Int32)), .val (.int (1 : Int32))] [(.int (1 : Int32))])) _
        refine XS.ifNo X20.here hx rfl (hb hby at_300) rfl ((if0 _ _).trans (feq (by decide : ¬ ((1 : Int32) = (0 : Int32)))).1) ?_
        show Steps p.tables e below (T20.setTop (mkF m 303 #[.val (.int p1), .val (.int p2), .val (.int p3), .val (.int p4), .val (.int gg), .val (.int ss), .val (.long ((mn.toInt64) + (1 : Int64))), .second, .val (.int cc), .val (.ref b6), .val (.ref b10), .val (.double (own_f1 gg ss cc)), .second, .val (.double (own_f1 ss gg cc)), .second, .val (.double (0 : UInt64)), .second, .val (.int (1 : Int32)), .val (.int (1 : Int32)), .val (.int (1 : Int32)), .val (.int (1 : Int32)), .val (.int (1 : Int32))] [])) _
        refine XS.iload X20.here hx rfl (hb hby at_303) rfl ?_
        show Steps p.tables e below (T20.setTop (mkF m 305 #[.val (.int p1), .val (.int p2), .val (.int p3), .val (.int p4), .val (.int gg), .val (.int ss), .val (.long ((mn.toInt64) + (1 : Int64))), .second, .val (.int cc), .val (.ref b6), .val (.ref b10), .val (.double (own_f1 gg ss cc)), .second, .val (.double (own_f1 ss gg cc)), .second, .val (.double (0 : UInt64)), .second, .val (.int (1 : Int32)), .val (.int (1 : Int32)), .val (.int (1 : Int32)), .val (.int (1 : Int32)), .val (.int (1 : Int32))] [(.int (1 : Int32))])) _
        refine XS.ifNo X20.here hx rfl (hb hby at_305) rfl ((if0 _ _).trans (feq (by decide : ¬ ((1 : Int32) = (0 : Int32)))).1) ?_
        show Steps p.tables e below (T20.setTop (mkF m 308 #[.val (.int p1), .val (.int p2), .val (.int p3), .val (.int p4), .val (.int gg), .val (.int ss), .val (.long ((mn.toInt64) + (1 : Int64))), .second, .val (.int cc), .val (.ref b6), .val (.ref b10), .val (.double (own_f1 gg ss cc)), .second, .val (.double (own_f1 ss gg cc)), .second, .val (.double (0 : UInt64)), .second, .val (.int (1 : Int32)), .val (.int (1 : Int32)), .val (.int (1 : Int32)), .val (.int (1 : Int32)), .val (.int (1 : Int32))] [])) _
        refine XS.iload X20.here hx rfl (hb hby at_308) rfl ?_
        show Steps p.tables e below (T20.setTop (mkF m 310 #[.val (.int p1), .val (.int p2), .val (.int p3), .val (.int p4), .val (.int gg), .val (.int ss), .val (.long ((mn.toInt64) + (1 : Int64))), .second, .val (.int cc), .val (.ref b6), .val (.ref b10), .val (.double (own_f1 gg ss cc)), .second, .val (.double (own_f1 ss gg cc)), .second, .val (.double (0 : UInt64)), .second, .val (.int (1 : Int32)), .val (.int (1 : Int32)), .val (.int (1 : Int32)), .val (.int (1 : Int32)), .val (.int (1 : Int32))] [(.int (1 : Int32))])) _
        refine XS.ifNo X20.here hx rfl (hb hby at_310) rfl ((if0 _ _).trans (feq (by decide : ¬ ((1 : Int32) = (0 : Int32)))).1) ?_
        show Steps p.tables e below (T20.setTop (mkF m 313 #[.val (.int p1), .val (.int p2), .val (.int p3), .val (.int p4), .val (.int gg), .val (.int ss), .val (.long ((mn.toInt64) + (1 : Int64))), .second, .val (.int cc), .val (.ref b6), .val (.ref b10), .val (.double (own_f1 gg ss cc)), .second, .val (.double (own_f1 ss gg cc)), .second, .val (.double (0 : UInt64)), .second, .val (.int (1 : Int32)), .val (.int (1 : Int32)), .val (.int (1 : Int32)), .val (.int (1 : Int32)), .val (.int (1 : Int32))] [])) _
        refine XS.iconst X20.here hx rfl (hb hby at_313) ?_
        show Steps p.tables e below (T20.setTop (mkF m 314 #[.val (.int p1), .val (.int p2), .val (.int p3), .val (.int p4), .val (.int gg), .val (.int ss), .val (.long ((mn.toInt64) + (1 : Int64))), .second, .val (.int cc), .val (.ref b6), .val (.ref b10), .val (.double (own_f1 gg ss cc)), .second, .val (.double (own_f1 ss gg cc)), .second, .val (.double (0 : UInt64)), .second, .val (.int (1 : Int32)), .val (.int (1 : Int32)), .val (.int (1 : Int32)), .val (.int (1 : Int32)), .val (.int (1 : Int32))] [(.int (1 : Int32))])) _
        refine XS.goto X20.here hx rfl (pc0 := 314) (pc' := 318) rfl (hb hby at_314) (by decide) (by decide) ?_
        exact kt
      refine Go.adv sg23 ?_
      refine Go.ret (v := (some (.int (1 : Int32)))) X20 (fun h => by rw [Bd.returns] at h; cases h) Bd.notSynchronized (fun fs hr => retN X20 hx (t := .boolean) Bd.returns (by simp) (hb hby at_318) hr) ?_ (by decide) (by decide)
      show Q_rm0 Z p1 p2 p3 p4 h0 n0 (some (.int (1 : Int32))) T20.heap _
      rw [e20]
      exact ⟨rfl, N20⟩
  · by_cases hs : ss = 0
    · have hc0 : cc = 0 := own_z32.mpr (by have := own_z32.mp hs; obtain ⟨c1, c2, c3⟩ := hC; omega)
      have hcg : ¬ (cc = gg) := fun q => hg (q.symm.trans hc0)
      obtain ⟨k1, k2, k3, k4⟩ := own_f1_B (cc := cc) (Or.inr hs) (fun q => hg (q.trans hs))
      have sg24 : ∀ t, Steps p.tables e below (T20.setTop (mkF m 318 #[.val (.int p1), .val (.int p2), .val (.int p3), .val (.int p4), .val (.int gg), .val (.int ss), .val (.long ((mn.toInt64) + (1 : Int64))), .second, .val (.int cc), .val (.ref b6), .val (.ref b10), .val (.double (own_f1 gg ss cc)), .second, .val (.double (own_f1 ss gg cc)), .second, .val (.double (0 : UInt64)), .second, .val (.int (1 : Int32)), .val (.int (1 : Int32)), .val (.int (1 : Int32)), .val (.int (1 : Int32)), .val (.int (1 : Int32))] [(.int (1 : Int32))])) t → Steps p.tables e below (T20.setTop (mkF m 99 #[.val (.int p1), .val (.int p2), .val (.int p3), .val (.int p4), .val (.int gg), .val (.int ss), .val (.long ((mn.toInt64) + (1 : Int64))), .second, .val (.int cc), .val (.ref b6), .val (.ref b10), .val (.double (own_f1 gg ss cc)), .second, .val (.double (own_f1 ss gg cc)), .second, .unset, .unset, .unset, .unset, .unset, .unset, .unset] [])) t := by
        intro t kt
        show Steps p.tables e below (T20.setTop (mkF m 99 #[.val (.int p1), .val (.int p2), .val (.int p3), .val (.int p4), .val (.int gg), .val (.int ss), .val (.long ((mn.toInt64) + (1 : Int64))), .second, .val (.int cc), .val (.ref b6), .val (.ref b10), .val (.double (own_f1 gg ss cc)), .second, .val (.double (own_f1 ss gg cc)), .second, .unset, .unset, .unset, .unset, .unset, .unset, .unset] [])) _
        refine XS.iload X20.here hx rfl (hb hby at_99) rfl ?_
        show Steps p.tables e below (T20.setTop (mkF m 101 #[.val (.int p1), .val (.int p2), .val (.int p3), .val (.int p4), .val (.int gg), .val (.int ss), .val (.long ((mn.toInt64) + (1 : Int64))), .second, .val (.int cc), .val (.ref b6), .val (.ref b10), .val (.double (own_f1 gg ss cc)), .second, .val (.double (own_f1 ss gg cc)), .second, .unset, .unset, .unset, .unset, .unset, .unset, .unset] [(.int gg)])) _
        refine XS.ifYes X20.here hx rfl (pc0 := 101) (pc' := 115) rfl (hb hby at_101) rfl ((if0 _ _).trans (feq (hg : ¬ (gg = (0 : Int32)))).2) (by decide) (by decide) ?_
        show Steps p.tables e below (T20.setTop (mkF m 115 #[.val (.int p1), .val (.int p2), .val (.int p3), .val (.int p4), .val (.int gg), .val (.int ss), .val (.long ((mn.toInt64) + (1 : Int64))), .second, .val (.int cc), .val (.ref b6), .val (.ref b10), .val (.double (own_f1 gg ss cc)), .second, .val (.double (own_f1 ss gg cc)), .second, .unset, .unset, .unset, .unset, .unset, .unset, .unset] [])) _
        refine XS.iload X20.here hx rfl (hb hby at_115) rfl ?_
        show Steps p.tables e below (T20.setTop (mkF m 117 #[.val (.int p1), .val (.int p2), .val (.int p3), .val (.int p4), .val (.int gg), .val (.int ss), .val (.long ((mn.toInt64) + (1 : Int64))), .second, .val (.int cc), .val (.ref b6), .val (.ref b10), .val (.double (own_f1 gg ss cc)), .second, .val (.double (own_f1 ss gg cc)), .second, .unset, .unset, .unset, .unset, .unset, .unset, .unset] [(.int gg)])) _
        refine XS.ifNo X20.here hx rfl (hb hby at_117) rfl ((if0 _ _).trans (feq (hg : ¬ (gg = (0 : Int32)))).1) ?_
        show Steps p.tables e below (T20.setTop (mkF m 120 #[.val (.int p1), .val (.int p2), .val (.int p3), .val (.int p4), .val (.int gg), .val (.int ss), .val (.long ((mn.toInt64) + (1 : Int64))), .second, .val (.int cc), .val (.ref b6), .val (.ref b10), .val (.double (own_f1 gg ss cc)), .second, .val (.double (own_f1 ss gg cc)), .second, .unset, .unset, .unset, .unset, .unset, .unset, .unset] [])) _
        refine XS.iload X20.here hx rfl (hb hby at_120) rfl ?_
        show Steps p.tables e below (T20.setTop (mkF m 122 #[.val (.int p1), .val (.int p2), .val (.int p3), .val (.int p4), .val (.int gg), .val (.int ss), .val (.long ((mn.toInt64) + (1 : Int64))), .second, .val (.int cc), .val (.ref b6), .val (.ref b10), .val (.double (own_f1 gg ss cc)), .second, .val (.double (own_f1 ss gg cc)), .second, .unset, .unset, .unset, .unset, .unset, .unset, .unset] [(.int ss)])) _
        refine XS.ifNo X20.here hx rfl (hb hby at_122) rfl ((if0 _ _).trans (teq (hs : ss = (0 : Int32))).2) ?_
        show Steps p.tables e below (T20.setTop (mkF m 125 #[.val (.int p1), .val (.int p2), .val (.int p3), .val (.int p4), .val (.int gg), .val (.int ss), .val (.long ((mn.toInt64) + (1 : Int64))), .second, .val (.int cc), .val (.ref b6), .val (.ref b10), .val (.double (own_f1 gg ss cc)), .second, .val (.double (own_f1 ss gg cc)), .second, .unset, .unset, .unset, .unset, .unset, .unset, .unset] [])) _
        refine own_dconst0 X20.here hx rfl (hb hby at_125) ?_
        show Steps p.tables e below (T20.setTop (mkF m 126 #[.val (.int p1), .val (.int p2), .val (.int p3), .val (.int p4), .val (.int gg), .val (.int ss), .val (.long ((mn.toInt64) + (1 : Int64))), .second, .val (.int cc), .val (.ref b6), .val (.ref b10), .val (.double (own_f1 gg ss cc)), .second, .val (.double (own_f1 ss gg cc)), .second, .unset, .unset, .unset, .unset, .unset, .unset, .unset] [(.double (0 : UInt64))])) _
        refine own_dstore X20.here hx rfl (hb hby at_126) rfl (l' := #[.val (.int p1), .val (.int p2), .val (.int p3), .val (.int p4), .val (.int gg), .val (.int ss), .val (.long ((mn.toInt64) + (1 : Int64))), .second, .val (.int cc), .val (.ref b6), .val (.ref b10), .val (.double (own_f1 gg ss cc)), .second, .val (.double (own_f1 ss gg cc)), .second, .val (.double (0 : UInt64)), .second, .unset, .unset, .unset, .unset, .unset]) rfl ?_
        show Steps p.tables e below (T20.setTop (mkF m 128 #[.val (.int p1), .val (.int p2), .val (.int p3), .val (.int p4), .val (.int gg), .val (.int ss), .val (.long ((mn.toInt64) + (1 : Int64))), .second, .val (.int cc), .val (.ref b6), .val (.ref b10), .val (.double (own_f1 gg ss cc)), .second, .val (.double (own_f1 ss gg cc)), .second, .val (.double (0 : UInt64)), .second, .unset, .unset, .unset, .unset, .unset] [])) _
        refine XS.goto X20.here hx rfl (pc0 := 128) (pc' := 154) rfl (hb hby at_128) (by decide) (by decide) ?_
        show Steps p.tables e below (T20.setTop (mkF m 154 #[.val (.int p1), .val (.int p2), .val (.int p3), .val (.int p4), .val (.int gg), .val (.int ss), .val (.long ((mn.toInt64) + (1 : Int64))), .second, .val (.int cc), .val (.ref b6), .val (.ref b10), .val (.double (own_f1 gg ss cc)), .second, .val (.double (own_f1 ss gg cc)), .second, .val (.double (0 : UInt64)), .second, .unset, .unset, .unset, .unset, .unset] [])) _
        refine own_dload X20.here hx rfl (hb hby at_154) rfl ?_
        show Steps p.tables e below (T20.setTop (mkF m 156 #[.val (.int p1), .val (.int p2), .val (.int p3), .val (.int p4), .val (.int gg), .val (.int ss), .val (.long ((mn.toInt64) + (1 : Int64))), .second, .val (.int cc), .val (.ref b6), .val (.ref b10), .val (.double (own_f1 gg ss cc)), .second, .val (.double (own_f1 ss gg cc)), .second, .val (.double (0 : UInt64)), .second, .unset, .unset, .unset, .unset, .unset] [(.double (own_f1 gg ss cc))])) _
        refine own_dload X20.here hx rfl (hb hby at_156) rfl ?_
        show Steps p.tables e below (T20.setTop (mkF m 158 #[.val (.int p1), .val (.int p2), .val (.int p3), .val (.int p4), .val (.int gg), .val (.int ss), .val (.long ((mn.toInt64) + (1 : Int64))), .second, .val (.int cc), .val (.ref b6), .val (.ref b10), .val (.double (own_f1 gg ss cc)), .second, .val (.double (own_f1 ss gg cc)), .second, .val (.double (0 : UInt64)), .second, .unset, .unset, .unset, .unset, .unset] [(.double (0 : UInt64)), (.double (own_f1 gg ss cc))])) _
        refine own_dcmp X20.here hx rfl (hb hby at_158) rfl ?_
        show Steps p.tables e below (T20.setTop (mkF m 159 #[.val (.int p1), .val (.int p2), .val (.int p3), .val (.int p4), .val (.int gg), .val (.int ss), .val (.long ((mn.toInt64) + (1 : Int64))), .second, .val (.int cc), .val (.ref b6), .val (.ref b10), .val (.double (own_f1 gg ss cc)), .second, .val (.double (own_f1 ss gg cc)), .second, .val (.double (0 : UInt64)), .second, .unset, .unset, .unset, .unset, .unset] [(.int (cmpValue (FP.dcmp (own_f1 gg ss cc) (0 : UInt64)) .l))])) _
        refine XS.ifNo X20.here hx rfl (hb hby at_159) rfl ((if0 _ _).trans (teq ((by rw [Own.cv_eq k4] <;> decide) : (cmpValue (FP.dcmp (own_f1 gg ss cc) (0 : UInt64)) .l) = (0 : Int32))).2) ?_
        show Steps p.tables e below (T20.setTop (mkF m 162 #[.val (.int p1), .val (.int p2), .val (.int p3), .val (.int p4), .val (.int gg), .val (.int ss), .val (.long ((mn.toInt64) + (1 : Int64))), .second, .val (.int cc), .val (.ref b6), .val (.ref b10), .val (.double (own_f1 gg ss cc)), .second, .val (.double (own_f1 ss gg cc)), .second, .val (.double (0 : UInt64)), .second, .unset, .unset, .unset, .unset, .unset] [])) _
        refine XS.iconst X20.here hx rfl (hb hby at_162) ?_
        show Steps p.tables e below (T20.setTop (mkF m 163 #[.val (.int p1), .val (.int p2), .val (.int p3), .val (.int p4), .val (.int gg), .val (.int ss), .val (.long ((mn.toInt64) + (1 : Int64))), .second, .val (.int cc), .val (.ref b6), .val (.ref b10), .val (.double (own_f1 gg ss cc)), .second, .val (.double (own_f1 ss gg cc)), .second, .val (.double (0 : UInt64)), .second, .unset, .unset, .unset, .unset, .unset] [(.int (1 : Int32))])) _
        refine XS.goto X20.here hx rfl (pc0 := 163) (pc' := 167) rfl (hb hby at_163) (by decide) (by decide) ?_
        show Steps p.tables e below (T20.setTop (mkF m 167 #[.val (.int p1), .val (.int p2), .val (.int p3), .val (.int p4), .val (.int gg), .val (.int ss), .val (.long ((mn.toInt64) + (1 : Int64))), .second, .val (.int cc), .val (.ref b6), .val (.ref b10), .val (.double (own_f1 gg ss cc)), .second, .val (.double (own_f1 ss gg cc)), .second, .val (.double (0 : UInt64)), .second, .unset, .unset, .unset, .unset, .unset] [(.int (1 : Int32))])) _
        refine XS.istore X20.here hx rfl (hb hby at_167) rfl (l' := #[.val (.int p1), .val (.int p2), .val (.int p3), .val (.int p4), .val (.int gg), .val (.int ss), .val (.long ((mn.toInt64) + (1 : Int64))), .second, .val (.int cc), .val (.ref b6), .val (.ref b10), .val (.double (own_f1 gg ss cc)), .second, .val (.double (own_f1 ss gg cc)), .second, .val (.double (0 : UInt64)), .second, .val (.int (1 : Int32)), .unset, .unset, .unset, .unset]) rfl ?_
        show Steps p.tables e below (T20.setTop (mkF m 169 #[.val (.int p1), .val (.int p2), .val (.int p3), .val (.int p4), .val (.int gg), .val (.int ss), .val (.long ((mn.toInt64) + (1 : Int64))), .second, .val (.int cc), .val (.ref b6), .val (.ref b10), .val (.double (own_f1 gg ss cc)), .second, .val (.double (own_f1 ss gg cc)), .second, .val (.double (0 : UInt64)), .second, .val (.int (1 : Int32)), .unset, .unset, .unset, .unset] [])) _
        refine own_dload X20.here hx rfl (hb hby at_169) rfl ?_
        show Steps p.tables e below (T20.setTop (mkF m 171 #[.val (.int p1), .val (.int p2), .val (.int p3), .val (.int p4), .val (.int gg), .val (.int ss), .val (.long ((mn.toInt64) + (1 : Int64))), .second, .val (.int cc), .val (.ref b6), .val (.ref b10), .val (.double (own_f1 gg ss cc)), .second, .val (.double (own_f1 ss gg cc)), .second, .val (.double (0 : UInt64)), .second, .val (.int (1 : Int32)), .unset, .unset, .unset, .unset] [(.double (own_f1 gg ss cc))])) _
        refine own_dload X20.here hx rfl (hb hby at_171) rfl ?_
        show Steps p.tables e below (T20.setTop (mkF m 173 #[.val (.int p1), .val (.int p2), .val (.int p3), .val (.int p4), .val (.int gg), .val (.int ss), .val (.long ((mn.toInt64) + (1 : Int64))), .second, .val (.int cc), .val (.ref b6), .val (.ref b10), .val (.double (own_f1 gg ss cc)), .second, .val (.double (own_f1 ss gg cc)), .second, .val (.double (0 : UInt64)), .second, .val (.int (1 : Int32)), .unset, .unset, .unset, .unset] [(.double (own_f1 ss gg cc)), (.double (own_f1 gg ss cc))])) _
        refine own_dcmp X20.here hx rfl (hb hby at_173) rfl ?_
        show Steps p.tables e below (T20.setTop (mkF m 174 #[.val (.int p1), .val (.int p2), .val (.int p3), .val (.int p4), .val (.int gg), .val (.int ss), .val (.long ((mn.toInt64) + (1 : Int64))), .second, .val (.int cc), .val (.ref b6), .val (.ref b10), .val (.double (own_f1 gg ss cc)), .second, .val (.double (own_f1 ss gg cc)), .second, .val (.double (0 : UInt64)), .second, .val (.int (1 : Int32)), .unset, .unset, .unset, .unset] [(.int (cmpValue (FP.dcmp (own_f1 gg ss cc) (own_f1 ss gg cc)) .l))])) _
        refine XS.ifNo X20.here hx rfl (hb hby at_174) rfl ((if0 _ _).trans (teq ((by rw [Own.cv_eq k2] <;> decide) : (cmpValue (FP.dcmp (own_f1 gg ss cc) (own_f1 ss gg cc)) .l) = (0 : Int32))).2) ?_
        show Steps p.tables e below (T20.setTop (mkF m 177 #[.val (.int p1), .val (.int p2), .val (.int p3), .val (.int p4), .val (.int gg), .val (.int ss), .val (.long ((mn.toInt64) + (1 : Int64))), .second, .val (.int cc), .val (.ref b6), .val (.ref b10), .val (.double (own_f1 gg ss cc)), .second, .val (.double (own_f1 ss gg cc)), .second, .val (.double (0 : UInt64)), .second, .val (.int (1 : Int32)), .unset, .unset, .unset, .unset] [])) _
        refine XS.iconst X20.here hx rfl (hb hby at_177) ?_
        show Steps p.tables e below (T20.setTop (mkF m 178 #[.val (.int p1), .val (.int p2), .val (.int p3), .val (.int p4), .val (.int gg), .val (.int ss), .val (.long ((mn.toInt64) + (1 : Int64))), .second, .val (.int cc), .val (.ref b6), .val (.ref b10), .val (.double (own_f1 gg ss cc)), .second, .val (.double (own_f1 ss gg cc)), .second, .val (.double (0 : UInt64)), .second, .val (.int (1 : Int32)), .unset, .unset, .unset, .unset] [(.int (1 : Int32))])) _
        refine XS.goto X20.here hx rfl (pc0 := 178) (pc' := 182) rfl (hb hby at_178) (by decide) (by decide) ?_
        show Steps p.tables e below (T20.setTop (mkF m 182 #[.val (.int p1), .val (.int p2), .val (.int p3), .val (.int p4), .val (.int gg), .val (.int ss), .val (.long ((mn.toInt64) + (1 : Int64))), .second, .val (.int cc), .val (.ref b6), .val (.ref b10), .val (.double (own_f1 gg ss cc)), .second, .val (.double (own_f1 ss gg cc)), .second, .val (.double (0 : UInt64)), .second, .val (.int (1 : Int32)), .unset, .unset, .unset, .unset] [(.int (1 : Int32))])) _
        refine XS.istore X20.here hx rfl (hb hby at_182) rfl (l' := #[.val (.int p1), .val (.int p2), .val (.int p3), .val (.int p4), .val (.int gg), .val (.int ss), .val (.long ((mn.toInt64) + (1 : Int64))), .second, .val (.int cc), .val (.ref b6), .val (.ref b10), .val (.double (own_f1 gg ss cc)), .second, .val (.double (own_f1 ss gg cc)), .second, .val (.double (0 : UInt64)), .second, .val (.int (1 : Int32)), .val (.int (1 : Int32)), .unset, .unset, .unset]) rfl ?_
        show Steps p.tables e below (T20.setTop (mkF m 184 #[.val (.int p1), .val (.int p2), .val (.int p3), .val (.int p4), .val (.int gg), .val (.int ss), .val (.long ((mn.toInt64) + (1 : Int64))), .second, .val (.int cc), .val (.ref b6), .val (.ref b10), .val (.double (own_f1 gg ss cc)), .second, .val (.double (own_f1 ss gg cc)), .second, .val (.double (0 : UInt64)), .second, .val (.int (1 : Int32)), .val (.int (1 : Int32)), .unset, .unset, .unset] [])) _
        refine own_dconst0 X20.here hx rfl (hb hby at_184) ?_
        show Steps p.tables e below (T20.setTop (mkF m 185 #[.val (.int p1), .val (.int p2), .val (.int p3), .val (.int p4), .val (.int gg), .val (.int ss), .val (.long ((mn.toInt64) + (1 : Int64))), .second, .val (.int cc), .val (.ref b6), .val (.ref b10), .val (.double (own_f1 gg ss cc)), .second, .val (.double (own_f1 ss gg cc)), .second, .val (.double (0 : UInt64)), .second, .val (.int (1 : Int32)), .val (.int (1 : Int32)), .unset, .unset, .unset] [(.double (0 : UInt64))])) _
        refine own_dload X20.here hx rfl (hb hby at_185) rfl ?_
        show Steps p.tables e below (T20.setTop (mkF m 187 #[.val (.int p1), .val (.int p2), .val (.int p3), .val (.int p4), .val (.int gg), .val (.int ss), .val (.long ((mn.toInt64) + (1 : Int64))), .second, .val (.int cc), .val (.ref b6), .val (.ref b10), .val (.double (own_f1 gg ss cc)), .second, .val (.double (own_f1 ss gg cc)), .second, .val (.double (0 : UInt64)), .second, .val (.int (1 : Int32)), .val (.int (1 : Int32)), .unset, .unset, .unset] [(.double (own_f1 gg ss cc)), (.double (0 : UInt64))])) _
        refine own_dcmp X20.here hx rfl (hb hby at_187) rfl ?_
        show Steps p.tables e below (T20.setTop (mkF m 188 #[.val (.int p1), .val (.int p2), .val (.int p3), .val (.int p4), .val (.int gg), .val (.int ss), .val (.long ((mn.toInt64) + (1 : Int64))), .second, .val (.int cc), .val (.ref b6), .val (.ref b10), .val (.double (own_f1 gg ss cc)), .second, .val (.double (own_f1 ss gg cc)), .second, .val (.double (0 : UInt64)), .second, .val (.int (1 : Int32)), .val (.int (1 : Int32)), .unset, .unset, .unset] [(.int (cmpValue (FP.dcmp (0 : UInt64) (own_f1 gg ss cc)) .g))])) _
        refine XS.ifNo X20.here hx rfl (hb hby at_188) rfl ((if0 _ _).trans (flt ((by rw [Own.cv_eq k3] <;> decide) : ¬ ((0 : Int32) < (cmpValue (FP.dcmp (0 : UInt64) (own_f1 gg ss cc)) .g)))).2.2.1) ?_
        show Steps p.tables e below (T20.setTop (mkF m 191 #[.val (.int p1), .val (.int p2), .val (.int p3), .val (.int p4), .val (.int gg), .val (.int ss), .val (.long ((mn.toInt64) + (1 : Int64))), .second, .val (.int cc), .val (.ref b6), .val (.ref b10), .val (.double (own_f1 gg ss cc)), .second, .val (.double (own_f1 ss gg cc)), .second, .val (.double (0 : UInt64)), .second, .val (.int (1 : Int32)), .val (.int (1 : Int32)), .unset, .unset, .unset] [])) _
        refine own_dload X20.here hx rfl (hb hby at_191) rfl ?_
        show Steps p.tables e below (T20.setTop (mkF m 193 #[.val (.int p1), .val (.int p2), .val (.int p3), .val (.int p4), .val (.int gg), .val (.int ss), .val (.long ((mn.toInt64) + (1 : Int64))), .second, .val (.int cc), .val (.ref b6), .val (.ref b10), .val (.double (own_f1 gg ss cc)), .second, .val (.double (own_f1 ss gg cc)), .second, .val (.double (0 : UInt64)), .second, .val (.int (1 : Int32)), .val (.int (1 : Int32)), .unset, .unset, .unset] [(.double (own_f1 gg ss cc))])) _
        refine own_dconst1 X20.here hx rfl (hb hby at_193) ?_
        show Steps p.tables e below (T20.setTop (mkF m 194 #[.val (.int p1), .val (.int p2), .val (.int p3), .val (.int p4), .val (.int gg), .val (.int ss), .val (.long ((mn.toInt64) + (1 : Int64))), .second, .val (.int cc), .val (.ref b6), .val (.ref b10), .val (.double (own_f1 gg ss cc)), .second, .val (.double (own_f1 ss gg cc)), .second, .val (.double (0 : UInt64)), .second, .val (.int (1 : Int32)), .val (.int (1 : Int32)), .unset, .unset, .unset] [(.double (4607182418800017408 : UInt64)), (.double (own_f1 gg ss cc))])) _
        refine own_dcmp X20.here hx rfl (hb hby at_194) rfl ?_
        show Steps p.tables e below (T20.setTop (mkF m 195 #[.val (.int p1), .val (.int p2), .val (.int p3), .val (.int p4), .val (.int gg), .val (.int ss), .val (.long ((mn.toInt64) + (1 : Int64))), .second, .val (.int cc), .val (.ref b6), .val (.ref b10), .val (.double (own_f1 gg ss cc)), .second, .val (.double (own_f1 ss gg cc)), .second, .val (.double (0 : UInt64)), .second, .val (.int (1 : Int32)), .val (.int (1 : Int32)), .unset, .unset, .unset] [(.int (cmpValue (FP.dcmp (own_f1 gg ss cc) (4607182418800017408 : UInt64)) .g))])) _
        refine XS.ifNo X20.here hx rfl (hb hby at_195) rfl ((if0 _ _).trans (flt ((by rw [Own.cv_lt k1] <;> decide) : ¬ ((0 : Int32) < (cmpValue (FP.dcmp (own_f1 gg ss cc) (4607182418800017408 : UInt64)) .g)))).2.2.1) ?_
        show Steps p.tables e below (T20.setTop (mkF m 198 #[.val (.int p1), .val (.int p2), .val (.int p3), .val (.int p4), .val (.int gg), .val (.int ss), .val (.long ((mn.toInt64) + (1 : Int64))), .second, .val (.int cc), .val (.ref b6), .val (.ref b10), .val (.double (own_f1 gg ss cc)), .second, .val (.double (own_f1 ss gg cc)), .second, .val (.double (0 : UInt64)), .second, .val (.int (1 : Int32)), .val (.int (1 : Int32)), .unset, .unset, .unset] [])) _
        refine XS.iconst X20.here hx rfl (hb hby at_198) ?_
        show Steps p.tables e below (T20.setTop (mkF m 199 #[.val (.int p1), .val (.int p2), .val (.int p3), .val (.int p4), .val (.int gg), .val (.int ss), .val (.long ((mn.toInt64) + (1 : Int64))), .second, .val (.int cc), .val (.ref b6), .val (.ref b10), .val (.double (own_f1 gg ss cc)), .second, .val (.double (own_f1 ss gg cc)), .second, .val (.double (0 : UInt64)), .second, .val (.int (1 : Int32)), .val (.int (1 : Int32)), .unset, .unset, .unset] [(.int (1 : Int32))])) _
        refine XS.goto X20.here hx rfl (pc0 := 199) (pc' := 203) rfl (hb hby at_199) (by decide) (by decide) ?_
        show Steps p.tables e below (T20.setTop (mkF m 203 #[.val (.int p1), .val (.int p2), .val (.int p3), .val (.int p4), .val (.int gg), .val (.int ss), .val (.long ((mn.toInt64) + (1 : Int64))), .second, .val (.int cc), .val (.ref b6), .val (.ref b10), .val (.double (own_f1 gg ss cc)), .second, .val (.double (own_f1 ss gg cc)), .second, .val (.double (0 : UInt64)), .second, .val (.int (1 : Int32)), .val (.int (1 : Int32)), .unset, .unset, .unset] [(.int (1 : Int32))])) _
        refine XS.istore X20.here hx rfl (hb hby at_203) rfl (l' := #[.val (.int p1), .val (.int p2), .val (.int p3), .val (.int p4), .val (.int gg), .val (.int ss), .val (.long ((mn.toInt64) + (1 : Int64))), .second, .val (.int cc), .val (.ref b6), .val (.ref b10), .val (.double (own_f1 gg ss cc)), .second, .val (.double (own_f1 ss gg cc)), .second, .val (.double (0 : UInt64)), .second, .val (.int (1 : Int32)), .val (.int (1 : Int32)), .val (.int (1 : Int32)), .unset, .unset]) rfl ?_
        show Steps p.tables e below (T20.setTop (mkF m 205 #[.val (.int p1), .val (.int p2), .val (.int p3), .val (.int p4), .val (.int gg), .val (.int ss), .val (.long ((mn.toInt64) + (1 : Int64))), .second, .val (.int cc), .val (.ref b6), .val (.ref b10), .val (.double (own_f1 gg ss cc)), .second, .val (.double (own_f1 ss gg cc)), .second, .val (.double (0 : UInt64)), .second, .val (.int (1 : Int32)), .val (.int (1 : Int32)), .val (.int (1 : Int32)), .unset, .unset] [])) _
        refine own_dload X20.here hx rfl (hb hby at_205) rfl ?_
        show Steps p.tables e below (T20.setTop (mkF m 207 #[.val (.int p1), .val (.int p2), .val (.int p3), .val (.int p4), .val (.int gg), .val (.int ss), .val (.long ((mn.toInt64) + (1 : Int64))), .second, .val (.int cc), .val (.ref b6), .val (.ref b10), .val (.double (own_f1 gg ss cc)), .second, .val (.double (own_f1 ss gg cc)), .second, .val (.double (0 : UInt64)), .second, .val (.int (1 : Int32)), .val (.int (1 : Int32)), .val (.int (1 : Int32)), .unset, .unset] [(.double (own_f1 gg ss cc))])) _
        refine own_dconst1 X20.here hx rfl (hb hby at_207) ?_
        show Steps p.tables e below (T20.setTop (mkF m 208 #[.val (.int p1), .val (.int p2), .val (.int p3), .val (.int p4), .val (.int gg), .val (.int ss), .val (.long ((mn.toInt64) + (1 : Int64))), .second, .val (.int cc), .val (.ref b6), .val (.ref b10), .val (.double (own_f1 gg ss cc)), .second, .val (.double (own_f1 ss gg cc)), .second, .val (.double (0 : UInt64)), .second, .val (.int (1 : Int32)), .val (.int (1 : Int32)), .val (.int (1 : Int32)), .unset, .unset] [(.double (4607182418800017408 : UInt64)), (.double (own_f1 gg ss cc))])) _
        refine own_dcmp X20.here hx rfl (hb hby at_208) rfl ?_
        show Steps p.tables e below (T20.setTop (mkF m 209 #[.val (.int p1), .val (.int p2), .val (.int p3), .val (.int p4), .val (.int gg), .val (.int ss), .val (.long ((mn.toInt64) + (1 : Int64))), .second, .val (.int cc), .val (.ref b6), .val (.ref b10), .val (.double (own_f1 gg ss cc)), .second, .val (.double (own_f1 ss gg cc)), .second, .val (.double (0 : UInt64)), .second, .val (.int (1 : Int32)), .val (.int (1 : Int32)), .val (.int (1 : Int32)), .unset, .unset] [(.int (cmpValue (FP.dcmp (own_f1 gg ss cc) (4607182418800017408 : UInt64)) .l))])) _
        refine XS.ifYes X20.here hx rfl (pc0 := 209) (pc' := 216) rfl (hb hby at_209) rfl ((if0 _ _).trans (feq ((by rw [Own.cv_lt k1] <;> decide) : ¬ ((cmpValue (FP.dcmp (own_f1 gg ss cc) (4607182418800017408 : UInt64)) .l) = (0 : Int32)))).2) (by decide) (by decide) ?_
        show Steps p.tables e below (T20.setTop (mkF m 216 #[.val (.int p1), .val (.int p2), .val (.int p3), .val (.int p4), .val (.int gg), .val (.int ss), .val (.long ((mn.toInt64) + (1 : Int64))), .second, .val (.int cc), .val (.ref b6), .val (.ref b10), .val (.double (own_f1 gg ss cc)), .second, .val (.double (own_f1 ss gg cc)), .second, .val (.double (0 : UInt64)), .second, .val (.int (1 : Int32)), .val (.int (1 : Int32)), .val (.int (1 : Int32)), .unset, .unset] [])) _
        refine XS.iconst X20.here hx rfl (hb hby at_216) ?_
        show Steps p.tables e below (T20.setTop (mkF m 217 #[.val (.int p1), .val (.int p2), .val (.int p3), .val (.int p4), .val (.int gg), .val (.int ss), .val (.long ((mn.toInt64) + (1 : Int64))), .second, .val (.int cc), .val (.ref b6), .val (.ref b10), .val (.double (own_f1 gg ss cc)), .second, .val (.double (own_f1 ss gg cc)), .second, .val (.double (0 : UInt64)), .second, .val (.int (1 : Int32)), .val (.int (1 : Int32)), .val (.int (1 : Int32)), .unset, .unset] [(.int (0 : Int32))])) _
        refine XS.iload X20.here hx rfl (hb hby at_217) rfl ?_
        show Steps p.tables e below (T20.setTop (mkF m 219 #[.val (.int p1), .val (.int p2), .val (.int p3), .val (.int p4), .val (.int gg), .val (.int ss), .val (.long ((mn.toInt64) + (1 : Int64))), .second, .val (.int cc), .val (.ref b6), .val (.ref b10), .val (.double (own_f1 gg ss cc)), .second, .val (.double (own_f1 ss gg cc)), .second, .val (.double (0 : UInt64)), .second, .val (.int (1 : Int32)), .val (.int (1 : Int32)), .val (.int (1 : Int32)), .unset, .unset] [(.int cc), (.int (0 : Int32))])) _
        refine XS.iload X20.here hx rfl (hb hby at_219) rfl ?_
        show Steps p.tables e below (T20.setTop (mkF m 221 #[.val (.int p1), .val (.int p2), .val (.int p3), .val (.int p4), .val (.int gg), .val (.int ss), .val (.long ((mn.toInt64) + (1 : Int64))), .second, .val (.int cc), .val (.ref b6), .val (.ref b10), .val (.double (own_f1 gg ss cc)), .second, .val (.double (own_f1 ss gg cc)), .second, .val (.double (0 : UInt64)), .second, .val (.int (1 : Int32)), .val (.int (1 : Int32)), .val (.int (1 : Int32)), .unset, .unset] [(.int gg), (.int cc), (.int (0 : Int32))])) _
        refine XS.icmpYes X20.here hx rfl (pc0 := 221) (pc' := 235) rfl (hb hby at_221) rfl (feq (hcg : ¬ (cc = gg))).2 (by decide) (by decide) ?_
        show Steps p.tables e below (T20.setTop (mkF m 235 #[.val (.int p1), .val (.int p2), .val (.int p3), .val (.int p4), .val (.int gg), .val (.int ss), .val (.long ((mn.toInt64) + (1 : Int64))), .second, .val (.int cc), .val (.ref b6), .val (.ref b10), .val (.double (own_f1 gg ss cc)), .second, .val (.double (own_f1 ss gg cc)), .second, .val (.double (0 : UInt64)), .second, .val (.int (1 : Int32)), .val (.int (1 : Int32)), .val (.int (1 : Int32)), .unset, .unset] [(.int (0 : Int32))])) _
        refine XS.iconst X20.here hx rfl (hb hby at_235) ?_
        show Steps p.tables e below (T20.setTop (mkF m 236 #[.val (.int p1), .val (.int p2), .val (.int p3), .val (.int p4), .val (.int gg), .val (.int ss), .val (.long ((mn.toInt64) + (1 : Int64))), .second, .val (.int cc), .val (.ref b6), .val (.ref b10), .val (.double (own_f1 gg ss cc)), .second, .val (.double (own_f1 ss gg cc)), .second, .val (.double (0 : UInt64)), .second, .val (.int (1 : Int32)), .val (.int (1 : Int32)), .val (.int (1 : Int32)), .unset, .unset] [(.int (0 : Int32)), (.int (0 : Int32))])) _
        refine XS.icmpNo X20.here hx rfl (hb hby at_236) rfl (teq (by decide : (0 : Int32) = (0 : Int32))).2 ?_
        show Steps p.tables e below (T20.setTop (mkF m 239 #[.val (.int p1), .val (.int p2), .val (.int p3), .val (.int p4), .val (.int gg), .val (.int ss), .val (.long ((mn.toInt64) + (1 : Int64))), .second, .val (.int cc), .val (.ref b6), .val (.ref b10), .val (.double (own_f1 gg ss cc)), .second, .val (.double (own_f1 ss gg cc)), .second, .val (.double (0 : UInt64)), .second, .val (.int (1 : Int32)), .val (.int (1 : Int32)), .val (.int (1 : Int32)), .unset, .unset] [])) _
        refine XS.iconst X20.here hx rfl (hb hby at_239) ?_
        show Steps p.tables e below (T20.setTop (mkF m 240 #[.val (.int p1), .val (.int p2), .val (.int p3), .val (.int p4), .val (.int gg), .val (.int ss), .val (.long ((mn.toInt64) + (1 : Int64))), .second, .val (.int cc), .val (.ref b6), .val (.ref b10), .val (.double (own_f1 gg ss cc)), .second, .val (.double (own_f1 ss gg cc)), .second, .val (.double (0 : UInt64)), .second, .val (.int (1 : Int32)), .val (.int (1 : Int32)), .val (.int (1 : Int32)), .unset, .unset] [(.int (1 : Int32))])) _
        refine XS.goto X20.here hx rfl (pc0 := 240) (pc' := 244) rfl (hb hby at_240) (by decide) (by decide) ?_
        show Steps p.tables e below (T20.setTop (mkF m 244 #[.val (.int p1), .val (.int p2), .val (.int p3), .val (.int p4), .val (.int gg), .val (.int ss), .val (.long ((mn.toInt64) + (1 : Int64))), .second, .val (.int cc), .val (.ref b6), .val (.ref b10), .val (.double (own_f1 gg ss cc)), .second, .val (.double (own_f1 ss gg cc)), .second, .val (.double (0 : UInt64)), .second, .val (.int (1 : Int32)), .val (.int (1 : Int32)), .val (.int (1 : Int32)), .unset, .unset] [(.int (1 : Int32))])) _
        refine XS.istore X20.here hx rfl (hb hby at_244) rfl (l' := #[.val (.int p1), .val (.int p2), .val (.int p3), .val (.int p4), .val (.int gg), .val (.int ss), .val (.long ((mn.toInt64) + (1 : Int64))), .second, .val (.int cc), .val (.ref b6), .val (.ref b10), .val (.double (own_f1 gg ss cc)), .second, .val (.double (own_f1 ss gg cc)), .second, .val (.double (0 : UInt64)), .second, .val (.int (1 : Int32)), .val (.int (1 : Int32)), .val (.int (1 : Int32)), .val (.int (1 : Int32)), .unset]) rfl ?_
        show Steps p.tables e below (T20.setTop (mkF m 246 #[.val (.int p1), .val (.int p2), .val (.int p3), .val (.int p4), .val (.int gg), .val (.int ss), .val (.long ((mn.toInt64) + (1 : Int64))), .second, .val (.int cc), .val (.ref b6), .val (.ref b10), .val (.double (own_f1 gg ss cc)), .second, .val (.double (own_f1 ss gg cc)), .second, .val (.double (0 : UInt64)), .second, .val (.int (1 : Int32)), .val (.int (1 : Int32)), .val (.int (1 : Int32)), .val (.int (1 : Int32)), .unset] [])) _
        refine own_dload X20.here hx rfl (hb hby at_246) rfl ?_
        show Steps p.tables e below (T20.setTop (mkF m 248 #[.val (.int p1), .val (.int p2), .val (.int p3), .val (.int p4), .val (.int gg), .val (.int ss), .val (.long ((mn.toInt64) + (1 : Int64))), .second, .val (.int cc), .val (.ref b6), .val (.ref b10), .val (.double (own_f1 gg ss cc)), .second, .val (.double (own_f1 ss gg cc)), .second, .val (.double (0 : UInt64)), .second, .val (.int (1 : Int32)), .val (.int (1 : Int32)), .val (.int (1 : Int32)), .val (.int (1 : Int32)), .unset] [(.double (own_f1 gg ss cc))])) _
        refine own_dconst0 X20.here hx rfl (hb hby at_248) ?_
        show Steps p.tables e below (T20.setTop (mkF m 249 #[.val (.int p1), .val (.int p2), .val (.int p3), .val (.int p4), .val (.int gg), .val (.int ss), .val (.long ((mn.toInt64) + (1 : Int64))), .second, .val (.int cc), .val (.ref b6), .val (.ref b10), .val (.double (own_f1 gg ss cc)), .second, .val (.double (own_f1 ss gg cc)), .second, .val (.double (0 : UInt64)), .second, .val (.int (1 : Int32)), .val (.int (1 : Int32)), .val (.int (1 : Int32)), .val (.int (1 : Int32)), .unset] [(.double (0 : UInt64)), (.double (own_f1 gg ss cc))])) _
        refine own_dcmp X20.here hx rfl (hb hby at_249) rfl ?_
        show Steps p.tables e below (T20.setTop (mkF m 250 #[.val (.int p1), .val (.int p2), .val (.int p3), .val (.int p4), .val (.int gg), .val (.int ss), .val (.long ((mn.toInt64) + (1 : Int64))), .second, .val (.int cc), .val (.ref b6), .val (.ref b10), .val (.double (own_f1 gg ss cc)), .second, .val (.double (own_f1 ss gg cc)), .second, .val (.double (0 : UInt64)), .second, .val (.int (1 : Int32)), .val (.int (1 : Int32)), .val (.int (1 : Int32)), .val (.int (1 : Int32)), .unset] [(.int (cmpValue (FP.dcmp (own_f1 gg ss cc) (0 : UInt64)) .l))])) _
        refine XS.ifNo X20.here hx rfl (hb hby at_250) rfl ((if0 _ _).trans (teq ((by rw [Own.cv_eq k4] <;> decide) : (cmpValue (FP.dcmp (own_f1 gg ss cc) (0 : UInt64)) .l) = (0 : Int32))).2) ?_
        show Steps p.tables e below (T20.setTop (mkF m 253 #[.val (.int p1), .val (.int p2), .val (.int p3), .val (.int p4), .val (.int gg), .val (.int ss), .val (.long ((mn.toInt64) + (1 : Int64))), .second, .val (.int cc), .val (.ref b6), .val (.ref b10), .val (.double (own_f1 gg ss cc)), .second, .val (.double (own_f1 ss gg cc)), .second, .val (.double (0 : UInt64)), .second, .val (.int (1 : Int32)), .val (.int (1 : Int32)), .val (.int (1 : Int32)), .val (.int (1 : Int32)), .unset] [])) _
        refine XS.iconst X20.here hx rfl (hb hby at_253) ?_
        show Steps p.tables e below (T20.setTop (mkF m 254 #[.val (.int p1), .val (.int p2), .val (.int p3), .val (.int p4), .val (.int gg), .val (.int ss), .val (.long ((mn.toInt64) + (1 : Int64))), .second, .val (.int cc), .val (.ref b6), .val (.ref b10), .val (.double (own_f1 gg ss cc)), .second, .val (.double (own_f1 ss gg cc)), .second, .val (.double (0 : UInt64)), .second, .val (.int (1 : Int32)), .val (.int (1 : Int32)), .val (.int (1 : Int32)), .val (.int (1 : Int32)), .unset] [(.int (1 : Int32))])) _
        refine XS.goto X20.here hx rfl (pc0 := 254) (pc' := 258) rfl (hb hby at_254) (by decide) (by decide) ?_
        show Steps p.tables e below (T20.setTop (mkF m 258 #[.val (.int p1), .val (.int p2), .val (.int p3), .val (.int p4), .val (.int gg), .val (.int ss), .val (.long ((mn.toInt64) + (1 : Int64))), .second, .val (.int cc), .val (.ref b6), .val (.ref b10), .val (.double (own_f1 gg ss cc)), .second, .val (.double (own_f1 ss gg cc)), .second, .val (.double (0 : UInt64)), .second, .val (.int (1 : Int32)), .val (.int (1 : Int32)), .val (.int (1 : Int32)), .val (.int (1 : Int32)), .unset] [(.int (1 : Int32))])) _
        refine XS.iload X20.here hx rfl (hb hby at_258) rfl ?_
        show Steps p.tables e below (T20.setTop (mkF m 260 #[.val (.int p1), .val (.int p2), .val (.int p3), .val (.int p4), .val (.int gg), .val (.int ss), .val (.long ((mn.toInt64) + (1 : Int64))), .second, .val (.int cc), .val (.ref b6), .val (.ref b10), .val (.double (own_f1 gg ss cc)), .second, .val (.double (own_f1 ss gg cc)), .second, .val (.double (0 : UInt64)), .second, .val (.int (1 : Int32)), .val (.int (1 : Int32)), .val (.int (1 : Int32)), .val (.int (1 : Int32)), .unset] [(.int cc), (.int (1 : Int32))])) _
        refine XS.ifNo X20.here hx rfl (hb hby at_260) rfl ((if0 _ _).trans (teq (hc0 : cc = (0 : Int32))).2) ?_
        show Steps p.tables e below (T20.setTop (mkF m 263 #[.val (.int p1), .val (.int p2), .val (.int p3), .val (.int p4), .val (.int gg), .val (.int ss), .val (.long ((mn.toInt64) + (1 : Int64))), .second, .val (.int cc), .val (.ref b6), .val (.ref b10), .val (.double (own_f1 gg ss cc)), .second, .val (.double (own_f1 ss gg cc)), .second, .val (.double (0 : UInt64)), .second, .val (.int (1 : Int32)), .val (.int (1 : Int32)), .val (.int (1 : Int32)), .val (.int (1 : Int32)), .unset] [(.int (1 : Int32))])) _
        refine XS.iload X20.here hx rfl (hb hby at_263) rfl ?_
        show Steps p.tables e below (T20.setTop (mkF m 265 #[.val (.int p1), .val (.int p2), .val (.int p3), .val (.int p4), .val (.int gg), .val (.int ss), .val (.long ((mn.toInt64) + (1 : Int64))), .second, .val (.int cc), .val (.ref b6), .val (.ref b10), .val (.double (own_f1 gg ss cc)), .second, .val (.double (own_f1 ss gg cc)), .second, .val (.double (0 : UInt64)), .second, .val (.int (1 : Int32)), .val (.int (1 : Int32)), .val (.int (1 : Int32)), .val (.int (1 : Int32)), .unset] [(.int gg), (.int (1 : Int32))])) _
        refine XS.ifYes X20.here hx rfl (pc0 := 265) (pc' := 273) rfl (hb hby at_265) rfl ((if0 _ _).trans (feq (hg : ¬ (gg = (0 : Int32)))).2) (by decide) (by decide) ?_
        show Steps p.tables e below (T20.setTop (mkF m 273 #[.val (.int p1), .val (.int p2), .val (.int p3), .val (.int p4), .val (.int gg), .val (.int ss), .val (.long ((mn.toInt64) + (1 : Int64))), .second, .val (.int cc), .val (.ref b6), .val (.ref b10), .val (.double (own_f1 gg ss cc)), .second, .val (.double (own_f1 ss gg cc)), .second, .val (.double (0 : UInt64)), .second, .val (.int (1 : Int32)), .val (.int (1 : Int32)), .val (.int (1 : Int32)), .val (.int (1 : Int32)), .unset] [(.int (1 : Int32))])) _
        refine XS.iconst X20.here hx rfl (hb hby at_273) ?_
        show Steps p.tables e below (T20.setTop (mkF m 274 #[.val (.int p1), .val (.int p2), .val (.int p3), .val (.int p4), .val (.int gg), .val (.int ss), .val (.long ((mn.toInt64) + (1 : Int64))), .second, .val (.int cc), .val (.ref b6), .val (.ref b10), .val (.double (own_f1 gg ss cc)), .second, .val (.double (own_f1 ss gg cc)), .second, .val (.double (0 : UInt64)), .second, .val (.int (1 : Int32)), .val (.int (1 : Int32)), .val (.int (1 : Int32)), .val (.int (1 : Int32)), .unset] [(.int (1 : Int32)), (.int (1 : Int32))])) _
        refine XS.goto X20.here hx rfl (pc0 := 274) (pc' := 278) rfl (hb hby at_274) (by decide) (by decide) ?_
        show Steps p.tables e below (T20.setTop (mkF m 278 #[.val (.int p1), .val (.int p2), .val (.int p3), .val (.int p4), .val (.int gg), .val (.int ss), .val (.long ((mn.toInt64) + (1 : Int64))), .second, .val (.int cc), .val (.ref b6), .val (.ref b10), .val (.double (own_f1 gg ss cc)), .second, .val (.double (own_f1 ss gg cc)), .second, .val (.double (0 : UInt64)), .second, .val (.int (1 : Int32)), .val (.int (1 : Int32)), .val (.int (1 : Int32)), .val (.int (1 : Int32)), .unset] [(.int (1 : Int32)), (.int (1 : Int32))])) _
        refine XS.icmpNo X20.here hx rfl (hb hby at_278) rfl (teq (by decide : (1 : Int32) = (1 : Int32))).2 ?_
        show Steps p.tables e below (T20.setTop (mkF m 281 #[.val (.int p1), .val (.int p2), .val (.int p3), .val (.int p4), .val (.int gg), .val (.int ss), .val (.long ((mn.toInt64) + (1 : Int64))), .second, .val (.int cc), .val (.ref b6), .val (.ref b10), .val (.double (own_f1 gg ss cc)), .second, .val (.double (own_f1 ss gg cc)), .second, .val (.double (0 : UInt64)), .second, .val (.int (1 : Int32)), .val (.int (1 : Int32)), .val (.int (1 : Int32)), .val (.int (1 : Int32)), .unset] [])) _
        refine XS.iconst X20.here hx rfl (hb hby at_281) ?_
        show Steps p.tables e below (T20.setTop (mkF m 282 #[.val (.int p1), .val (.int p2), .val (.int p3), .val (.int p4), .val (.int gg), .val (.int ss), .val (.long ((mn.toInt64) + (1 : Int64))), .second, .val (.int cc), .val (.ref b6), .val (.ref b10), .val (.double (own_f1 gg ss cc)), .second, .val (.double (own_f1 ss gg cc)), .second, .val (.double (0 : UInt64)), .second, .val (.int (1 : Int32)), .val (.int (1 : Int32)), .val (.int (1 : Int32)), .val (.int (1 : Int32)), .unset] [(.int (1 : Int32))])) _
        refine XS.goto X20.here hx rfl (pc0 := 282) (pc' := 286) rfl (hb hby at_282) (by decide) (by decide) ?_
        show Steps p.tables e below (T20.setTop (mkF m 286 #[.val (.int p1), .val (.int p2), .val (.int p3), .val (.int p4), .val (.int gg), .val (.int ss), .val (.long ((mn.toInt64) + (1 : Int64))), .second, .val (.int cc), .val (.ref b6), .val (.ref b10), .val (.double (own_f1 gg ss cc)), .second, .val (.double (own_f1 ss gg cc)), .second, .val (.double (0 : UInt64)), .second, .val (.int (1 : Int32)), .val (.int (1 : Int32)), .val (.int (1 : Int32)), .val (.int (1 : Int32)), .unset] [(.int (1 : Int32))])) _
        refine XS.istore X20.here hx rfl (hb hby at_286) rfl (l' := #[.val (.int p1), .val (.int p2), .val (.int p3), .val (.int p4), .val (.int gg), .val (.int ss), .val (.long ((mn.toInt64) + (1 : Int64))), .second, .val (.int cc), .val (.ref b6), .val (.ref b10), .val (.double (own_f1 gg ss cc)), .second, .val (.double (own_f1 ss gg cc)), .second, .val (.double (0 : UInt64)), .second, .val (.int (1 : Int32)), .val (.int (1 : Int32)), .val (.int (1 : Int32)), .val (.int (1 : Int32)), .val (.int (1 : Int32))]) rfl ?_
        show Steps p.tables e below (T20.setTop (mkF m 288 #[.val (.int p1), .val (.int p2), .val (.int p3), .val (.int p4), .val (.int gg), .val (.int ss), .val (.long ((mn.toInt64) + (1 : Int64))), .second, .val (.int cc), .val (.ref b6), .val (.ref b10), .val (.double (own_f1 gg ss cc)), .second, .val (.double (own_f1 ss gg cc)), .second, .val (.double (0 : UInt64)), .second, .val (.int (1 : Int32)), .val (.int (1 : Int32)), .val (.int (1 : Int32)), .val (.int (1 : Int32)), .val (.int (1 : Int32))] [])) _
        refine XS.iload X20.here hx rfl (hb hby at_288) rfl ?_
        show Steps p.tables e below (T20.setTop (mkF m 290 #[.val (.int p1), .val (.int p2), .val (.int p3), .val (.int p4), .val (.int gg), .val (.int ss), .val (.long ((mn.toInt64) + (1 : Int64))), .second, .val (.int cc), .val (.ref b6), .val (.ref b10), .val (.double (own_f1 gg ss cc)), .second, .val (.double (own_f1 ss gg cc)), .second, .val (.double (0 : UInt64)), .second, .val (.int (1 : Int32)), .val (.int (1 : Int32)), .val (.int (1 : Int32)), .val (.int (1 : Int32)), .val (.int (1 : Int32))] [(.int (1 : Int32))])) _
        refine XS.ifNo X20.here hx rfl (hb hby at_290) rfl ((if0 _ _).trans (feq (by decide : ¬ ((1 : Int32) = (0 : Int32)))).1) ?_
        show Steps p.tables e below (T20.setTop (mkF m 293 #[.val (.int p1), .val (.int p2), .val (.int p3), .val (.int p4), .val (.int gg), .val (.int ss), .val (.long ((mn.toInt64) + (1 : Int64))), .second, .val (.int cc), .val (.ref b6), .val (.ref b10), .val (.double (own_f1 gg ss cc)), .second, .val (.double (own_f1 ss gg cc)), .second, .val (.double (0 : UInt64)), .second, .val (.int (1 : Int32)), .val (.int (1 : Int32)), .val (.int (1 : Int32)), .val (.int (1 : Int32)), .val (.int (1 : Int32))] [])) _
        refine XS.iload X20.here hx rfl (hb hby at_293) rfl ?_
        show Steps p.tables e below (T20.setTop (mkF m 295 #[.val (.int p1), .val (.int p2), .val (.int p3), .val (.int p4), .val (.int gg), .val (.int ss), .val (.long ((mn.toInt64) + (1 : Int64))), .second, .val (.int cc), .val (.ref b6), .val (.ref b10), .val (.double (own_f1 gg ss cc)), .second, .val (.double (own_f1 ss gg cc)), .second, .val (.double (0 : UInt64)), .second, .val (.int (1 : Int32)), .val (.int (1 : Int32)), .val (.int (1 : Int32)), .val (.int (1 : Int32)), .val (.int (1 : Int32))] [(.int (1 : Int32))])) _
        refine XS.ifNo X20.here hx rfl (hb hby at_295) rfl ((if0 _ _).trans (feq (by decide : ¬ ((1 : Int32) = (0 : Int32)))).1) ?_
        show Steps p.tables e below (T20.setTop (mkF m 298 #[.val (.int p1), .val (.int p2), .val (.int p3), .val (.int p4), .val (.int gg), .val (.int ss), .val (.long ((mn.toInt64) + (1 : Int64))), .second, .val (.int cc), .val (.ref b6), .val (.ref b10), .val (.double (own_f1 gg ss cc)), .second, .val (.double (own_f1 ss gg cc)), .second, .val (.double (0 : UInt64)), .second, .val (.int (1 : Int32)), .val (.int (1 : Int32)), .val (.int (1 : Int32)), .val (.int (1 : Int32)), .val (.int (1 : Int32))] [])) _
        refine XS.iload X20.here hx rfl (hb hby at_298) rfl ?_
        show Steps p.tables e below (T20.setTop (mkF m 300 #[.val (.int p1), .val (.int p2), .val (.int p3), .val (.int p4), .val (.int gg), .val (.int ss), .val (.long ((mn.toInt64) + (1 : Int64))), .second, .val (.int cc), .val (.ref b6), .val (.ref b10), .val (.double (own_f1 gg ss cc)), .second, .val (.double (own_f1 ss gg cc)), .second, .val (.double (0 : UInt64)), .second, .val (.int (1 : Int32)), .val (.int (1 : Int32)), .val (.int (1 : Int32)), .val (.int (1 : Int32)), .val (.int (1 : Int32))] [(.int (1 : Int32))])) _
        refine XS.ifNo X20.here hx rfl (hb hby at_300) rfl ((if0 _ _).trans (feq (by decide : ¬ ((1 : Int32) = (0 : Int32)))).1) ?_
        show Steps p.tables e below (T20.setTop (mkF m 303 #[.val (.int p1), .val (.int p2), .val (.int p3), .val (.int p4), .val (.int gg), .val (.int ss), .val (.long ((mn.toInt64) + (1 : Int64))), .second, .val (.int cc), .val (.ref b6), .val (.ref b10), .val (.double (own_f1 gg ss cc)), .second, .val (.double (own_f1 ss gg cc)), .second, .val (.double (0 : UInt64)), .second, .val (.int (1 : Int32)), .val (.int (1 : Int32)), .val (.int (1 : Int32)), .val (.int (1 : Int32)), .val (.int (1 : Int32))] [])) _
        refine XS.iload X20.here hx rfl (hb hby at_303) rfl ?_
        show Steps p.tables e below (T20.setTop (mkF m 305 #[.val (.int p1), .val (.int p2), .val (.int p3), .val (.int p4), .val (.int gg), .val (.int ss), .val (.long ((mn.toInt64) + (1 : Int64))), .second, .val (.int cc), .val (.ref b6), .val (.ref b10), .val (.double (own_f1 gg ss cc)), .second, .val (.double (own_f1 ss gg cc)), .second, .val (.double (0 : UInt64)), .second, .val (.int (1 : Int32)), .val (.int (1 : Int32)), .val (.int (1 : Int32)), .val (.int (1 : Int32)), .val (.int (1 : Int32))] [(.int (1 : Int32))])) _
        refine XS.ifNo X20.here hx rfl (hb hby at_305) rfl ((if0 _ _).trans (feq (by decide : ¬ ((1 : Int32) = (0 : Int32)))).1) ?_
        show Steps p.tables e below (T20.setTop (mkF m 308 #[.val (.int p1), .val (.int p2), .val (.int p3), .val (.int p4), .val (.int gg), .val (.int ss), .val (.long ((mn.toInt64) + (1 : Int64))), .second, .val (.int cc), .val (.ref b6), .val (.ref b10), .val (.double (own_f1 gg ss cc)), .second, .val (.double (own_f1 ss gg cc)), .second, .val (.double (0 : UInt64)), .second, .val (.int (1 : Int32)), .val (.int (1 : Int32)), .val (.int (1 : Int32)), .val (.int (1 : Int32)), .val (.int (1 : Int32))] [])) _
        refine XS.iload X20.here hx rfl (hb hby at_308) rfl ?_
        show Steps p.tables e below (T20.setTop (mkF m 310 #[.val (.int p1), .val (.int p2), .val (.int p3), .val (.int p4), .val (.int gg), .val (.int ss), .val (.long ((mn.toInt64) + (1 : Int64))), .second, .val (.int cc), .val (.ref b6), .val (.ref b10), .val (.double (own_f1 gg ss cc)), .second, .val (.double (own_f1 ss gg cc)), .second, .val (.double (0 : UInt64)), .second, .val (.int (1 : Int32)), .val (.int (1 : Int32)), .val (.int (1 : Int32)), .val (.int (1 : Int32)), .val (.int (1 : Int32))] [(.int (1 : Int32))])) _
        refine XS.ifNo X20.here hx rfl (hb hby at_310) rfl ((if0 _ _).trans (feq (by decide : ¬ ((1 : Int32) = (0 : Int32)))).1) ?_
        show Steps p.tables e below (T20.setTop (mkF m 313 #[.val (.int p1), .val (.int p2), .val (.int p3), .val (.int p4), .val (.int gg), .val (.int ss), .val (.long ((mn.toInt64) + (1 : Int64))), .second, .val (.int cc), .val (.ref b6), .val (.ref b10), .val (.double (own_f1 gg ss cc)), .second, .val (.double (own_f1 ss gg cc)), .second, .val (.double (0 : UInt64)), .second, .val (.int (1 : Int32)), .val (.int (1 : Int32)), .val (.int (1 : Int32)), .val (.int (1 : Int32)), .val (.int (1 : Int32))] [])) _
        refine XS.iconst X20.here hx rfl (hb hby at_313) ?_
        show Steps p.tables e below (T20.setTop (mkF m 314 #[.val (.int p1), .val (.int p2), .val (.int p3), .val (.int p4), .val (.int gg), .val (.int ss), .val (.long ((mn.toInt64) + (1 : Int64))), .second, .val (.int cc), .val (.ref b6), .val (.ref b10), .val (.double (own_f1 gg ss cc)), .second, .val (.double (own_f1 ss gg cc)), .second, .val (.double (0 : UInt64)), .second, .val (.int (1 : Int32)), .val (.int (1 : Int32)), .val (.int (1 : Int32)), .val (.int (1 : Int32)), .val (.int (1 : Int32))] [(.int (1 : Int32))])) _
        refine XS.goto X20.here hx rfl (pc0 := 314) (pc' := 318) rfl (hb hby at_314) (by decide) (by decide) ?_
        exact kt
      refine Go.adv sg24 ?_
      refine Go.ret (v := (some (.int (1 : Int32)))) X20 (fun h => by rw [Bd.returns] at h; cases h) Bd.notSynchronized (fun fs hr => retN X20 hx (t := .boolean) Bd.returns (by simp) (hb hby at_318) hr) ?_ (by decide) (by decide)
      show Q_rm0 Z p1 p2 p3 p4 h0 n0 (some (.int (1 : Int32))) T20.heap _
      rw [e20]
      exact ⟨rfl, N20⟩
    · obtain ⟨k1, k2, k3, k4, k5, k6⟩ := own_f1_D hC hg hs
      by_cases hc0 : cc = 0
      · have hcg : ¬ (cc = gg) := fun q => hg (q.symm.trans hc0)
        rw [if_neg (fun q => hcg q.1)] at k1
        rw [if_pos hc0] at k3 k4
        have sg25 : ∀ t, Steps p.tables e below (T20.setTop (mkF m 318 #[.val (.int p1), .val (.int p2), .val (.int p3), .val (.int p4), .val (.int gg), .val (.int ss), .val (.long ((mn.toInt64) + (1 : Int64))), .second, .val (.int cc), .val (.ref b6), .val (.ref b10), .val (.double (own_f1 gg ss cc)), .second, .val (.double (own_f1 ss gg cc)), .second, .val (.double (FP.ddiv (FP.l2d ((2 : Int64) * (cc.toInt64))) (FP.l2d ((gg.toInt64) + (ss.toInt64))))), .second, .val (.int (1 : Int32)), .val (.int (1 : Int32)), .val (.int (1 : Int32)), .val (.int (1 : Int32)), .val (.int (1 : Int32))] [(.int (1 : Int32))])) t → Steps p.tables e below (T20.setTop (mkF m 99 #[.val (.int p1), .val (.int p2), .val (.int p3), .val (.int p4), .val (.int gg), .val (.int ss), .val (.long ((mn.toInt64) + (1 : Int64))), .second, .val (.int cc), .val (.ref b6), .val (.ref b10), .val (.double (own_f1 gg ss cc)), .second, .val (.double (own_f1 ss gg cc)), .second, .unset, .unset, .unset, .unset, .unset, .unset, .unset] [])) t := by
          intro t kt
          show Steps p.tables e below (T20.setTop (mkF m 99 #[.val (.int p1), .val (.int p2), .val (.int p3), .val (.int p4), .val (.int gg), .val (.int ss), .val (.long ((mn.toInt64) + (1 : Int64))), .second, .val (.int cc), .val (.ref b6), .val (.ref b10), .val (.double (own_f1 gg ss cc)), .second, .val (.double (own_f1 ss gg cc)), .second, .unset, .unset, .unset, .unset, .unset, .unset, .unset] [])) _
          refine XS.iload X20.here hx rfl (hb hby at_99) rfl ?_
          show Steps p.tables e below (T20.setTop (mkF m 101 #[.val (.int p1), .val (.int p2), .val (.int p3), .val (.int p4), .val (.int gg), .val (.int ss), .val (.long ((mn.toInt64) + (1 : Int64))), .second, .val (.int cc), .val (.ref b6), .val (.ref b10), .val (.double (own_f1 gg ss cc)), .second, .val (.double (own_f1 ss gg cc)), .second, .unset, .unset, .unset, .unset, .unset, .unset, .unset] [(.int gg)])) _
          refine XS.ifYes X20.here hx rfl (pc0 := 101) (pc' := 115) rfl (hb hby at_101) rfl ((if0 _ _).trans (feq (hg : ¬ (gg = (0 : Int32)))).2) (by decide) (by decide) ?_
          show Steps p.tables e below (T20.setTop (mkF m 115 #[.val (.int p1), .val (.int p2), .val (.int p3), .val (.int p4), .val (.int gg), .val (.int ss), .val (.long ((mn.toInt64) + (1 : Int64))), .second, .val (.int cc), .val (.ref b6), .val (.ref b10), .val (.double (own_f1 gg ss cc)), .second, .val (.double (own_f1 ss gg cc)), .second, .unset, .unset, .unset, .unset, .unset, .unset, .unset] [])) _
          refine XS.iload X20.here hx rfl (hb hby at_115) rfl ?_
          show Steps p.tables e below (T20.setTop (mkF m 117 #[.val (.int p1), .val (.int p2), .val (.int p3), .val (.int p4), .val (.int gg), .val (.int ss), .val (.long ((mn.toInt64) + (1 : Int64))), .second, .val (.int cc), .val (.ref b6), .val (.ref b10), .val (.double (own_f1 gg ss cc)), .second, .val (.double (own_f1 ss gg cc)), .second, .unset, .unset, .unset, .unset, .unset, .unset, .unset] [(.int gg)])) _
          refine XS.ifNo X20.here hx rfl (hb hby at_117) rfl ((if0 _ _).trans (feq (hg : ¬ (gg = (0 : Int32)))).1) ?_
          show Steps p.tables e below (T20.setTop (mkF m 120 #[.val (.int p1), .val (.int p2), .val (.int p3), .val (.int p4), .val (.int gg), .val (.int ss), .val (.long ((mn.toInt64) + (1 : Int64))), .second, .val (.int cc), .val (.ref b6), .val (.ref b10), .val (.double (own_f1 gg ss cc)), .second, .val (.double (own_f1 ss gg cc)), .second, .unset, .unset, .unset, .unset, .unset, .unset, .unset] [])) _
          refine XS.iload X20.here hx rfl (hb hby at_120) rfl ?_
          show Steps p.tables e below (T20.setTop (mkF m 122 #[.val (.int p1), .val (.int p2), .val (.int p3), .val (.int p4), .val (.int gg), .val (.int ss), .val (.long ((mn.toInt64) + (1 : Int64))), .second, .val (.int cc), .val (.ref b6), .val (.ref b10), .val (.double (own_f1 gg ss cc)), .second, .val (.double (own_f1 ss gg cc)), .second, .unset, .unset, .unset, .unset, .unset, .unset, .unset] [(.int ss)])) _
          refine XS.ifYes X20.here hx rfl (pc0 := 122) (pc' := 131) rfl (hb hby at_122) rfl ((if0 _ _).trans (feq (hs : ¬ (ss = (0 : Int32)))).2) (by decide) (by decide) ?_
          show Steps p.tables e below (T20.setTop (mkF m 131 #[.val (.int p1), .val (.int p2), .val (.int p3), .val (.int p4), .val (.int gg), .val (.int ss), .val (.long ((mn.toInt64) + (1 : Int64))), .second, .val (.int cc), .val (.ref b6), .val (.ref b10), .val (.double (own_f1 gg ss cc)), .second, .val (.double (own_f1 ss gg cc)), .second, .unset, .unset, .unset, .unset, .unset, .unset, .unset] [])) _
          refine XS.iload X20.here hx rfl (hb hby at_131) rfl ?_
          show Steps p.tables e below (T20.setTop (mkF m 133 #[.val (.int p1), .val (.int p2), .val (.int p3), .val (.int p4), .val (.int gg), .val (.int ss), .val (.long ((mn.toInt64) + (1 : Int64))), .second, .val (.int cc), .val (.ref b6), .val (.ref b10), .val (.double (own_f1 gg ss cc)), .second, .val (.double (own_f1 ss gg cc)), .second, .unset, .unset, .unset, .unset, .unset, .unset, .unset] [(.int gg)])) _
          refine XS.i2l X20.here hx rfl (hb hby at_133) rfl ?_
          show Steps p.tables e below (T20.setTop (mkF m 134 #[.val (.int p1), .val (.int p2), .val (.int p3), .val (.int p4), .val (.int gg), .val (.int ss), .val (.long ((mn.toInt64) + (1 : Int64))), .second, .val (.int cc), .val (.ref b6), .val (.ref b10), .val (.double (own_f1 gg ss cc)), .second, .val (.double (own_f1 ss gg cc)), .second, .unset, .unset, .unset, .unset, .unset, .unset, .unset] [(.long (gg.toInt64))])) _
          refine XS.iload X20.here hx rfl (hb hby at_134) rfl ?_
          show Steps p.tables e below (T20.setTop (mkF m 136 #[.val (.int p1), .val (.int p2), .val (.int p3), .val (.int p4), .val (.int gg), .val (.int ss), .val (.long ((mn.toInt64) + (1 : Int64))), .second, .val (.int cc), .val (.ref b6), .val (.ref b10), .val (.double (own_f1 gg ss cc)), .second, .val (.double (own_f1 ss gg cc)), .second, .unset, .unset, .unset, .unset, .unset, .unset, .unset] [(.int ss), (.long (gg.toInt64))])) _
          refine XS.i2l X20.here hx rfl (hb hby at_136) rfl ?_
          show Steps p.tables e below (T20.setTop (mkF m 137 #[.val (.int p1), .val (.int p2), .val (.int p3), .val (.int p4), .val (.int gg), .val (.int ss), .val (.long ((mn.toInt64) + (1 : Int64))), .second, .val (.int cc), .val (.ref b6), .val (.ref b10), .val (.double (own_f1 gg ss cc)), .second, .val (.double (own_f1 ss gg cc)), .second, .unset, .unset, .unset, .unset, .unset, .unset, .unset] [(.long (ss.toInt64)), (.long (gg.toInt64))])) _
          refine XS.ladd X20.here hx rfl (hb hby at_137) rfl ?_
          show Steps p.tables e below (T20.setTop (mkF m 138 #[.val (.int p1), .val (.int p2), .val (.int p3), .val (.int p4), .val (.int gg), .val (.int ss), .val (.long ((mn.toInt64) + (1 : Int64))), .second, .val (.int cc), .val (.ref b6), .val (.ref b10), .val (.double (own_f1 gg ss cc)), .second, .val (.double (own_f1 ss gg cc)), .second, .unset, .unset, .unset, .unset, .unset, .unset, .unset] [(.long ((gg.toInt64) + (ss.toInt64)))])) _
          refine XS.lstore X20.here hx rfl (hb hby at_138) rfl (l' := #[.val (.int p1), .val (.int p2), .val (.int p3), .val (.int p4), .val (.int gg), .val (.int ss), .val (.long ((mn.toInt64) + (1 : Int64))), .second, .val (.int cc), .val (.ref b6), .val (.ref b10), .val (.double (own_f1 gg ss cc)), .second, .val (.double (own_f1 ss gg cc)), .second, .unset, .unset, .val (.long ((gg.toInt64) + (ss.toInt64))), .second, .unset, .unset, .unset]) rfl ?_
          show Steps p.tables e below (T20.setTop (mkF m 140 #[.val (.int p1), .val (.int p2), .val (.int p3), .val (.int p4), .val (.int gg), .val (.int ss), .val (.long ((mn.toInt64) + (1 : Int64))), .second, .val (.int cc), .val (.ref b6), .val (.ref b10), .val (.double (own_f1 gg ss cc)), .second, .val (.double (own_f1 ss gg cc)), .second, .unset, .unset, .val (.long ((gg.toInt64) + (ss.toInt64))), .second, .unset, .unset, .unset] [])) _
          refine X20.ldc2Long hx hown (mvT hZ (hw _ (List.mem_of_getElem? (i := 32) rfl))) (g := (mkF m 140 #[.val (.int p1), .val (.int p2), .val (.int p3), .val (.int p4), .val (.int gg), .val (.int ss), .val (.long ((mn.toInt64) + (1 : Int64))), .second, .val (.int cc), .val (.ref b6), .val (.ref b10), .val (.double (own_f1 gg ss cc)), .second, .val (.double (own_f1 ss gg cc)), .second, .unset, .unset, .val (.long ((gg.toInt64) + (ss.toInt64))), .second, .unset, .unset, .unset] [])) rfl (hb hby at_140) _ ?_
          show Steps p.tables e below (T20.setTop (mkF m 143 #[.val (.int p1), .val (.int p2), .val (.int p3), .val (.int p4), .val (.int gg), .val (.int ss), .val (.long ((mn.toInt64) + (1 : Int64))), .second, .val (.int cc), .val (.ref b6), .val (.ref b10), .val (.double (own_f1 gg ss cc)), .second, .val (.double (own_f1 ss gg cc)), .second, .unset, .unset, .val (.long ((gg.toInt64) + (ss.toInt64))), .second, .unset, .unset, .unset] [(.long (2 : Int64))])) _
          refine XS.iload X20.here hx rfl (hb hby at_143) rfl ?_
          show Steps p.tables e below (T20.setTop (mkF m 145 #[.val (.int p1), .val (.int p2), .val (.int p3), .val (.int p4), .val (.int gg), .val (.int ss), .val (.long ((mn.toInt64) + (1 : Int64))), .second, .val (.int cc), .val (.ref b6), .val (.ref b10), .val (.double (own_f1 gg ss cc)), .second, .val (.double (own_f1 ss gg cc)), .second, .unset, .unset, .val (.long ((gg.toInt64) + (ss.toInt64))), .second, .unset, .unset, .unset] [(.int cc), (.long (2 : Int64))])) _
          refine XS.i2l X20.here hx rfl (hb hby at_145) rfl ?_
          show Steps p.tables e below (T20.setTop (mkF m 146 #[.val (.int p1), .val (.int p2), .val (.int p3), .val (.int p4), .val (.int gg), .val (.int ss), .val (.long ((mn.toInt64) + (1 : Int64))), .second, .val (.int cc), .val (.ref b6), .val (.ref b10), .val (.double (own_f1 gg ss cc)), .second, .val (.double (own_f1 ss gg cc)), .second, .unset, .unset, .val (.long ((gg.toInt64) + (ss.toInt64))), .second, .unset, .unset, .unset] [(.long (cc.toInt64)), (.long (2 : Int64))])) _
          refine XS.lmul X20.here hx rfl (hb hby at_146) rfl ?_
          show Steps p.tables e below (T20.setTop (mkF m 147 #[.val (.int p1), .val (.int p2), .val (.int p3), .val (.int p4), .val (.int gg), .val (.int ss), .val (.long ((mn.toInt64) + (1 : Int64))), .second, .val (.int cc), .val (.ref b6), .val (.ref b10), .val (.double (own_f1 gg ss cc)), .second, .val (.double (own_f1 ss gg cc)), .second, .unset, .unset, .val (.long ((gg.toInt64) + (ss.toInt64))), .second, .unset, .unset, .unset] [(.long ((2 : Int64) * (cc.toInt64)))])) _
          refine own_l2d X20.here hx rfl (hb hby at_147) rfl ?_
          show Steps p.tables e below (T20.setTop (mkF m 148 #[.val (.int p1), .val (.int p2), .val (.int p3), .val (.int p4), .val (.int gg), .val (.int ss), .val (.long ((mn.toInt64) + (1 : Int64))), .second, .val (.int cc), .val (.ref b6), .val (.ref b10), .val (.double (own_f1 gg ss cc)), .second, .val (.double (own_f1 ss gg cc)), .second, .unset, .unset, .val (.long ((gg.toInt64) + (ss.toInt64))), .second, .unset, .unset, .unset] [(.double (FP.l2d ((2 : Int64) * (cc.toInt64))))])) _
          refine XS.lload X20.here hx rfl (hb hby at_148) rfl ?_
          show Steps p.tables e below (T20.setTop (mkF m 150 #[.val (.int p1), .val (.int p2), .val (.int p3), .val (.int p4), .val (.int gg), .val (.int ss), .val (.long ((mn.toInt64) + (1 : Int64))), .second, .val (.int cc), .val (.ref b6), .val (.ref b10), .val (.double (own_f1 gg ss cc)), .second, .val (.double (own_f1 ss gg cc)), .second, .unset, .unset, .val (.long ((gg.toInt64) + (ss.toInt64))), .second, .unset, .unset, .unset] [(.long ((gg.toInt64) + (ss.toInt64))), (.double (FP.l2d ((2 : Int64) * (cc.toInt64))))])) _
          refine own_l2d X20.here hx rfl (hb hby at_150) rfl ?_
          show Steps p.tables e below (T20.setTop (mkF m 151 #[.val (.int p1), .val (.int p2), .val (.int p3), .val (.int p4), .val (.int gg), .val (.int ss), .val (.long ((mn.toInt64) + (1 : Int64))), .second, .val (.int cc), .val (.ref b6), .val (.ref b10), .val (.double (own_f1 gg ss cc)), .second, .val (.double (own_f1 ss gg cc)), .second, .unset, .unset, .val (.long ((gg.toInt64) + (ss.toInt64))), .second, .unset, .unset, .unset] [(.double (FP.l2d ((gg.toInt64) + (ss.toInt64)))), (.double (FP.l2d ((2 : Int64) * (cc.toInt64))))])) _
          refine own_ddiv X20.here hx rfl (hb hby at_151) rfl k6 ?_
          show Steps p.tables e below (T20.setTop (mkF m 152 #[.val (.int p1), .val (.int p2), .val (.int p3), .val (.int p4), .val (.int gg), .val (.int ss), .val (.long ((mn.toInt64) + (1 : Int64))), .second, .val (.int cc), .val (.ref b6), .val (.ref b10), .val (.double (own_f1 gg ss cc)), .second, .val (.double (own_f1 ss gg cc)), .second, .unset, .unset, .val (.long ((gg.toInt64) + (ss.toInt64))), .second, .unset, .unset, .unset] [(.double (FP.ddiv (FP.l2d ((2 : Int64) * (cc.toInt64))) (FP.l2d ((gg.toInt64) + (ss.toInt64)))))])) _
          refine own_dstore X20.here hx rfl (hb hby at_152) rfl (l' := #[.val (.int p1), .val (.int p2), .val (.int p3), .val (.int p4), .val (.int gg), .val (.int ss), .val (.long ((mn.toInt64) + (1 : Int64))), .second, .val (.int cc), .val (.ref b6), .val (.ref b10), .val (.double (own_f1 gg ss cc)), .second, .val (.double (own_f1 ss gg cc)), .second, .val (.double (FP.ddiv (FP.l2d ((2 : Int64) * (cc.toInt64))) (FP.l2d ((gg.toInt64) + (ss.toInt64))))), .second, .val (.long ((gg.toInt64) + (ss.toInt64))), .second, .unset, .unset, .unset]) rfl ?_
          show Steps p.tables e below (T20.setTop (mkF m 154 #[.val (.int p1), .val (.int p2), .val (.int p3), .val (.int p4), .val (.int gg), .val (.int ss), .val (.long ((mn.toInt64) + (1 : Int64))), .second, .val (.int cc), .val (.ref b6), .val (.ref b10), .val (.double (own_f1 gg ss cc)), .second, .val (.double (own_f1 ss gg cc)), .second, .val (.double (FP.ddiv (FP.l2d ((2 : Int64) * (cc.toInt64))) (FP.l2d ((gg.toInt64) + (ss.toInt64))))), .second, .val (.long ((gg.toInt64) + (ss.toInt64))), .second, .unset, .unset, .unset] [])) _
          refine own_dload X20.here hx rfl (hb hby at_154) rfl ?_
          show Steps p.tables e below (T20.setTop (mkF m 156 #[.val (.int p1), .val (.int p2), .val (.int p3), .val (.int p4), .val (.int gg), .val (.int ss), .val (.long ((mn.toInt64) + (1 : Int64))), .second, .val (.int cc), .val (.ref b6), .val (.ref b10), .val (.double (own_f1 gg ss cc)), .second, .val (.double (own_f1 ss gg cc)), .second, .val (.double (FP.ddiv (FP.l2d ((2 : Int64) * (cc.toInt64))) (FP.l2d ((gg.toInt64) + (ss.toInt64))))), .second, .val (.long ((gg.toInt64) + (ss.toInt64))), .second, .unset, .unset, .unset] [(.double (own_f1 gg ss cc))])) _
          refine own_dload X20.here hx rfl (hb hby at_156) rfl ?_
          show Steps p.tables e below (T20.setTop (mkF m 158 #[.val (.int p1), .val (.int p2), .val (.int p3), .val (.int p4), .val (.int gg), .val (.int ss), .val (.long ((mn.toInt64) + (1 : Int64))), .second, .val (.int cc), .val (.ref b6), .val (.ref b10), .val (.double (own_f1 gg ss cc)), .second, .val (.double (own_f1 ss gg cc)), .second, .val (.double (FP.ddiv (FP.l2d ((2 : Int64) * (cc.toInt64))) (FP.l2d ((gg.toInt64) + (ss.toInt64))))), .second, .val (.long ((gg.toInt64) + (ss.toInt64))), .second, .unset, .unset, .unset] [(.double (FP.ddiv (FP.l2d ((2 : Int64) * (cc.toInt64))) (FP.l2d ((gg.toInt64) + (ss.toInt64))))), (.double (own_f1 gg ss cc))])) _
          refine own_dcmp X20.here hx rfl (hb hby at_158) rfl ?_
          show Steps p.tables e below (T20.setTop (mkF m 159 #[.val (.int p1), .val (.int p2), .val (.int p3), .val (.int p4), .val (.int gg), .val (.int ss), .val (.long ((mn.toInt64) + (1 : Int64))), .second, .val (.int cc), .val (.ref b6), .val (.ref b10), .val (.double (own_f1 gg ss cc)), .second, .val (.double (own_f1 ss gg cc)), .second, .val (.double (FP.ddiv (FP.l2d ((2 : Int64) * (cc.toInt64))) (FP.l2d ((gg.toInt64) + (ss.toInt64))))), .second, .val (.long ((gg.toInt64) + (ss.toInt64))), .second, .unset, .unset, .unset] [(.int (cmpValue (FP.dcmp (own_f1 gg ss cc) (FP.ddiv (FP.l2d ((2 : Int64) * (cc.toInt64))) (FP.l2d ((gg.toInt64) + (ss.toInt64))))) .l))])) _
          refine XS.ifNo X20.here hx rfl (hb hby at_159) rfl ((if0 _ _).trans (teq ((by rw [Own.cv_eq k5] <;> decide) : (cmpValue (FP.dcmp (own_f1 gg ss cc) (FP.ddiv (FP.l2d ((2 : Int64) * (cc.toInt64))) (FP.l2d ((gg.toInt64) + (ss.toInt64))))) .l) = (0 : Int32))).2) ?_
          show Steps p.tables e below (T20.setTop (mkF m 162 #[.val (.int p1), .val (.int p2), .val (.int p3), .val (.int p4), .val (.int gg), .val (.int ss), .val (.long ((mn.toInt64) + (1 : Int64))), .second, .val (.int cc), .val (.ref b6), .val (.ref b10), .val (.double (own_f1 gg ss cc)), .second, .val (.double (own_f1 ss gg cc)), .second, .val (.double (FP.ddiv (FP.l2d ((2 : Int64) * (cc.toInt64))) (FP.l2d ((gg.toInt64) + (ss.toInt64))))), .second, .val (.long ((gg.toInt64) + (ss.toInt64))), .second, .unset, .unset, .unset] [])) _
          refine XS.iconst X20.here hx rfl (hb hby at_162) ?_
          show Steps p.tables e below (T20.setTop (mkF m 163 #[.val (.int p1), .val (.int p2), .val (.int p3), .val (.int p4), .val (.int gg), .val (.int ss), .val (.long ((mn.toInt64) + (1 : Int64))), .second, .val (.int cc), .val (.ref b6), .val (.ref b10), .val (.double (own_f1 gg ss cc)), .second, .val (.double (own_f1 ss gg cc)), .second, .val (.double (FP.ddiv (FP.l2d ((2 : Int64) * (cc.toInt64))) (FP.l2d ((gg.toInt64) + (ss.toInt64))))), .second, .val (.long ((gg.toInt64) + (ss.toInt64))), .second, .unset, .unset, .unset] [(.int (1 : Int32))])) _
          refine XS.goto X20.here hx rfl (pc0 := 163) (pc' := 167) rfl (hb hby at_163) (by decide) (by decide) ?_
          show Steps p.tables e below (T20.setTop (mkF m 167 #[.val (.int p1), .val (.int p2), .val (.int p3), .val (.int p4), .val (.int gg), .val (.int ss), .val (.long ((mn.toInt64) + (1 : Int64))), .second, .val (.int cc), .val (.ref b6), .val (.ref b10), .val (.double (own_f1 gg ss cc)), .second, .val (.double (own_f1 ss gg cc)), .second, .val (.double (FP.ddiv (FP.l2d ((2 : Int64) * (cc.toInt64))) (FP.l2d ((gg.toInt64) + (ss.toInt64))))), .second, .val (.long ((gg.toInt64) + (ss.toInt64))), .second, .unset, .unset, .unset] [(.int (1 : Int32))])) _
          refine XS.istore X20.here hx rfl (hb hby at_167) rfl (l' := #[.val (.int p1), .val (.int p2), .val (.int p3), .val (.int p4), .val (.int gg), .val (.int ss), .val (.long ((mn.toInt64) + (1 : Int64))), .second, .val (.int cc), .val (.ref b6), .val (.ref b10), .val (.double (own_f1 gg ss cc)), .second, .val (.double (own_f1 ss gg cc)), .second, .val (.double (FP.ddiv (FP.l2d ((2 : Int64) * (cc.toInt64))) (FP.l2d ((gg.toInt64) + (ss.toInt64))))), .second, .val (.int (1 : Int32)), .unset, .unset, .unset, .unset]) rfl ?_
          show Steps p.tables e below (T20.setTop (mkF m 169 #[.val (.int p1), .val (.int p2), .val (.int p3), .val (.int p4), .val (.int gg), .val (.int ss), .val (.long ((mn.toInt64) + (1 : Int64))), .second, .val (.int cc), .val (.ref b6), .val (.ref b10), .val (.double (own_f1 gg ss cc)), .second, .val (.double (own_f1 ss gg cc)), .second, .val (.double (FP.ddiv (FP.l2d ((2 : Int64) * (cc.toInt64))) (FP.l2d ((gg.toInt64) + (ss.toInt64))))), .second, .val (.int (1 : Int32)), .unset, .unset, .unset, .unset] [])) _
          refine own_dload X20.here hx rfl (hb hby at_169) rfl ?_
          show Steps p.tables e below (T20.setTop (mkF m 171 #[.val (.int p1), .val (.int p2), .val (.int p3), .val (.int p4), .val (.int gg), .val (.int ss), .val (.long ((mn.toInt64) + (1 : Int64))), .second, .val (.int cc), .val (.ref b6), .val (.ref b10), .val (.double (own_f1 gg ss cc)), .second, .val (.double (own_f1 ss gg cc)), .second, .val (.double (FP.ddiv (FP.l2d ((2 : Int64) * (cc.toInt64))) (FP.l2d ((gg.toInt64) + (ss.toInt64))))), .second, .val (.int (1 : Int32)), .unset, .unset, .unset, .unset] [(.double (own_f1 gg ss cc))])) _
          refine own_dload X20.here hx rfl (hb hby at_171) rfl ?_
          show Steps p.tables e below (T20.setTop (mkF m 173 #[.val (.int p1), .val (.int p2), .val (.int p3), .val (.int p4), .val (.int gg), .val (.int ss), .val (.long ((mn.toInt64) + (1 : Int64))), .second, .val (.int cc), .val (.ref b6), .val (.ref b10), .val (.double (own_f1 gg ss cc)), .second, .val (.double (own_f1 ss gg cc)), .second, .val (.double (FP.ddiv (FP.l2d ((2 : Int64) * (cc.toInt64))) (FP.l2d ((gg.toInt64) + (ss.toInt64))))), .second, .val (.int (1 : Int32)), .unset, .unset, .unset, .unset] [(.double (own_f1 ss gg cc)), (.double (own_f1 gg ss cc))])) _
          refine own_dcmp X20.here hx rfl (hb hby at_173) rfl ?_
          show Steps p.tables e below (T20.setTop (mkF m 174 #[.val (.int p1), .val (.int p2), .val (.int p3), .val (.int p4), .val (.int gg), .val (.int ss), .val (.long ((mn.toInt64) + (1 : Int64))), .second, .val (.int cc), .val (.ref b6), .val (.ref b10), .val (.double (own_f1 gg ss cc)), .second, .val (.double (own_f1 ss gg cc)), .second, .val (.double (FP.ddiv (FP.l2d ((2 : Int64) * (cc.toInt64))) (FP.l2d ((gg.toInt64) + (ss.toInt64))))), .second, .val (.int (1 : Int32)), .unset, .unset, .unset, .unset] [(.int (cmpValue (FP.dcmp (own_f1 gg ss cc) (own_f1 ss gg cc)) .l))])) _
          refine XS.ifNo X20.here hx rfl (hb hby at_174) rfl ((if0 _ _).trans (teq ((by rw [Own.cv_eq k2] <;> decide) : (cmpValue (FP.dcmp (own_f1 gg ss cc) (own_f1 ss gg cc)) .l) = (0 : Int32))).2) ?_
          show Steps p.tables e below (T20.setTop (mkF m 177 #[.val (.int p1), .val (.int p2), .val (.int p3), .val (.int p4), .val (.int gg), .val (.int ss), .val (.long ((mn.toInt64) + (1 : Int64))), .second, .val (.int cc), .val (.ref b6), .val (.ref b10), .val (.double (own_f1 gg ss cc)), .second, .val (.double (own_f1 ss gg cc)), .second, .val (.double (FP.ddiv (FP.l2d ((2 : Int64) * (cc.toInt64))) (FP.l2d ((gg.toInt64) + (ss.toInt64))))), .second, .val (.int (1 : Int32)), .unset, .unset, .unset, .unset] [])) _
          refine XS.iconst X20.here hx rfl (hb hby at_177) ?_
          show Steps p.tables e below (T20.setTop (mkF m 178 #[.val (.int p1), .val (.int p2), .val (.int p3), .val (.int p4), .val (.int gg), .val (.int ss), .val (.long ((mn.toInt64) + (1 : Int64))), .second, .val (.int cc), .val (.ref b6), .val (.ref b10), .val (.double (own_f1 gg ss cc)), .second, .val (.double (own_f1 ss gg cc)), .second, .val (.double (FP.ddiv (FP.l2d ((2 : Int64) * (cc.toInt64))) (FP.l2d ((gg.toInt64) + (ss.toInt64))))), .second, .val (.int (1 : Int32)), .unset, .unset, .unset, .unset] [(.int (1 : Int32))])) _
          refine XS.goto X20.here hx rfl (pc0 := 178) (pc' := 182) rfl (hb hby at_178) (by decide) (by decide) ?_
          show Steps p.tables e below (T20.setTop (mkF m 182 #[.val (.int p1), .val (.int p2), .val (.int p3), .val (.int p4), .val (.int gg), .val (.int ss), .val (.long ((mn.toInt64) + (1 : Int64))), .second, .val (.int cc), .val (.ref b6), .val (.ref b10), .val (.double (own_f1 gg ss cc)), .second, .val (.double (own_f1 ss gg cc)), .second, .val (.double (FP.ddiv (FP.l2d ((2 : Int64) * (cc.toInt64))) (FP.l2d ((gg.toInt64) + (ss.toInt64))))), .second, .val (.int (1 : Int32)), .unset, .unset, .unset, .unset] [(.int (1 : Int32))])) _
          refine XS.istore X20.here hx rfl (hb hby at_182) rfl (l' := #[.val (.int p1), .val (.int p2), .val (.int p3), .val (.int p4), .val (.int gg), .val (.int ss), .val (.long ((mn.toInt64) + (1 : Int64))), .second, .val (.int cc), .val (.ref b6), .val (.ref b10), .val (.double (own_f1 gg ss cc)), .second, .val (.double (own_f1 ss gg cc)), .second, .val (.double (FP.ddiv (FP.l2d ((2 : Int64) * (cc.toInt64))) (FP.l2d ((gg.toInt64) + (ss.toInt64))))), .second, .val (.int (1 : Int32)), .val (.int (1 : Int32)), .unset, .unset, .unset]) rfl ?_
          show Steps p.tables e below (T20.setTop (mkF m 184 #[.val (.int p1), .val (.int p2), .val (.int p3), .val (.int p4), .val (.int gg), .val (.int ss), .val (.long ((mn.toInt64) + (1 : Int64))), .second, .val (.int cc), .val (.ref b6), .val (.ref b10), .val (.double (own_f1 gg ss cc)), .second, .val (.double (own_f1 ss gg cc)), .second, .val (.double (FP.ddiv (FP.l2d ((2 : Int64) * (cc.toInt64))) (FP.l2d ((gg.toInt64) + (ss.toInt64))))), .second, .val (.int (1 : Int32)), .val (.int (1 : Int32)), .unset, .unset, .unset] [])) _
          refine own_dconst0 X20.here hx rfl (hb hby at_184) ?_
          show Steps p.tables e below (T20.setTop (mkF m 185 #[.val (.int p1), .val (.int p2), .val (.int p3), .val (.int p4), .val (.int gg), .val (.int ss), .val (.long ((mn.toInt64) + (1 : Int64))), .second, .val (.int cc), .val (.ref b6), .val (.ref b10), .val (.double (own_f1 gg ss cc)), .second, .val (.double (own_f1 ss gg cc)), .second, .val (.double (FP.ddiv (FP.l2d ((2 : Int64) * (cc.toInt64))) (FP.l2d ((gg.toInt64) + (ss.toInt64))))), .second, .val (.int (1 : Int32)), .val (.int (1 : Int32)), .unset, .unset, .unset] [(.double (0 : UInt64))])) _
          refine own_dload X20.here hx rfl (hb hby at_185) rfl ?_
          show Steps p.tables e below (T20.setTop (mkF m 187 #[.val (.int p1), .val (.int p2), .val (.int p3), .val (.int p4), .val (.int gg), .val (.int ss), .val (.long ((mn.toInt64) + (1 : Int64))), .second, .val (.int cc), .val (.ref b6), .val (.ref b10), .val (.double (own_f1 gg ss cc)), .second, .val (.double (own_f1 ss gg cc)), .second, .val (.double (FP.ddiv (FP.l2d ((2 : Int64) * (cc.toInt64))) (FP.l2d ((gg.toInt64) + (ss.toInt64))))), .second, .val (.int (1 : Int32)), .val (.int (1 : Int32)), .unset, .unset, .unset] [(.double (own_f1 gg ss cc)), (.double (0 : UInt64))])) _
          refine own_dcmp X20.here hx rfl (hb hby at_187) rfl ?_
          show Steps p.tables e below (T20.setTop (mkF m 188 #[.val (.int p1), .val (.int p2), .val (.int p3), .val (.int p4), .val (.int gg), .val (.int ss), .val (.long ((mn.toInt64) + (1 : Int64))), .second, .val (.int cc), .val (.ref b6), .val (.ref b10), .val (.double (own_f1 gg ss cc)), .second, .val (.double (own_f1 ss gg cc)), .second, .val (.double (FP.ddiv (FP.l2d ((2 : Int64) * (cc.toInt64))) (FP.l2d ((gg.toInt64) + (ss.toInt64))))), .second, .val (.int (1 : Int32)), .val (.int (1 : Int32)), .unset, .unset, .unset] [(.int (cmpValue (FP.dcmp (0 : UInt64) (own_f1 gg ss cc)) .g))])) _
          refine XS.ifNo X20.here hx rfl (hb hby at_188) rfl ((if0 _ _).trans (flt ((by rw [Own.cv_eq k3] <;> decide) : ¬ ((0 : Int32) < (cmpValue (FP.dcmp (0 : UInt64) (own_f1 gg ss cc)) .g)))).2.2.1) ?_
          show Steps p.tables e below (T20.setTop (mkF m 191 #[.val (.int p1), .val (.int p2), .val (.int p3), .val (.int p4), .val (.int gg), .val (.int ss), .val (.long ((mn.toInt64) + (1 : Int64))), .second, .val (.int cc), .val (.ref b6), .val (.ref b10), .val (.double (own_f1 gg ss cc)), .second, .val (.double (own_f1 ss gg cc)), .second, .val (.double (FP.ddiv (FP.l2d ((2 : Int64) * (cc.toInt64))) (FP.l2d ((gg.toInt64) + (ss.toInt64))))), .second, .val (.int (1 : Int32)), .val (.int (1 : Int32)), .unset, .unset, .unset] [])) _
          refine own_dload X20.here hx rfl (hb hby at_191) rfl ?_
          show Steps p.tables e below (T20.setTop (mkF m 193 #[.val (.int p1), .val (.int p2), .val (.int p3), .val (.int p4), .val (.int gg), .val (.int ss), .val (.long ((mn.toInt64) + (1 : Int64))), .second, .val (.int cc), .val (.ref b6), .val (.ref b10), .val (.double (own_f1 gg ss cc)), .second, .val (.double (own_f1 ss gg cc)), .second, .val (.double (FP.ddiv (FP.l2d ((2 : Int64) * (cc.toInt64))) (FP.l2d ((gg.toInt64) + (ss.toInt64))))), .second, .val (.int (1 : Int32)), .val (.int (1 : Int32)), .unset, .unset, .unset] [(.double (own_f1 gg ss cc))])) _
          refine own_dconst1 X20.here hx rfl (hb hby at_193) ?_
          show Steps p.tables e below (T20.setTop (mkF m 194 #[.val (.int p1), .val (.int p2), .val (.int p3), .val (.int p4), .val (.int gg), .val (.int ss), .val (.long ((mn.toInt64) + (1 : Int64))), .second, .val (.int cc), .val (.ref b6), .val (.ref b10), .val (.double (own_f1 gg ss cc)), .second, .val (.double (own_f1 ss gg cc)), .second, .val (.double (FP.ddiv (FP.l2d ((2 : Int64) * (cc.toInt64))) (FP.l2d ((gg.toInt64) + (ss.toInt64))))), .second, .val (.int (1 : Int32)), .val (.int (1 : Int32)), .unset, .unset, .unset] [(.double (4607182418800017408 : UInt64)), (.double (own_f1 gg ss cc))])) _
          refine own_dcmp X20.here hx rfl (hb hby at_194) rfl ?_
          show Steps p.tables e below (T20.setTop (mkF m 195 #[.val (.int p1), .val (.int p2), .val (.int p3), .val (.int p4), .val (.int gg), .val (.int ss), .val (.long ((mn.toInt64) + (1 : Int64))), .second, .val (.int cc), .val (.ref b6), .val (.ref b10), .val (.double (own_f1 gg ss cc)), .second, .val (.double (own_f1 ss gg cc)), .second, .val (.double (FP.ddiv (FP.l2d ((2 : Int64) * (cc.toInt64))) (FP.l2d ((gg.toInt64) + (ss.toInt64))))), .second, .val (.int (1 : Int32)), .val (.int (1 : Int32)), .unset, .unset, .unset] [(.int (cmpValue (FP.dcmp (own_f1 gg ss cc) (4607182418800017408 : UInt64)) .g))])) _
          refine XS.ifNo X20.here hx rfl (hb hby at_195) rfl ((if0 _ _).trans (flt ((by rw [Own.cv_lt k1] <;> decide) : ¬ ((0 : Int32) < (cmpValue (FP.dcmp (own_f1 gg ss cc) (4607182418800017408 : UInt64)) .g)))).2.2.1) ?_
          show Steps p.tables e below (T20.setTop (mkF m 198 #[.val (.int p1), .val (.int p2), .val (.int p3), .val (.int p4), .val (.int gg), .val (.int ss), .val (.long ((mn.toInt64) + (1 : Int64))), .second, .val (.int cc), .val (.ref b6), .val (.ref b10), .val (.double (own_f1 gg ss cc)), .second, .val (.double (own_f1 ss gg cc)), .second, .val (.double (FP.ddiv (FP.l2d ((2 : Int64) * (cc.toInt64))) (FP.l2d ((gg.toInt64) + (ss.toInt64))))), .second, .val (.int (1 : Int32)), .val (.int (1 : Int32)), .unset, .unset, .unset] [])) _
          refine XS.iconst X20.here hx rfl (hb hby at_198) ?_
          show Steps p.tables e below (T20.setTop (mkF m 199 #[.val (.int p1), .val (.int p2), .val (.int p3), .val (.int p4), .val (.int gg), .val (.int ss), .val (.long ((mn.toInt64) + (1 : Int64))), .second, .val (.int cc), .val (.ref b6), .val (.ref b10), .val (.double (own_f1 gg ss cc)), .second, .val (.double (own_f1 ss gg cc)), .second, .val (.double (FP.ddiv (FP.l2d ((2 : Int64) * (cc.toInt64))) (FP.l2d ((gg.toInt64) + (ss.toInt64))))), .second, .val (.int (1 : Int32)), .val (.int (1 : Int32)), .unset, .unset, .unset] [(.int (1 : Int32))])) _
          refine XS.goto X20.here hx rfl (pc0 := 199) (pc' := 203) rfl (hb hby at_199) (by decide) (by decide) ?_
          show Steps p.tables e below (T20.setTop (mkF m 203 #[.val (.int p1), .val (.int p2), .val (.int p3), .val (.int p4), .val (.int gg), .val (.int ss), .val (.long ((mn.toInt64) + (1 : Int64))), .second, .val (.int cc), .val (.ref b6), .val (.ref b10), .val (.double (own_f1 gg ss cc)), .second, .val (.double (own_f1 ss gg cc)), .second, .val (.double (FP.ddiv (FP.l2d ((2 : Int64) * (cc.toInt64))) (FP.l2d ((gg.toInt64) + (ss.toInt64))))), .second, .val (.int (1 : Int32)), .val (.int (1 : Int32)), .unset, .unset, .unset] [(.int (1 : Int32))])) _
          refine XS.istore X20.here hx rfl (hb hby at_203) rfl (l' := #[.val (.int p1), .val (.int p2), .val (.int p3), .val (.int p4), .val (.int gg), .val (.int ss), .val (.long ((mn.toInt64) + (1 : Int64))), .second, .val (.int cc), .val (.ref b6), .val (.ref b10), .val (.double (own_f1 gg ss cc)), .second, .val (.double (own_f1 ss gg cc)), .second, .val (.double (FP.ddiv (FP.l2d ((2 : Int64) * (cc.toInt64))) (FP.l2d ((gg.toInt64) + (ss.toInt64))))), .second, .val (.int (1 : Int32)), .val (.int (1 : Int32)), .val (.int (1 : Int32)), .unset, .unset]) rfl ?_
          show Steps p.tables e below (T20.setTop (mkF m 205 #[.val (.int p1), .val (.int p2), .val (.int p3), .val (.int p4), .val (.int gg), .val (.int ss), .val (.long ((mn.toInt64) + (1 : Int64))), .second, .val (.int cc), .val (.ref b6), .val (.ref b10), .val (.double (own_f1 gg ss cc)), .second, .val (.double (own_f1 ss gg cc)), .second, .val (.double (FP.ddiv (FP.l2d ((2 : Int64) * (cc.toInt64))) (FP.l2d ((gg.toInt64) + (ss.toInt64))))), .second, .val (.int (1 : Int32)), .val (.int (1 : Int32)), .val (.int (1 : Int32)), .unset, .unset] [])) _
          refine own_dload X20.here hx rfl (hb hby at_205) rfl ?_
          show Steps p.tables e below (T20.setTop (mkF m 207 #[.val (.int p1), .val (.int p2), .val (.int p3), .val (.int p4), .val (.int gg), .val (.int ss), .val (.long ((mn.toInt64) + (1 : Int64))), .second, .val (.int cc), .val (.ref b6), .val (.ref b10), .val (.double (own_f1 gg ss cc)), .second, .val (.double (own_f1 ss gg cc)), .second, .val (.double (FP.ddiv (FP.l2d ((2 : Int64) * (cc.toInt64))) (FP.l2d ((gg.toInt64) + (ss.toInt64))))), .second, .val (.int (1 : Int32)), .val (.int (1 : Int32)), .val (.int (1 : Int32)), .unset, .unset] [(.double (own_f1 gg ss cc))])) _
          refine own_dconst1 X20.here hx rfl (hb hby at_207) ?_
          show Steps p.tables e below (T20.setTop (mkF m 208 #[.val (.int p1), .val (.int p2), .val (.int p3), .val (.int p4), .val (.int gg), .val (.int ss), .val (.long ((mn.toInt64) + (1 : Int64))), .second, .val (.int cc), .val (.ref b6), .val (.ref b10), .val (.double (own_f1 gg ss cc)), .second, .val (.double (own_f1 ss gg cc)), .second, .val (.double (FP.ddiv (FP.l2d ((2 : Int64) * (cc.toInt64))) (FP.l2d ((gg.toInt64) + (ss.toInt64))))), .second, .val (.int (1 : Int32)), .val (.int (1 : Int32)), .val (.int (1 : Int32)), .unset, .unset] [(.double (4607182418800017408 : UInt64)), (.double (own_f1 gg ss cc))])) _
          refine own_dcmp X20.here hx rfl (hb hby at_208) rfl ?_
          show Steps p.tables e below (T20.setTop (mkF m 209 #[.val (.int p1), .val (.int p2), .val (.int p3), .val (.int p4), .val (.int gg), .val (.int ss), .val (.long ((mn.toInt64) + (1 : Int64))), .second, .val (.int cc), .val (.ref b6), .val (.ref b10), .val (.double (own_f1 gg ss cc)), .second, .val (.double (own_f1 ss gg cc)), .second, .val (.double (FP.ddiv (FP.l2d ((2 : Int64) * (cc.toInt64))) (FP.l2d ((gg.toInt64) + (ss.toInt64))))), .second, .val (.int (1 : Int32)), .val (.int (1 : Int32)), .val (.int (1 : Int32)), .unset, .unset] [(.int (cmpValue (FP.dcmp (own_f1 gg ss cc) (4607182418800017408 : UInt64)) .l))])) _
          refine XS.ifYes X20.here hx rfl (pc0 := 209) (pc' := 216) rfl (hb hby at_209) rfl ((if0 _ _).trans (feq ((by rw [Own.cv_lt k1] <;> decide) : ¬ ((cmpValue (FP.dcmp (own_f1 gg ss cc) (4607182418800017408 : UInt64)) .l) = (0 : Int32)))).2) (by decide) (by decide) ?_
          show Steps p.tables e below (T20.setTop (mkF m 216 #[.val (.int p1), .val (.int p2), .val (.int p3), .val (.int p4), .val (.int gg), .val (.int ss), .val (.long ((mn.toInt64) + (1 : Int64))), .second, .val (.int cc), .val (.ref b6), .val (.ref b10), .val (.double (own_f1 gg ss cc)), .second, .val (.double (own_f1 ss gg cc)), .second, .val (.double (FP.ddiv (FP.l2d ((2 : Int64) * (cc.toInt64))) (FP.l2d ((gg.toInt64) + (ss.toInt64))))), .second, .val (.int (1 : Int32)), .val (.int (1 : Int32)), .val (.int (1 : Int32)), .unset, .unset] [])) _
          refine XS.iconst X20.here hx rfl (hb hby at_216) ?_
          show Steps p.tables e below (T20.setTop (mkF m 217 #[.val (.int p1), .val (.int p2), .val (.int p3), .val (.int p4), .val (.int gg), .val (.int ss), .val (.long ((mn.toInt64) + (1 : Int64))), .second, .val (.int cc), .val (.ref b6), .val (.ref b10), .val (.double (own_f1 gg ss cc)), .second, .val (.double (own_f1 ss gg cc)), .second, .val (.double (FP.ddiv (FP.l2d ((2 : Int64) * (cc.toInt64))) (FP.l2d ((gg.toInt64) + (ss.toInt64))))), .second, .val (.int (1 : Int32)), .val (.int (1 : Int32)), .val (.int (1 : Int32)), .unset, .unset] [(.int (0 : Int32))])) _
          refine XS.iload X20.here hx rfl (hb hby at_217) rfl ?_
          show Steps p.tables e below (T20.setTop (mkF m 219 #[.val (.int p1), .val (.int p2), .val (.int p3), .val (.int p4), .val (.int gg), .val (.int ss), .val (.long ((mn.toInt64) + (1 : Int64))), .second, .val (.int cc), .val (.ref b6), .val (.ref b10), .val (.double (own_f1 gg ss cc)), .second, .val (.double (own_f1 ss gg cc)), .second, .val (.double (FP.ddiv (FP.l2d ((2 : Int64) * (cc.toInt64))) (FP.l2d ((gg.toInt64) + (ss.toInt64))))), .second, .val (.int (1 : Int32)), .val (.int (1 : Int32)), .val (.int (1 : Int32)), .unset, .unset] [(.int cc), (.int (0 : Int32))])) _
          refine XS.iload X20.here hx rfl (hb hby at_219) rfl ?_
          show Steps p.tables e below (T20.setTop (mkF m 221 #[.val (.int p1), .val (.int p2), .val (.int p3), .val (.int p4), .val (.int gg), .val (.int ss), .val (.long ((mn.toInt64) + (1 : Int64))), .second, .val (.int cc), .val (.ref b6), .val (.ref b10), .val (.double (own_f1 gg ss cc)), .second, .val (.double (own_f1 ss gg cc)), .second, .val (.double (FP.ddiv (FP.l2d ((2 : Int64) * (cc.toInt64))) (FP.l2d ((gg.toInt64) + (ss.toInt64))))), .second, .val (.int (1 : Int32)), .val (.int (1 : Int32)), .val (.int (1 : Int32)), .unset, .unset] [(.int gg), (.int cc), (.int (0 : Int32))])) _
          refine XS.icmpYes X20.here hx rfl (pc0 := 221) (pc' := 235) rfl (hb hby at_221) rfl (feq (hcg : ¬ (cc = gg))).2 (by decide) (by decide) ?_
          show Steps p.tables e below (T20.setTop (mkF m 235 #[.val (.int p1), .val (.int p2), .val (.int p3), .val (.int p4), .val (.int gg), .val (.int ss), .val (.long ((mn.toInt64) + (1 : Int64))), .second, .val (.int cc), .val (.ref b6), .val (.ref b10), .val (.double (own_f1 gg ss cc)), .second, .val (.double (own_f1 ss gg cc)), .second, .val (.double (FP.ddiv (FP.l2d ((2 : Int64) * (cc.toInt64))) (FP.l2d ((gg.toInt64) + (ss.toInt64))))), .second, .val (.int (1 : Int32)), .val (.int (1 : Int32)), .val (.int (1 : Int32)), .unset, .unset] [(.int (0 : Int32))])) _
          refine XS.iconst X20.here hx rfl (hb hby at_235) ?_
          show Steps p.tables e below (T20.setTop (mkF m 236 #[.val (.int p1), .val (.int p2), .val (.int p3), .val (.int p4), .val (.int gg), .val (.int ss), .val (.long ((mn.toInt64) + (1 : Int64))), .second, .val (.int cc), .val (.ref b6), .val (.ref b10), .val (.double (own_f1 gg ss cc)), .second, .val (.double (own_f1 ss gg cc)), .second, .val (.double (FP.ddiv (FP.l2d ((2 : Int64) * (cc.toInt64))) (FP.l2d ((gg.toInt64) + (ss.toInt64))))), .second, .val (.int (1 : Int32)), .val (.int (1 : Int32)), .val (.int (1 : Int32)), .unset, .unset] [(.int (0 : Int32)), (.int (0 : Int32))])) _
          refine XS.icmpNo X20.here hx rfl (hb hby at_236) rfl (teq (by decide : (0 : Int32) = (0 : Int32))).2 ?_
          show Steps p.tables e below (T20.setTop (mkF m 239 #[.val (.int p1), .val (.int p2), .val (.int p3), .val (.int p4), .val (.int gg), .val (.int ss), .val (.long ((mn.toInt64) + (1 : Int64))), .second, .val (.int cc), .val (.ref b6), .val (.ref b10), .val (.double (own_f1 gg ss cc)), .second, .val (.double (own_f1 ss gg cc)), .second, .val (.double (FP.ddiv (FP.l2d ((2 : Int64) * (cc.toInt64))) (FP.l2d ((gg.toInt64) + (ss.toInt64))))), .second, .val (.int (1 : Int32)), .val (.int (1 : Int32)), .val (.int (1 : Int32)), .unset, .unset] [])) _
          refine XS.iconst X20.here hx rfl (hb hby at_239) ?_
          show Steps p.tables e below (T20.setTop (mkF m 240 #[.val (.int p1), .val (.int p2), .val (.int p3), .val (.int p4), .val (.int gg), .val (.int ss), .val (.long ((mn.toInt64) + (1 : Int64))), .second, .val (.int cc), .val (.ref b6), .val (.ref b10), .val (.double (own_f1 gg ss cc)), .second, .val (.double (own_f1 ss gg cc)), .second, .val (.double (FP.ddiv (FP.l2d ((2 : Int64) * (cc.toInt64))) (FP.l2d ((gg.toInt64) + (ss.toInt64))))), .second, .val (.int (1 : Int32)), .val (.int (1 : Int32)), .val (.int (1 : Int32)), .unset, .unset] [(.int (1 : Int32))])) _
          refine XS.goto X20.here hx rfl (pc0 := 240) (pc' := 244) rfl (hb hby at_240) (by decide) (by decide) ?_
          show Steps p.tables e below (T20.setTop (mkF m 244 #[.val (.int p1), .val (.int p2), .val (.int p3), .val (.int p4), .val (.int gg), .val (.int ss), .val (.long ((mn.toInt64) + (1 : Int64))), .second, .val (.int cc), .val (.ref b6), .val (.ref b10), .val (.double (own_f1 gg ss cc)), .second, .val (.double (own_f1 ss gg cc)), .second, .val (.double (FP.ddiv (FP.l2d ((2 : Int64) * (cc.toInt64))) (FP.l2d ((gg.toInt64) + (ss.toInt64))))), .second, .val (.int (1 : Int32)), .val (.int (1 : Int32)), .val (.int (1 : Int32)), .unset, .unset] [(.int (1 : Int32))])) _
          refine XS.istore X20.here hx rfl (hb hby at_244) rfl (l' := #[.val (.int p1), .val (.int p2), .val (.int p3), .val (.int p4), .val (.int gg), .val (.int ss), .val (.long ((mn.toInt64) + (1 : Int64))), .second, .val (.int cc), .val (.ref b6), .val (.ref b10), .val (.double (own_f1 gg ss cc)), .second, .val (.double (own_f1 ss gg cc)), .second, .val (.double (FP.ddiv (FP.l2d ((2 : Int64) * (cc.toInt64))) (FP.l2d ((gg.toInt64) + (ss.toInt64))))), .second, .val (.int (1 : Int32)), .val (.int (1 : Int32)), .val (.int (1 : Int32)), .val (.int (1 : Int32)), .unset]) rfl ?_
          show Steps p.tables e below (T20.setTop (mkF m 246 #[.val (.int p1), .val (.int p2), .val (.int p3), .val (.int p4), .val (.int gg), .val (.int ss), .val (.long ((mn.toInt64) + (1 : Int64))), .second, .val (.int cc), .val (.ref b6), .val (.ref b10), .val (.double (own_f1 gg ss cc)), .second, .val (.double (own_f1 ss gg cc)), .second, .val (.double (FP.ddiv (FP.l2d ((2 : Int64) * (cc.toInt64))) (FP.l2d ((gg.toInt64) + (ss.toInt64))))), .second, .val (.int (1 : Int32)), .val (.int (1 : Int32)), .val (.int (1 : Int32)), .val (.int (1 : Int32)), .unset] [])) _
          refine own_dload X20.here hx rfl (hb hby at_246) rfl ?_
          show Steps p.tables e below (T20.setTop (mkF m 248 #[.val (.int p1), .val (.int p2), .val (.int p3), .val (.int p4), .val (.int gg), .val (.int ss), .val (.long ((mn.toInt64) + (1 : Int64))), .second, .val (.int cc), .val (.ref b6), .val (.ref b10), .val (.double (own_f1 gg ss cc)), .second, .val (.double (own_f1 ss gg cc)), .second, .val (.double (FP.ddiv (FP.l2d ((2 : Int64) * (cc.toInt64))) (FP.l2d ((gg.toInt64) + (ss.toInt64))))), .second, .val (.int (1 : Int32)), .val (.int (1 : Int32)), .val (.int (1 : Int32)), .val (.int (1 : Int32)), .unset] [(.double (own_f1 gg ss cc))])) _
          refine own_dconst0 X20.here hx rfl (hb hby at_248) ?_
          show Steps p.tables e below (T20.setTop (mkF m 249 #[.val (.int p1), .val (.int p2), .val (.int p3), .val (.int p4), .val (.int gg), .val (.int ss), .val (.long ((mn.toInt64) + (1 : Int64))), .second, .val (.int cc), .val (.ref b6), .val (.ref b10), .val (.double (own_f1 gg ss cc)), .second, .val (.double (own_f1 ss gg cc)), .second, .val (.double (FP.ddiv (FP.l2d ((2 : Int64) * (cc.toInt64))) (FP.l2d ((gg.toInt64) + (ss.toInt64))))), .second, .val (.int (1 : Int32)), .val (.int (1 : Int32)), .val (.int (1 : Int32)), .val (.int (1 : Int32)), .unset] [(.double (0 : UInt64)), (.double (own_f1 gg ss cc))])) _
          refine own_dcmp X20.here hx rfl (hb hby at_249) rfl ?_
          show Steps p.tables e below (T20.setTop (mkF m 250 #[.val (.int p1), .val (.int p2), .val (.int p3), .val (.int p4), .val (.int gg), .val (.int ss), .val (.long ((mn.toInt64) + (1 : Int64))), .second, .val (.int cc), .val (.ref b6), .val (.ref b10), .val (.double (own_f1 gg ss cc)), .second, .val (.double (own_f1 ss gg cc)), .second, .val (.double (FP.ddiv (FP.l2d ((2 : Int64) * (cc.toInt64))) (FP.l2d ((gg.toInt64) + (ss.toInt64))))), .second, .val (.int (1 : Int32)), .val (.int (1 : Int32)), .val (.int (1 : Int32)), .val (.int (1 : Int32)), .unset] [(.int (cmpValue (FP.dcmp (own_f1 gg ss cc) (0 : UInt64)) .l))])) _
          refine XS.ifNo X20.here hx rfl (hb hby at_250) rfl ((if0 _ _).trans (teq ((by rw [Own.cv_eq k4] <;> decide) : (cmpValue (FP.dcmp (own_f1 gg ss cc) (0 : UInt64)) .l) = (0 : Int32))).2) ?_
          show Steps p.tables e below (T20.setTop (mkF m 253 #[.val (.int p1), .val (.int p2), .val (.int p3), .val (.int p4), .val (.int gg), .val (.int ss), .val (.long ((mn.toInt64) + (1 : Int64))), .second, .val (.int cc), .val (.ref b6), .val (.ref b10), .val (.double (own_f1 gg ss cc)), .second, .val (.double (own_f1 ss gg cc)), .second, .val (.double (FP.ddiv (FP.l2d ((2 : Int64) * (cc.toInt64))) (FP.l2d ((gg.toInt64) + (ss.toInt64))))), .second, .val (.int (1 : Int32)), .val (.int (1 : Int32)), .val (.int (1 : Int32)), .val (.int (1 : Int32)), .unset] [])) _
          refine XS.iconst X20.here hx rfl (hb hby at_253) ?_
          show Steps p.tables e below (T20.setTop (mkF m 254 #[.val (.int p1), .val (.int p2), .val (.int p3), .val (.int p4), .val (.int gg), .val (.int ss), .val (.long ((mn.toInt64) + (1 : Int64))), .second, .val (.int cc), .val (.ref b6), .val (.ref b10), .val (.double (own_f1 gg ss cc)), .second, .val (.double (own_f1 ss gg cc)), .second, .val (.double (FP.ddiv (FP.l2d ((2 : Int64) * (cc.toInt64))) (FP.l2d ((gg.toInt64) + (ss.toInt64))))), .second, .val (.int (1 : Int32)), .val (.int (1 : Int32)), .val (.int (1 : Int32)), .val (.int (1 : Int32)), .unset] [(.int (1 : Int32))])) _
          refine XS.goto X20.here hx rfl (pc0 := 254) (pc' := 258) rfl (hb hby at_254) (by decide) (by decide) ?_
          show Steps p.tables e below (T20.setTop (mkF m 258 #[.val (.int p1), .val (.int p2), .val (.int p3), .val (.int p4), .val (.int gg), .val (.int ss), .val (.long ((mn.toInt64) + (1 : Int64))), .second, .val (.int cc), .val (.ref b6), .val (.ref b10), .val (.double (own_f1 gg ss cc)), .second, .val (.double (own_f1 ss gg cc)), .second, .val (.double (FP.ddiv (FP.l2d ((2 : Int64) * (cc.toInt64))) (FP.l2d ((gg.toInt64) + (ss.toInt64))))), .second, .val (.int (1 : Int32)), .val (.int (1 : Int32)), .val (.int (1 : Int32)), .val (.int (1 : Int32)), .unset] [(.int (1 : Int32))])) _
          refine XS.iload X20.here hx rfl (hb hby at_258) rfl ?_
          show Steps p.tables e below (T20.setTop (mkF m 260 #[.val (.int p1), .val (.int p2), .val (.int p3), .val (.int p4), .val (.int gg), .val (.int ss), .val (.long ((mn.toInt64) + (1 : Int64))), .second, .val (.int cc), .val (.ref b6), .val (.ref b10), .val (.double (own_f1 gg ss cc)), .second, .val (.double (own_f1 ss gg cc)), .second, .val (.double (FP.ddiv (FP.l2d ((2 : Int64) * (cc.toInt64))) (FP.l2d ((gg.toInt64) + (ss.toInt64))))), .second, .val (.int (1 : Int32)), .val (.int (1 : Int32)), .val (.int (1 : Int32)), .val (.int (1 : Int32)), .unset] [(.int cc), (.int (1 : Int32))])) _
          refine XS.ifNo X20.here hx rfl (hb hby at_260) rfl ((if0 _ _).trans (teq (hc0 : cc = (0 : Int32))).2) ?_
          show Steps p.tables e below (T20.setTop (mkF m 263 #[.val (.int p1), .val (.int p2), .val (.int p3), .val (.int p4), .val (.int gg), .val (.int ss), .val (.long ((mn.toInt64) + (1 : Int64))), .second, .val (.int cc), .val (.ref b6), .val (.ref b10), .val (.double (own_f1 gg ss cc)), .second, .val (.double (own_f1 ss gg cc)), .second, .val (.double (FP.ddiv (FP.l2d ((2 : Int64) * (cc.toInt64))) (FP.l2d ((gg.toInt64) + (ss.toInt64))))), .second, .val (.int (1 : Int32)), .val (.int (1 : Int32)), .val (.int (1 : Int32)), .val (.int (1 : Int32)), .unset] [(.int (1 : Int32))])) _
          refine XS.iload X20.here hx rfl (hb hby at_263) rfl ?_
          show Steps p.tables e below (T20.setTop (mkF m 265 #[.val (.int p1), .val (.int p2), .val (.int p3), .val (.int p4), .val (.int gg), .val (.int ss), .val (.long ((mn.toInt64) + (1 : Int64))), .second, .val (.int cc), .val (.ref b6), .val (.ref b10), .val (.double (own_f1 gg ss cc)), .second, .val (.double (own_f1 ss gg cc)), .second, .val (.double (FP.ddiv (FP.l2d ((2 : Int64) * (cc.toInt64))) (FP.l2d ((gg.toInt64) + (ss.toInt64))))), .second, .val (.int (1 : Int32)), .val (.int (1 : Int32)), .val (.int (1 : Int32)), .val (.int (1 : Int32)), .unset] [(.int gg), (.int (1 : Int32))])) _
          refine XS.ifYes X20.here hx rfl (pc0 := 265) (pc' := 273) rfl (hb hby at_265) rfl ((if0 _ _).trans (feq (hg : ¬ (gg = (0 : Int32)))).2) (by decide) (by decide) ?_
          show Steps p.tables e below (T20.setTop (mkF m 273 #[.val (.int p1), .val (.int p2), .val (.int p3), .val (.int p4), .val (.int gg), .val (.int ss), .val (.long ((mn.toInt64) + (1 : Int64))), .second, .val (.int cc), .val (.ref b6), .val (.ref b10), .val (.double (own_f1 gg ss cc)), .second, .val (.double (own_f1 ss gg cc)), .second, .val (.double (FP.ddiv (FP.l2d ((2 : Int64) * (cc.toInt64))) (FP.l2d ((gg.toInt64) + (ss.toInt64))))), .second, .val (.int (1 : Int32)), .val (.int (1 : Int32)), .val (.int (1 : Int32)), .val (.int (1 : Int32)), .unset] [(.int (1 : Int32))])) _
          refine XS.iconst X20.here hx rfl (hb hby at_273) ?_
          show Steps p.tables e below (T20.setTop (mkF m 274 #[.val (.int p1), .val (.int p2), .val (.int p3), .val (.int p4), .val (.int gg), .val (.int ss), .val (.long ((mn.toInt64) + (1 : Int64))), .second, .val (.int cc), .val (.ref b6), .val (.ref b10), .val (.double (own_f1 gg ss cc)), .second, .val (.double (own_f1 ss gg cc)), .second, .val (.double (FP.ddiv (FP.l2d ((2 : Int64) * (cc.toInt64))) (FP.l2d ((gg.toInt64) + (ss.toInt64))))), .second, .val (.int (1 : Int32)), .val (.int (1 : Int32)), .val (.int (1 : Int32)), .val (.int (1 : Int32)), .unset] [(.int (1 : Int32)), (.int (1 : Int32))])) _
          refine XS.goto X20.here hx rfl (pc0 := 274) (pc' := 278) rfl (hb hby at_274) (by decide) (by decide) ?_
          show Steps p.tables e below (T20.setTop (mkF m 278 #[.val (.int p1), .val (.int p2), .val (.int p3), .val (.int p4), .val (.int gg), .val (.int ss), .val (.long ((mn.toInt64) + (1 : Int64))), .second, .val (.int cc), .val (.ref b6), .val (.ref b10), .val (.double (own_f1 gg ss cc)), .second, .val (.double (own_f1 ss gg cc)), .second, .val (.double (FP.ddiv (FP.l2d ((2 : Int64) * (cc.toInt64))) (FP.l2d ((gg.toInt64) + (ss.toInt64))))), .second, .val (.int (1 : Int32)), .val (.int (1 : Int32)), .val (.int (1 : Int32)), .val (.int (1 : Int32)), .unset] [(.int (1 : Int32)), (.int (1 : Int32))])) _
          refine XS.icmpNo X20.here hx rfl (hb hby at_278) rfl (teq (by decide : (1 : Int32) = (1 : Int32))).2 ?_
          show Steps p.tables e below (T20.setTop (mkF m 281 #[.val (.int p1), .val (.int p2), .val (.int p3), .val (.int p4), .val (.int gg), .val (.int ss), .val (.long ((mn.toInt64) + (1 : Int64))), .second, .val (.int cc), .val (.ref b6), .val (.ref b10), .val (.double (own_f1 gg ss cc)), .second, .val (.double (own_f1 ss gg cc)), .second, .val (.double (FP.ddiv (FP.l2d ((2 : Int64) * (cc.toInt64))) (FP.l2d ((gg.toInt64) + (ss.toInt64))))), .second, .val (.int (1 : Int32)), .val (.int (1 : Int32)), .val (.int (1 : Int32)), .val (.int (1 : Int32)), .unset] [])) _
          refine XS.iconst X20.here hx rfl (hb hby at_281) ?_
          show Steps p.tables e below (T20.setTop (mkF m 282 #[.val (.int p1), .val (.int p2), .val (.int p3), .val (.int p4), .val (.int gg), .val (.int ss), .val (.long ((mn.toInt64) + (1 : Int64))), .second, .val (.int cc), .val (.ref b6), .val (.ref b10), .val (.double (own_f1 gg ss cc)), .second, .val (.double (own_f1 ss gg cc)), .second, .val (.double (FP.ddiv (FP.l2d ((2 : Int64) * (cc.toInt64))) (FP.l2d ((gg.toInt64) + (ss.toInt64))))), .second, .val (.int (1 : Int32)), .val (.int (1 : Int32)), .val (.int (1 : Int32)), .val (.int (1 : Int32)), .unset] [(.int (1 : Int32))])) _
          refine XS.goto X20.here hx rfl (pc0 := 282) (pc' := 286) rfl (hb hby at_282) (by decide) (by decide) ?_
          show Steps p.tables e below (T20.setTop (mkF m 286 #[.val (.int p1), .val (.int p2), .val (.int p3), .val (.int p4), .val (.int gg), .val (.int ss), .val (.long ((mn.toInt64) + (1 : Int64))), .second, .val (.int cc), .val (.ref b6), .val (.ref b10), .val (.double (own_f1 gg ss cc)), .second, .val (.double (own_f1 ss gg cc)), .second, .val (.double (FP.ddiv (FP.l2d ((2 : Int64) * (cc.toInt64))) (FP.l2d ((gg.toInt64) + (ss.toInt64))))), .second, .val (.int (1 : Int32)), .val (.int (1 : Int32)), .val (.int (1 : Int32)), .val (.int (1 : Int32)), .unset] [(.int (1 : Int32))])) _
          refine XS.istore X20.here hx rfl (hb hby at_286) rfl (l' := #[.val (.int p1), .val (.int p2), .val (.int p3), .val (.int p4), .val (.int gg), .val (.int ss), .val (.long ((mn.toInt64) + (1 : Int64))), .second, .val (.int cc), .val (.ref b6), .val (.ref b10), .val (.double (own_f1 gg ss cc)), .second, .val (.double (own_f1 ss gg cc)), .second, .val (.double (FP.ddiv (FP.l2d ((2 : Int64) * (cc.toInt64))) (FP.l2d ((gg.toInt64) + (ss.toInt64))))), .second, .val (.int (1 : Int32)), .val (.int (1 : Int32)), .val (.int (1 : Int32)), .val (.int (1 : Int32)), .val (.int (1 : Int32))]) rfl ?_
          show Steps p.tables e below (T20.setTop (mkF m 288 #[.val (.int p1), .val (.int p2), .val (.int p3), .val (.int p4), .val (.int gg), .val (.int ss), .val (.long ((mn.toInt64) + (1 : Int64))), .second, .val (.int cc), .val (.ref b6), .val (.ref b10), .val (.double (own_f1 gg ss cc)), .second, .val (.double (own_f1 ss gg cc)), .second, .val (.double (FP.ddiv (FP.l2d ((2 : Int64) * (cc.toInt64))) (FP.l2d ((gg.toInt64) + (ss.toInt64))))), .second, .val (.int (1 : Int32)), .val (.int (1 : Int32)), .val (.int (1 : Int32)), .val (.int (1 : Int32)), .val (.int (1 : Int32))] [])) _
          refine XS.iload X20.here hx rfl (hb hby at_288) rfl ?_
          show Steps p.tables e below (T20.setTop (mkF m 290 #[.val (.int p1), .val (.int p2), .val (.int p3), .val (.int p4), .val (.int gg), .val (.int ss), .val (.long ((mn.toInt64) + (1 : Int64))), .second, .val (.int cc), .val (.ref b6), .val (.ref b10), .val (.double (own_f1 gg ss cc)), .second, .val (.double (own_f1 ss gg cc)), .second, .val (.double (FP.ddiv (FP.l2d ((2 : Int64) * (cc.toInt64))) (FP.l2d ((gg.toInt64) + (ss.toInt64))))), .second, .val (.int (1 : Int32)), .val (.int (1 : Int32)), .val (.int (1 : Int32)), .val (.int (1 : Int32)), .val (.int (1 : Int32))] [(.int (1 : Int32))])) _
          refine XS.ifNo X20.here hx rfl (hb hby at_290) rfl ((if0 _ _).trans (feq (by decide : ¬ ((1 : Int32) = (0 : Int32)))).1) ?_
          show Steps p.tables e below (T20.setTop (mkF m 293 #[.val (.int p1), .val (.int p2), .val (.int p3), .val (.int p4), .val (.int gg), .val (.int ss), .val (.long ((mn.toInt64) + (1 : Int64))), .second, .val (.int cc), .val (.ref b6), .val (.ref b10), .val (.double (own_f1 gg ss cc)), .second, .val (.double (own_f1 ss gg cc)), .second, .val (.double (FP.ddiv (FP.l2d ((2 : Int64) * (cc.toInt64))) (FP.l2d ((gg.toInt64) + (ss.toInt64))))), .second, .val (.int (1 : Int32)), .val (.int (1 : Int32)), .val (.int (1 : Int32)), .val (.int (1 : Int32)), .val (.int (1 : Int32))] [])) _
          refine XS.iload X20.here hx rfl (hb hby at_293) rfl ?_
          show Steps p.tables e below (T20.setTop (mkF m 295 #[.val (.int p1), .val (.int p2), .val (.int p3), .val (.int p4), .val (.int gg), .val (.int ss), .val (.long ((mn.toInt64) + (1 : Int64))), .second, .val (.int cc), .val (.ref b6), .val (.ref b10), .val (.double (own_f1 gg ss cc)), .second, .val (.double (own_f1 ss gg cc)), .second, .val (.double (FP.ddiv (FP.l2d ((2 : Int64) * (cc.toInt64))) (FP.l2d ((gg.toInt64) + (ss.toInt64))))), .second, .val (.int (1 : Int32)), .val (.int (1 : Int32)), .val (.int (1 : Int32)), .val (.int (1 : Int32)), .val (.int (1 : Int32))] [(.int (1 : Int32))])) _
          refine XS.ifNo X20.here hx rfl (hb hby at_295) rfl ((if0 _ _).trans (feq (by decide : ¬ ((1 : Int32) = (0 : Int32)))).1) ?_
          show Steps p.tables e below (T20.setTop (mkF m 298 #[.val (.int p1), .val (.int p2), .val (.int p3), .val (.int p4), .val (.int gg), .val (.int ss), .val (.long ((mn.toInt64) + (1 : Int64))), .second, .val (.int cc), .val (.ref b6), .val (.ref b10), .val (.double (own_f1 gg ss cc)), .second, .val (.double (own_f1 ss gg cc)), .second, .val (.double (FP.ddiv (FP.l2d ((2 : Int64) * (cc.toInt64))) (FP.l2d ((gg.toInt64) + (ss.toInt64))))), .second, .val (.int (1 : Int32)), .val (.int (1 : Int32)), .val (.int (1 : Int32)), .val (.int (1 : Int32)), .val (.int (1 : Int32))] [])) _
          refine XS.iload X20.here hx rfl (hb hby at_298) rfl ?_
          show Steps p.tables e below (T20.setTop (mkF m 300 #[.val (.int p1), .val (.int p2), .val (.int p3), .val (.int p4), .val (.int gg), .val (.int ss), .val (.long ((mn.toInt64) + (1 : Int64))), .second, .val (.int cc), .val (.ref b6), .val (.ref b10), .val (.double (own_f1 gg ss cc)), .second, .val (.double (own_f1 ss gg cc)), .second, .val (.double (FP.ddiv (FP.l2d ((2 : Int64) * (cc.toInt64))) (FP.l2d ((gg.toInt64) + (ss.toInt64))))), .second, .val (.int (1 : Int32)), .val (.int (1 : Int32)), .val (.int (1 : Int32)), .val (.int (1 : Int32)), .val (.int (1 : Int32))] [(.int (1 : Int32))])) _
          refine XS.ifNo X20.here hx rfl (hb hby at_300) rfl ((if0 _ _).trans (feq (by decide : ¬ ((1 : Int32) = (0 : Int32)))).1) ?_
          show Steps p.tables e below (T20.setTop (mkF m 303 #[.val (.int p1), .val (.int p2), .val (.int p3), .val (.int p4), .val (.int gg), .val (.int ss), .val (.long ((mn.toInt64) + (1 : Int64))), .second, .val (.int cc), .val (.ref b6), .val (.ref b10), .val (.double (own_f1 gg ss cc)), .second, .val (.double (own_f1 ss gg cc)), .second, .val (.double (FP.ddiv (FP.l2d ((2 : Int64) * (cc.toInt64))) (FP.l2d ((gg.toInt64) + (ss.toInt64))))), .second, .val (.int (1 : Int32)), .val (.int (1 : Int32)), .val (.int (1 : Int32)), .val (.int (1 : Int32)), .val (.int (1 : Int32))] [])) _
          refine XS.iload X20.here hx rfl (hb hby at_303) rfl ?_
          show Steps p.tables e below (T20.setTop (mkF m 305 #[.val (.int p1), .val (.int p2), .val (.int p3), .val (.int p4), .val (.int gg), .val (.int ss), .val (.long ((mn.toInt64) + (1 : Int64))), .second, .val (.int cc), .val (.ref b6), .val (.ref b10), .val (.double (own_f1 gg ss cc)), .second, .val (.double (own_f1 ss gg cc)), .second, .val (.double (FP.ddiv (FP.l2d ((2 : Int64) * (cc.toInt64))) (FP.l2d ((gg.toInt64) + (ss.toInt64))))), .second, .val (.int (1 : Int32)), .val (.int (1 : Int32)), .val (.int (1 : Int32)), .val (.int (1 : Int32)), .val (.int (1 : Int32))] [(.int (1 : Int32))])) _
          refine XS.ifNo X20.here hx rfl (hb hby at_305) rfl ((if0 _ _).trans (feq (by decide : ¬ ((1 : Int32) = (0 : Int32)))).1) ?_
          show Steps p.tables e below (T20.setTop (mkF m 308 #[.val (.int p1), .val (.int p2), .val (.int p3), .val (.int p4), .val (.int gg), .val (.int ss), .val (.long ((mn.toInt64) + (1 : Int64))), .second, .val (.int cc), .val (.ref b6), .val (.ref b10), .val (.double (own_f1 gg ss cc)), .second, .val (.double (own_f1 ss gg cc)), .second, .val (.double (FP.ddiv (FP.l2d ((2 : Int64) * (cc.toInt64))) (FP.l2d ((gg.toInt64) + (ss.toInt64))))), .second, .val (.int (1 : Int32)), .val (.int (1 : Int32)), .val (.int (1 : Int32)), .val (.int (1 : Int32)), .val (.int (1 : Int32))] [])) _
          refine XS.iload X20.here hx rfl (hb hby at_308) rfl ?_
          show Steps p.tables e below (T20.setTop (mkF m 310 #[.val (.int p1), .val (.int p2), .val (.int p3), .val (.int p4), .val (.int gg), .val (.int ss), .val (.long ((mn.toInt64) + (1 : Int64))), .second, .val (.int cc), .val (.ref b6), .val (.ref b10), .val (.double (own_f1 gg ss cc)), .second, .val (.double (own_f1 ss gg cc)), .second, .val (.double (FP.ddiv (FP.l2d ((2 : Int64) * (cc.toInt64))) (FP.l2d ((gg.toInt64) + (ss.toInt64))))), .second, .val (.int (1 : Int32)), .val (.int (1 : Int32)), .val (.int (1 : Int32)), .val (.int (1 : Int32)), .val (.int (1 : Int32))] [(.int (1 : Int32))])) _
          refine XS.ifNo X20.here hx rfl (hb hby at_310) rfl ((if0 _ _).trans (feq (by decide : ¬ ((1 : Int32) = (0 : Int32)))).1) ?_
          show Steps p.tables e below (T20.setTop (mkF m 313 #[.val (.int p1), .val (.int p2), .val (.int p3), .val (.int p4), .val (.int gg), .val (.int ss), .val (.long ((mn.toInt64) + (1 : Int64))), .second, .val (.int cc), .val (.ref b6), .val (.ref b10), .val (.double (own_f1 gg ss cc)), .second, .val (.double (own_f1 ss gg cc)), .second, .val (.double (FP.ddiv (FP.l2d ((2 : Int64) * (cc.toInt64))) (FP.l2d ((gg.toInt64) + (ss.toInt64))))), .second, .val (.int (1 : Int32)), .val (.int (1 : Int32)), .val (.int (1 : Int32)), .val (.int (1 : Int32)), .val (.int (1 : Int32))] [])) _
          refine XS.iconst X20.here hx rfl (hb hby at_313) ?_
          show Steps p.tables e below (T20.setTop (mkF m 314 #[.val (.int p1), .val (.int p2), .val (.int p3), .val (.int p4), .val (.int gg), .val (.int ss), .val (.long ((mn.toInt64) + (1 : Int64))), .second, .val (.int cc), .val (.ref b6), .val (.ref b10), .val (.double (own_f1 gg ss cc)), .second, .val (.double (own_f1 ss gg cc)), .second, .val (.double (FP.ddiv (FP.l2d ((2 : Int64) * (cc.toInt64))) (FP.l2d ((gg.toInt64) + (ss.toInt64))))), .second, .val (.int (1 : Int32)), .val (.int (1 : Int32)), .val (.int (1 : Int32)), .val (.int (1 : Int32)), .val (.int (1 : Int32))] [(.int (1 : Int32))])) _
          refine XS.goto X20.here hx rfl (pc0 := 314) (pc' := 318) rfl (hb hby at_314) (by decide) (by decide) ?_
          exact kt
        refine Go.adv sg25 ?_
        refine Go.ret (v := (some (.int (1 : Int32)))) X20 (fun h => by rw [Bd.returns] at h; cases h) Bd.notSynchronized (fun fs hr => retN X20 hx (t := .boolean) Bd.returns (by simp) (hb hby at_318) hr) ?_ (by decide) (by decide)
        show Q_rm0 Z p1 p2 p3 p4 h0 n0 (some (.int (1 : Int32))) T20.heap _
        rw [e20]
        exact ⟨rfl, N20⟩
      · rw [if_neg hc0] at k3 k4
        by_cases hcg : cc = gg
        · by_cases hcs : cc = ss
          · rw [if_pos ⟨hcg, hcs⟩] at k1
            have sg26 : ∀ t, Steps p.tables e below (T20.setTop (mkF m 318 #[.val (.int p1), .val (.int p2), .val (.int p3), .val (.int p4), .val (.int gg), .val (.int ss), .val (.long ((mn.toInt64) + (1 : Int64))), .second, .val (.int cc), .val (.ref b6), .val (.ref b10), .val (.double (own_f1 gg ss cc)), .second, .val (.double (own_f1 ss gg cc)), .second, .val (.double (FP.ddiv (FP.l2d ((2 : Int64) * (cc.toInt64))) (FP.l2d ((gg.toInt64) + (ss.toInt64))))), .second, .val (.int (1 : Int32)), .val (.int (1 : Int32)), .val (.int (1 : Int32)), .val (.int (1 : Int32)), .val (.int (1 : Int32))] [(.int (1 : Int32))])) t → Steps p.tables e below (T20.setTop (mkF m 99 #[.val (.int p1), .val (.int p2), .val (.int p3), .val (.int p4), .val (.int gg), .val (.int ss), .val (.long ((mn.toInt64) + (1 : Int64))), .second, .val (.int cc), .val (.ref b6), .val (.ref b10), .val (.double (own_f1 gg ss cc)), .second, .val (.double (own_f1 ss gg cc)), .second, .unset, .unset, .unset, .unset, .unset, .unset, .unset] [])) t := by
              intro t kt
              show Steps p.tables e below (T20.setTop (mkF m 99 #[.val (.int p1), .val (.int p2), .val (.int p3), .val (.int p4), .val (.int gg), .val (.int ss), .val (.long ((mn.toInt64) + (1 : Int64))), .second, .val (.int cc), .val (.ref b6), .val (.ref b10), .val (.double (own_f1 gg ss cc)), .second, .val (.double (own_f1 ss gg cc)), .second, .unset, .unset, .unset, .unset, .unset, .unset, .unset] [])) _
              refine XS.iload X20.here hx rfl (hb hby at_99) rfl ?_
              show Steps p.tables e below (T20.setTop (mkF m 101 #[.val (.int p1), .val (.int p2), .val (.int p3), .val (.int p4), .val (.int gg), .val (.int ss), .val (.long ((mn.toInt64) + (1 : Int64))), .second, .val (.int cc), .val (.ref b6), .val (.ref b10), .val (.double (own_f1 gg ss cc)), .second, .val (.double (own_f1 ss gg cc)), .second, .unset, .unset, .unset, .unset, .unset, .unset, .unset] [(.int gg)])) _
              refine XS.ifYes X20.here hx rfl (pc0 := 101) (pc' := 115) rfl (hb hby at_101) rfl ((if0 _ _).trans (feq (hg : ¬ (gg = (0 : Int32)))).2) (by decide) (by decide) ?_
              show Steps p.tables e below (T20.setTop (mkF m 115 #[.val (.int p1), .val (.int p2), .val (.int p3), .val (.int p4), .val (.int gg), .val (.int ss), .val (.long ((mn.toInt64) + (1 : Int64))), .second, .val (.int cc), .val (.ref b6), .val (.ref b10), .val (.double (own_f1 gg ss cc)), .second, .val (.double (own_f1 ss gg cc)), .second, .unset, .unset, .unset, .unset, .unset, .unset, .unset] [])) _
              refine XS.iload X20.here hx rfl (hb hby at_115) rfl ?_
              show Steps p.tables e below (T20.setTop (mkF m 117 #[.val (.int p1), .val (.int p2), .val (.int p3), .val (.int p4), .val (.int gg), .val (.int ss), .val (.long ((mn.toInt64) + (1 : Int64))), .second, .val (.int cc), .val (.ref b6), .val (.ref b10), .val (.double (own_f1 gg ss cc)), .second, .val (.double (own_f1 ss gg cc)), .second, .unset, .unset, .unset, .unset, .unset, .unset, .unset] [(.int gg)])) _
              refine XS.ifNo X20.here hx rfl (hb hby at_117) rfl ((if0 _ _).trans (feq (hg : ¬ (gg = (0 : Int32)))).1) ?_
              show Steps p.tables e below (T20.setTop (mkF m 120 #[.val (.int p1), .val (.int p2), .val (.int p3), .val (.int p4), .val (.int gg), .val (.int ss), .val (.long ((mn.toInt64) + (1 : Int64))), .second, .val (.int cc), .val (.ref b6), .val (.ref b10), .val (.double (own_f1 gg ss cc)), .second, .val (.double (own_f1 ss gg cc)), .second, .unset, .unset, .unset, .unset, .unset, .unset, .unset] [])) _
              refine XS.iload X20.here hx rfl (hb hby at_120) rfl ?_
              show Steps p.tables e below (T20.setTop (mkF m 122 #[.val (.int p1), .val (.int p2), .val (.int p3), .val (.int p4), .val (.int gg), .val (.int ss), .val (.long ((mn.toInt64) + (1 : Int64))), .second, .val (.int cc), .val (.ref b6), .val (.ref b10), .val (.double (own_f1 gg ss cc)), .second, .val (.double (own_f1 ss gg cc)), .second, .unset, .unset, .unset, .unset, .unset, .unset, .unset] [(.int ss)])) _
              refine XS.ifYes X20.here hx rfl (pc0 := 122) (pc' := 131) rfl (hb hby at_122) rfl ((if0 _ _).trans (feq (hs : ¬ (ss = (0 : Int32)))).2) (by decide) (by decide) ?_
              show Steps p.tables e below (T20.setTop (mkF m 131 #[.val (.int p1), .val (.int p2), .val (.int p3), .val (.int p4), .val (.int gg), .val (.int ss), .val (.long ((mn.toInt64) + (1 : Int64))), .second, .val (.int cc), .val (.ref b6), .val (.ref b10), .val (.double (own_f1 gg ss cc)), .second, .val (.double (own_f1 ss gg cc)), .second, .unset, .unset, .unset, .unset, .unset, .unset, .unset] [])) _
              refine XS.iload X20.here hx rfl (hb hby at_131) rfl ?_
              show Steps p.tables e below (T20.setTop (mkF m 133 #[.val (.int p1), .val (.int p2), .val (.int p3), .val (.int p4), .val (.int gg), .val (.int ss), .val (.long ((mn.toInt64) + (1 : Int64))), .second, .val (.int cc), .val (.ref b6), .val (.ref b10), .val (.double (own_f1 gg ss cc)), .second, .val (.double (own_f1 ss gg cc)), .second, .unset, .unset, .unset, .unset, .unset, .unset, .unset] [(.int gg)])) _
              refine XS.i2l X20.here hx rfl (hb hby at_133) rfl ?_
              show Steps p.tables e below (T20.setTop (mkF m 134 #[.val (.int p1), .val (.int p2), .val (.int p3), .val (.int p4), .val (.int gg), .val (.int ss), .val (.long ((mn.toInt64) + (1 : Int64))), .second, .val (.int cc), .val (.ref b6), .val (.ref b10), .val (.double (own_f1 gg ss cc)), .second, .val (.double (own_f1 ss gg cc)), .second, .unset, .unset, .unset, .unset, .unset, .unset, .unset] [(.long (gg.toInt64))])) _
              refine XS.iload X20.here hx rfl (hb hby at_134) rfl ?_
              show Steps p.tables e below (T20.setTop (mkF m 136 #[.val (.int p1), .val (.int p2), .val (.int p3), .val (.int p4), .val (.int gg), .val (.int ss), .val (.long ((mn.toInt64) + (1 : Int64))), .second, .val (.int cc), .val (.ref b6), .val (.ref b10), .val (.double (own_f1 gg ss cc)), .second, .val (.double (own_f1 ss gg cc)), .second, .unset, .unset, .unset, .unset, .unset, .unset, .unset] [(.int ss), (.long (gg.toInt64))])) _
              refine XS.i2l X20.here hx rfl (hb hby at_136) rfl ?_
              show Steps p.tables e below (T20.setTop (mkF m 137 #[.val (.int p1), .val (.int p2), .val (.int p3), .val (.int p4), .val (.int gg), .val (.int ss), .val (.long ((mn.toInt64) + (1 : Int64))), .second, .val (.int cc), .val (.ref b6), .val (.ref b10), .val (.double (own_f1 gg ss cc)), .second, .val (.double (own_f1 ss gg cc)), .second, .unset, .unset, .unset, .unset, .unset, .unset, .unset] [(.long (ss.toInt64)), (.long (gg.toInt64))])) _
              refine XS.ladd X20.here hx rfl (hb hby at_137) rfl ?_
              show Steps p.tables e below (T20.setTop (mkF m 138 #[.val (.int p1), .val (.int p2), .val (.int p3), .val (.int p4), .val (.int gg), .val (.int ss), .val (.long ((mn.toInt64) + (1 : Int64))), .second, .val (.int cc), .val (.ref b6), .val (.ref b10), .val (.double (own_f1 gg ss cc)), .second, .val (.double (own_f1 ss gg cc)), .second, .unset, .unset, .unset, .unset, .unset, .unset, .unset] [(.long ((gg.toInt64) + (ss.toInt64)))])) _
              refine XS.lstore X20.here hx rfl (hb hby at_138) rfl (l' := #[.val (.int p1), .val (.int p2), .val (.int p3), .val (.int p4), .val (.int gg), .val (.int ss), .val (.long ((mn.toInt64) + (1 : Int64))), .second, .val (.int cc), .val (.ref b6), .val (.ref b10), .val (.double (own_f1 gg ss cc)), .second, .val (.double (own_f1 ss gg cc)), .second, .unset, .unset, .val (.long ((gg.toInt64) + (ss.toInt64))), .second, .unset, .unset, .unset]) rfl ?_
              show Steps p.tables e below (T20.setTop (mkF m 140 #[.val (.int p1), .val (.int p2), .val (.int p3), .val (.int p4), .val (.int gg), .val (.int ss), .val (.long ((mn.toInt64) + (1 : Int64))), .second, .val (.int cc), .val (.ref b6), .val (.ref b10), .val (.double (own_f1 gg ss cc)), .second, .val (.double (own_f1 ss gg cc)), .second, .unset, .unset, .val (.long ((gg.toInt64) + (ss.toInt64))), .second, .unset, .unset, .unset] [])) _
              refine X20.ldc2Long hx hown (mvT hZ (hw _ (List.mem_of_getElem? (i := 32) rfl))) (g := (mkF m 140 #[.val (.int p1), .val (.int p2), .val (.int p3), .val (.int p4), .val (.int gg), .val (.int ss), .val (.long ((mn.toInt64) + (1 : Int64))), .second, .val (.int cc), .val (.ref b6), .val (.ref b10), .val (.double (own_f1 gg ss cc)), .second, .val (.double (own_f1 ss gg cc)), .second, .unset, .unset, .val (.long ((gg.toInt64) + (ss.toInt64))), .second, .unset, .unset, .unset] [])) rfl (hb hby at_140) _ ?_
              show Steps p.tables e below (T20.setTop (mkF m 143 #[.val (.int p1), .val (.int p2), .val (.int p3), .val (.int p4), .val (.int gg), .val (.int ss), .val (.long ((mn.toInt64) + (1 : Int64))), .second, .val (.int cc), .val (.ref b6), .val (.ref b10), .val (.double (own_f1 gg ss cc)), .second, .val (.double (own_f1 ss gg cc)), .second, .unset, .unset, .val (.long ((gg.toInt64) + (ss.toInt64))), .second, .unset, .unset, .unset] [(.long (2 : Int64))])) _
              refine XS.iload X20.here hx rfl (hb hby at_143) rfl ?_
              show Steps p.tables e below (T20.setTop (mkF m 145 #[.val (.int p1), .val (.int p2), .val (.int p3), .val (.int p4), .val (.int gg), .val (.int ss), .val (.long ((mn.toInt64) + (1 : Int64))), .second, .val (.int cc), .val (.ref b6), .val (.ref b10), .val (.double (own_f1 gg ss cc)), .second, .val (.double (own_f1 ss gg cc)), .second, .unset, .unset, .val (.long ((gg.toInt64) + (ss.toInt64))), .second, .unset, .unset, .unset] [(.int cc), (.long (2 : Int64))])) _
              refine XS.i2l X20.here hx rfl (hb hby at_145) rfl ?_
              show Steps p.tables e below (T20.setTop (mkF m 146 #[.val (.int p1), .val (.int p2), .val (.int p3), .val (.int p4), .val (.int gg), .val (.int ss), .val (.long ((mn.toInt64) + (1 : Int64))), .second, .val (.int cc), .val (.ref b6), .val (.ref b10), .val (.double (own_f1 gg ss cc)), .second, .val (.double (own_f1 ss gg cc)), .second, .unset, .unset, .val (.long ((gg.toInt64) + (ss.toInt64))), .second, .unset, .unset, .unset] [(.long (cc.toInt64)), (.long (2 : Int64))])) _
              refine XS.lmul X20.here hx rfl (hb hby at_146) rfl ?_
              show Steps p.tables e below (T20.setTop (mkF m 147 #[.val (.int p1), .val (.int p2), .val (.int p3), .val (.int p4), .val (.int gg), .val (.int ss), .val (.long ((mn.toInt64) + (1 : Int64))), .second, .val (.int cc), .val (.ref b6), .val (.ref b10), .val (.double (own_f1 gg ss cc)), .second, .val (.double (own_f1 ss gg cc)), .second, .unset, .unset, .val (.long ((gg.toInt64) + (ss.toInt64))), .second, .unset, .unset, .unset] [(.long ((2 : Int64) * (cc.toInt64)))])) _
              refine own_l2d X20.here hx rfl (hb hby at_147) rfl ?_
              show Steps p.tables e below (T20.setTop (mkF m 148 #[.val (.int p1), .val (.int p2), .val (.int p3), .val (.int p4), .val (.int gg), .val (.int ss), .val (.long ((mn.toInt64) + (1 : Int64))), .second, .val (.int cc), .val (.ref b6), .val (.ref b10), .val (.double (own_f1 gg ss cc)), .second, .val (.double (own_f1 ss gg cc)), .second, .unset, .unset, .val (.long ((gg.toInt64) + (ss.toInt64))), .second, .unset, .unset, .unset] [(.double (FP.l2d ((2 : Int64) * (cc.toInt64))))])) _
              refine XS.lload X20.here hx rfl (hb hby at_148) rfl ?_
              show Steps p.tables e below (T20.setTop (mkF m 150 #[.val (.int p1), .val (.int p2), .val (.int p3), .val (.int p4), .val (.int gg), .val (.int ss), .val (.long ((mn.toInt64) + (1 : Int64))), .second, .val (.int cc), .val (.ref b6), .val (.ref b10), .val (.double (own_f1 gg ss cc)), .second, .val (.double (own_f1 ss gg cc)), .second, .unset, .unset, .val (.long ((gg.toInt64) + (ss.toInt64))), .second, .unset, .unset, .unset] [(.long ((gg.toInt64) + (ss.toInt64))), (.double (FP.l2d ((2 : Int64) * (cc.toInt64))))])) _
              refine own_l2d X20.here hx rfl (hb hby at_150) rfl ?_
              show Steps p.tables e below (T20.setTop (mkF m 151 #[.val (.int p1), .val (.int p2), .val (.int p3), .val (.int p4), .val (.int gg), .val (.int ss), .val (.long ((mn.toInt64) + (1 : Int64))), .second, .val (.int cc), .val (.ref b6), .val (.ref b10), .val (.double (own_f1 gg ss cc)), .second, .val (.double (own_f1 ss gg cc)), .second, .unset, .unset, .val (.long ((gg.toInt64) + (ss.toInt64))), .second, .unset, .unset, .unset] [(.double (FP.l2d ((gg.toInt64) + (ss.toInt64)))), (.double (FP.l2d ((2 : Int64) * (cc.toInt64))))])) _
              refine own_ddiv X20.here hx rfl (hb hby at_151) rfl k6 ?_
              show Steps p.tables e below (T20.setTop (mkF m 152 #[.val (.int p1), .val (.int p2), .val (.int p3), .val (.int p4), .val (.int gg), .val (.int ss), .val (.long ((mn.toInt64) + (1 : Int64))), .second, .val (.int cc), .val (.ref b6), .val (.ref b10), .val (.double (own_f1 gg ss cc)), .second, .val (.double (own_f1 ss gg cc)), .second, .unset, .unset, .val (.long ((gg.toInt64) + (ss.toInt64))), .second, .unset, .unset, .unset] [(.double (FP.ddiv (FP.l2d ((2 : Int64) * (cc.toInt64))) (FP.l2d ((gg.toInt64) + (ss.toInt64)))))])) _
              refine own_dstore X20.here hx rfl (hb hby at_152) rfl (l' := #[.val (.int p1), .val (.int p2), .val (.int p3), .val (.int p4), .val (.int gg), .val (.int ss), .val (.long ((mn.toInt64) + (1 : Int64))), .second, .val (.int cc), .val (.ref b6), .val (.ref b10), .val (.double (own_f1 gg ss cc)), .second, .val (.double (own_f1 ss gg cc)), .second, .val (.double (FP.ddiv (FP.l2d ((2 : Int64) * (cc.toInt64))) (FP.l2d ((gg.toInt64) + (ss.toInt64))))), .second, .val (.long ((gg.toInt64) + (ss.toInt64))), .second, .unset, .unset, .unset]) rfl ?_
              show Steps p.tables e below (T20.setTop (mkF m 154 #[.val (.int p1), .val (.int p2), .val (.int p3), .val (.int p4), .val (.int gg), .val (.int ss), .val (.long ((mn.toInt64) + (1 : Int64))), .second, .val (.int cc), .val (.ref b6), .val (.ref b10), .val (.double (own_f1 gg ss cc)), .second, .val (.double (own_f1 ss gg cc)), .second, .val (.double (FP.ddiv (FP.l2d ((2 : Int64) * (cc.toInt64))) (FP.l2d ((gg.toInt64) + (ss.toInt64))))), .second, .val (.long ((gg.toInt64) + (ss.toInt64))), .second, .unset, .unset, .unset] [])) _
              refine own_dload X20.here hx rfl (hb hby at_154) rfl ?_
              show Steps p.tables e below (T20.setTop (mkF m 156 #[.val (.int p1), .val (.int p2), .val (.int p3), .val (.int p4), .val (.int gg), .val (.int ss), .val (.long ((mn.toInt64) + (1 : Int64))), .second, .val (.int cc), .val (.ref b6), .val (.ref b10), .val (.double (own_f1 gg ss cc)), .second, .val (.double (own_f1 ss gg cc)), .second, .val (.double (FP.ddiv (FP.l2d ((2 : Int64) * (cc.toInt64))) (FP.l2d ((gg.toInt64) + (ss.toInt64))))), .second, .val (.long ((gg.toInt64) + (ss.toInt64))), .second, .unset, .unset, .unset] [(.double (own_f1 gg ss cc))])) _
              refine own_dload X20.here hx rfl (hb hby at_156) rfl ?_
              show Steps p.tables e below (T20.setTop (mkF m 158 #[.val (.int p1), .val (.int p2), .val (.int p3), .val (.int p4), .val (.int gg), .val (.int ss), .val (.long ((mn.toInt64) + (1 : Int64))), .second, .val (.int cc), .val (.ref b6), .val (.ref b10), .val (.double (own_f1 gg ss cc)), .second, .val (.double (own_f1 ss gg cc)), .second, .val (.double (FP.ddiv (FP.l2d ((2 : Int64) * (cc.toInt64))) (FP.l2d ((gg.toInt64) + (ss.toInt64))))), .second, .val (.long ((gg.toInt64) + (ss.toInt64))), .second, .unset, .unset, .unset] [(.double (FP.ddiv (FP.l2d ((2 : Int64) * (cc.toInt64))) (FP.l2d ((gg.toInt64) + (ss.toInt64))))), (.double (own_f1 gg ss cc))])) _
              refine own_dcmp X20.here hx rfl (hb hby at_158) rfl ?_
              show Steps p.tables e below (T20.setTop (mkF m 159 #[.val (.int p1), .val (.int p2), .val (.int p3), .val (.int p4), .val (.int gg), .val (.int ss), .val (.long ((mn.toInt64) + (1 : Int64))), .second, .val (.int cc), .val (.ref b6), .val (.ref b10), .val (.double (own_f1 gg ss cc)), .second, .val (.double (own_f1 ss gg cc)), .second, .val (.double (FP.ddiv (FP.l2d ((2 : Int64) * (cc.toInt64))) (FP.l2d ((gg.toInt64) + (ss.toInt64))))), .second, .val (.long ((gg.toInt64) + (ss.toInt64))), .second, .unset, .unset, .unset] [(.int (cmpValue (FP.dcmp (own_f1 gg ss cc) (FP.ddiv (FP.l2d ((2 : Int64) * (cc.toInt64))) (FP.l2d ((gg.toInt64) + (ss.toInt64))))) .l))])) _
              refine XS.ifNo X20.here hx rfl (hb hby at_159) rfl ((if0 _ _).trans (teq ((by rw [Own.cv_eq k5] <;> decide) : (cmpValue (FP.dcmp (own_f1 gg ss cc) (FP.ddiv (FP.l2d ((2 : Int64) * (cc.toInt64))) (FP.l2d ((gg.toInt64) + (ss.toInt64))))) .l) = (0 : Int32))).2) ?_
              show Steps p.tables e below (T20.setTop (mkF m 162 #[.val (.int p1), .val (.int p2), .val (.int p3), .val (.int p4), .val (.int gg), .val (.int ss), .val (.long ((mn.toInt64) + (1 : Int64))), .second, .val (.int cc), .val (.ref b6), .val (.ref b10), .val (.double (own_f1 gg ss cc)), .second, .val (.double (own_f1 ss gg cc)), .second, .val (.double (FP.ddiv (FP.l2d ((2 : Int64) * (cc.toInt64))) (FP.l2d ((gg.toInt64) + (ss.toInt64))))), .second, .val (.long ((gg.toInt64) + (ss.toInt64))), .second, .unset, .unset, .unset] [])) _
              refine XS.iconst X20.here hx rfl (hb hby at_162) ?_
              show Steps p.tables e below (T20.setTop (mkF m 163 #[.val (.int p1), .val (.int p2), .val (.int p3), .val (.int p4), .val (.int gg), .val (.int ss), .val (.long ((mn.toInt64) + (1 : Int64))), .second, .val (.int cc), .val (.ref b6), .val (.ref b10), .val (.double (own_f1 gg ss cc)), .second, .val (.double (own_f1 ss gg cc)), .second, .val (.double (FP.ddiv (FP.l2d ((2 : Int64) * (cc.toInt64))) (FP.l2d ((gg.toInt64) + (ss.toInt64))))), .second, .val (.long ((gg.toInt64) + (ss.toInt64))), .second, .unset, .unset, .unset] [(.int (1 : Int32))])) _
              refine XS.goto X20.here hx rfl (pc0 := 163) (pc' := 167) rfl (hb hby at_163) (by decide) (by decide) ?_
              show Steps p.tables e below (T20.setTop (mkF m 167 #[.val (.int p1), .val (.int p2), .val (.int p3), .val (.int p4), .val (.int gg), .val (.int ss), .val (.long ((mn.toInt64) + (1 : Int64))), .second, .val (.int cc), .val (.ref b6), .val (.ref b10), .val (.double (own_f1 gg ss cc)), .second, .val (.double (own_f1 ss gg cc)), .second, .val (.double (FP.ddiv (FP.l2d ((2 : Int64) * (cc.toInt64))) (FP.l2d ((gg.toInt64) + (ss.toInt64))))), .second, .val (.long ((gg.toInt64) + (ss.toInt64))), .second, .unset, .unset, .unset] [(.int (1 : Int32))])) _
              refine XS.istore X20.here hx rfl (hb hby at_167) rfl (l' := #[.val (.int p1), .val (.int p2), .val (.int p3), .val (.int p4), .val (.int gg), .val (.int ss), .val (.long ((mn.toInt64) + (1 : Int64))), .second, .val (.int cc), .val (.ref b6), .val (.ref b10), .val (.double (own_f1 gg ss cc)), .second, .val (.double (own_f1 ss gg cc)), .second, .val (.double (FP.ddiv (FP.l2d ((2 : Int64) * (cc.toInt64))) (FP.l2d ((gg.toInt64) + (ss.toInt64))))), .second, .val (.int (1 : Int32)), .unset, .unset, .unset, .unset]) rfl ?_
              show Steps p.tables e below (T20.setTop (mkF m 169 #[.val (.int p1), .val (.int p2), .val (.int p3), .val (.int p4), .val (.int gg), .val (.int ss), .val (.long ((mn.toInt64) + (1 : Int64))), .second, .val (.int cc), .val (.ref b6), .val (.ref b10), .val (.double (own_f1 gg ss cc)), .second, .val (.double (own_f1 ss gg cc)), .second, .val (.double (FP.ddiv (FP.l2d ((2 : Int64) * (cc.toInt64))) (FP.l2d ((gg.toInt64) + (ss.toInt64))))), .second, .val (.int (1 : Int32)), .unset, .unset, .unset, .unset] [])) _
              refine own_dload X20.here hx rfl (hb hby at_169) rfl ?_
              show Steps p.tables e below (T20.setTop (mkF m 171 #[.val (.int p1), .val (.int p2), .val (.int p3), .val (.int p4), .val (.int gg), .val (.int ss), .val (.long ((mn.toInt64) + (1 : Int64))), .second, .val (.int cc), .val (.ref b6), .val (.ref b10), .val (.double (own_f1 gg ss cc)), .second, .val (.double (own_f1 ss gg cc)), .second, .val (.double (FP.ddiv (FP.l2d ((2 : Int64) * (cc.toInt64))) (FP.l2d ((gg.toInt64) + (ss.toInt64))))), .second, .val (.int (1 : Int32)), .unset, .unset, .unset, .unset] [(.double (own_f1 gg ss cc))])) _
              refine own_dload X20.here hx rfl (hb hby at_171) rfl ?_
              show Steps p.tables e below (T20.setTop (mkF m 173 #[.val (.int p1), .val (.int p2), .val (.int p3), .val (.int p4), .val (.int gg), .val (.int ss), .val (.long ((mn.toInt64) + (1 : Int64))), .second, .val (.int cc), .val (.ref b6), .val (.ref b10), .val (.double (own_f1 gg ss cc)), .second, .val (.double (own_f1 ss gg cc)), .second, .val (.double (FP.ddiv (FP.l2d ((2 : Int64) * (cc.toInt64))) (FP.l2d ((gg.toInt64) + (ss.toInt64))))), .second, .val (.int (1 : Int32)), .unset, .unset, .unset, .unset] [(.double (own_f1 ss gg cc)), (.double (own_f1 gg ss cc))])) _
              refine own_dcmp X20.here hx rfl (hb hby at_173) rfl ?_
              show Steps p.tables e below (T20.setTop (mkF m 174 #[.val (.int p1), .val (.int p2), .val (.int p3), .val (.int p4), .val (.int gg), .val (.int ss), .val (.long ((mn.toInt64) + (1 : Int64))), .second, .val (.int cc), .val (.ref b6), .val (.ref b10), .val (.double (own_f1 gg ss cc)), .second, .val (.double (own_f1 ss gg cc)), .second, .val (.double (FP.ddiv (FP.l2d ((2 : Int64) * (cc.toInt64))) (FP.l2d ((gg.toInt64) + (ss.toInt64))))), .second, .val (.int (1 : Int32)), .unset, .unset, .unset, .unset] [(.int (cmpValue (FP.dcmp (own_f1 gg ss cc) (own_f1 ss gg cc)) .l))])) _
              refine XS.ifNo X20.here hx rfl (hb hby at_174) rfl ((if0 _ _).trans (teq ((by rw [Own.cv_eq k2] <;> decide) : (cmpValue (FP.dcmp (own_f1 gg ss cc) (own_f1 ss gg cc)) .l) = (0 : Int32))).2) ?_
              show Steps p.tables e below (T20.setTop (mkF m 177 #[.val (.int p1), .val (.int p2), .val (.int p3), .val (.int p4), .val (.int gg), .val (.int ss), .val (.long ((mn.toInt64) + (1 : Int64))), .second, .val (.int cc), .val (.ref b6), .val (.ref b10), .val (.double (own_f1 gg ss cc)), .second, .val (.double (own_f1 ss gg cc)), .second, .val (.double (FP.ddiv (FP.l2d ((2 : Int64) * (cc.toInt64))) (FP.l2d ((gg.toInt64) + (ss.toInt64))))), .second, .val (.int (1 : Int32)), .unset, .unset, .unset, .unset] [])) _
              refine XS.iconst X20.here hx rfl (hb hby at_177) ?_
              show Steps p.tables e below (T20.setTop (mkF m 178 #[.val (.int p1), .val (.int p2), .val (.int p3), .val (.int p4), .val (.int gg), .val (.int ss), .val (.long ((mn.toInt64) + (1 : Int64))), .second, .val (.int cc), .val (.ref b6), .val (.ref b10), .val (.double (own_f1 gg ss cc)), .second, .val (.double (own_f1 ss gg cc)), .second, .val (.double (FP.ddiv (FP.l2d ((2 : Int64) * (cc.toInt64))) (FP.l2d ((gg.toInt64) + (ss.toInt64))))), .second, .val (.int (1 : Int32)), .unset, .unset, .unset, .unset] [(.int (1 : Int32))])) _
              refine XS.goto X20.here hx rfl (pc0 := 178) (pc' := 182) rfl (hb hby at_178) (by decide) (by decide) ?_
              show Steps p.tables e below (T20.setTop (mkF m 182 #[.val (.int p1), .val (.int p2), .val (.int p3), .val (.int p4), .val (.int gg), .val (.int ss), .val (.long ((mn.toInt64) + (1 : Int64))), .second, .val (.int cc), .val (.ref b6), .val (.ref b10), .val (.double (own_f1 gg ss cc)), .second, .val (.double (own_f1 ss gg cc)), .second, .val (.double (FP.ddiv (FP.l2d ((2 : Int64) * (cc.toInt64))) (FP.l2d ((gg.toInt64) + (ss.toInt64))))), .second, .val (.int (1 : Int32)), .unset, .unset, .unset, .unset] [(.int (1 : Int32))])) _
              refine XS.istore X20.here hx rfl (hb hby at_182) rfl (l' := #[.val (.int p1), .val (.int p2), .val (.int p3), .val (.int p4), .val (.int gg), .val (.int ss), .val (.long ((mn.toInt64) + (1 : Int64))), .second, .val (.int cc), .val (.ref b6), .val (.ref b10), .val (.double (own_f1 gg ss cc)), .second, .val (.double (own_f1 ss gg cc)), .second, .val (.double (FP.ddiv (FP.l2d ((2 : Int64) * (cc.toInt64))) (FP.l2d ((gg.toInt64) + (ss.toInt64))))), .second, .val (.int (1 : Int32)), .val (.int (1 : Int32)), .unset, .unset, .unset]) rfl ?_
              show Steps p.tables e below (T20.setTop (mkF m 184 #[.val (.int p1), .val (.int p2), .val (.int p3), .val (.int p4), .val (.int gg), .val (.int ss), .val (.long ((mn.toInt64) + (1 : Int64))), .second, .val (.int cc), .val (.ref b6), .val (.ref b10), .val (.double (own_f1 gg ss cc)), .second, .val (.double (own_f1 ss gg cc)), .second, .val (.double (FP.ddiv (FP.l2d ((2 : Int64) * (cc.toInt64))) (FP.l2d ((gg.toInt64) + (ss.toInt64))))), .second, .val (.int (1 : Int32)), .val (.int (1 : Int32)), .unset, .unset, .unset] [])) _
              refine own_dconst0 X20.here hx rfl (hb hby at_184) ?_
              show Steps p.tables e below (T20.setTop (mkF m 185 #[.val (.int p1), .val (.int p2), .val (.int p3), .val (.int p4), .val (.int gg), .val (.int ss), .val (.long ((mn.toInt64) + (1 : Int64))), .second, .val (.int cc), .val (.ref b6), .val (.ref b10), .val (.double (own_f1 gg ss cc)), .second, .val (.double (own_f1 ss gg cc)), .second, .val (.double (FP.ddiv (FP.l2d ((2 : Int64) * (cc.toInt64))) (FP.l2d ((gg.toInt64) + (ss.toInt64))))), .second, .val (.int (1 : Int32)), .val (.int (1 : Int32)), .unset, .unset, .unset] [(.double (0 : UInt64))])) _
              refine own_dload X20.here hx rfl (hb hby at_185) rfl ?_
              show Steps p.tables e below (T20.setTop (mkF m 187 #[.val (.int p1), .val (.int p2), .val (.int p3), .val (.int p4), .val (.int gg), .val (.int ss), .val (.long ((mn.toInt64) + (1 : Int64))), .second, .val (.int cc), .val (.ref b6), .val (.ref b10), .val (.double (own_f1 gg ss cc)), .second, .val (.double (own_f1 ss gg cc)), .second, .val (.double (FP.ddiv (FP.l2d ((2 : Int64) * (cc.toInt64))) (FP.l2d ((gg.toInt64) + (ss.toInt64))))), .second, .val (.int (1 : Int32)), .val (.int (1 : Int32)), .unset, .unset, .unset] [(.double (own_f1 gg ss cc)), (.double (0 : UInt64))])) _
              refine own_dcmp X20.here hx rfl (hb hby at_187) rfl ?_
              show Steps p.tables e below (T20.setTop (mkF m 188 #[.val (.int p1), .val (.int p2), .val (.int p3), .val (.int p4), .val (.int gg), .val (.int ss), .val (.long ((mn.toInt64) + (1 : Int64))), .second, .val (.int cc), .val (.ref b6), .val (.ref b10), .val (.double (own_f1 gg ss cc)), .second, .val (.double (own_f1 ss gg cc)), .second, .val (.double (FP.ddiv (FP.l2d ((2 : Int64) * (cc.toInt64))) (FP.l2d ((gg.toInt64) + (ss.toInt64))))), .second, .val (.int (1 : Int32)), .val (.int (1 : Int32)), .unset, .unset, .unset] [(.int (cmpValue (FP.dcmp (0 : UInt64) (own_f1 gg ss cc)) .g))])) _
              refine XS.ifNo X20.here hx rfl (hb hby at_188) rfl ((if0 _ _).trans (flt ((by rw [Own.cv_lt k3] <;> decide) : ¬ ((0 : Int32) < (cmpValue (FP.dcmp (0 : UInt64) (own_f1 gg ss cc)) .g)))).2.2.1) ?_
              show Steps p.tables e below (T20.setTop (mkF m 191 #[.val (.int p1), .val (.int p2), .val (.int p3), .val (.int p4), .val (.int gg), .val (.int ss), .val (.long ((mn.toInt64) + (1 : Int64))), .second, .val (.int cc), .val (.ref b6), .val (.ref b10), .val (.double (own_f1 gg ss cc)), .second, .val (.double (own_f1 ss gg cc)), .second, .val (.double (FP.ddiv (FP.l2d ((2 : Int64) * (cc.toInt64))) (FP.l2d ((gg.toInt64) + (ss.toInt64))))), .second, .val (.int (1 : Int32)), .val (.int (1 : Int32)), .unset, .unset, .unset] [])) _
              refine own_dload X20.here hx rfl (hb hby at_191) rfl ?_
              show Steps p.tables e below (T20.setTop (mkF m 193 #[.val (.int p1), .val (.int p2), .val (.int p3), .val (.int p4), .val (.int gg), .val (.int ss), .val (.long ((mn.toInt64) + (1 : Int64))), .second, .val (.int cc), .val (.ref b6), .val (.ref b10), .val (.double (own_f1 gg ss cc)), .second, .val (.double (own_f1 ss gg cc)), .second, .val (.double (FP.ddiv (FP.l2d ((2 : Int64) * (cc.toInt64))) (FP.l2d ((gg.toInt64) + (ss.toInt64))))), .second, .val (.int (1 : Int32)), .val (.int (1 : Int32)), .unset, .unset, .unset] [(.double (own_f1 gg ss cc))])) _
              refine own_dconst1 X20.here hx rfl (hb hby at_193) ?_
              show Steps p.tables e below (T20.setTop (mkF m 194 #[.val (.int p1), .val (.int p2), .val (.int p3), .val (.int p4), .val (.int gg), .val (.int ss), .val (.long ((mn.toInt64) + (1 : Int64))), .second, .val (.int cc), .val (.ref b6), .val (.ref b10), .val (.double (own_f1 gg ss cc)), .second, .val (.double (own_f1 ss gg cc)), .second, .val (.double (FP.ddiv (FP.l2d ((2 : Int64) * (cc.toInt64))) (FP.l2d ((gg.toInt64) + (ss.toInt64))))), .second, .val (.int (1 : Int32)), .val (.int (1 : Int32)), .unset, .unset, .unset] [(.double (4607182418800017408 : UInt64)), (.double (own_f1 gg ss cc))])) _
              refine own_dcmp X20.here hx rfl (hb hby at_194) rfl ?_
              show Steps p.tables e below (T20.setTop (mkF m 195 #[.val (.int p1), .val (.int p2), .val (.int p3), .val (.int p4), .val (.int gg), .val (.int ss), .val (.long ((mn.toInt64) + (1 : Int64))), .second, .val (.int cc), .val (.ref b6), .val (.ref b10), .val (.double (own_f1 gg ss cc)), .second, .val (.double (own_f1 ss gg cc)), .second, .val (.double (FP.ddiv (FP.l2d ((2 : Int64) * (cc.toInt64))) (FP.l2d ((gg.toInt64) + (ss.toInt64))))), .second, .val (.int (1 : Int32)), .val (.int (1 : Int32)), .unset, .unset, .unset] [(.int (cmpValue (FP.dcmp (own_f1 gg ss cc) (4607182418800017408 : UInt64)) .g))])) _
              refine XS.ifNo X20.here hx rfl (hb hby at_195) rfl ((if0 _ _).trans (flt ((by rw [Own.cv_eq k1] <;> decide) : ¬ ((0 : Int32) < (cmpValue (FP.dcmp (own_f1 gg ss cc) (4607182418800017408 : UInt64)) .g)))).2.2.1) ?_
              show Steps p.tables e below (T20.setTop (mkF m 198 #[.val (.int p1), .val (.int p2), .val (.int p3), .val (.int p4), .val (.int gg), .val (.int ss), .val (.long ((mn.toInt64) + (1 : Int64))), .second, .val (.int cc), .val (.ref b6), .val (.ref b10), .val (.double (own_f1 gg ss cc)), .second, .val (.double (own_f1 ss gg cc)), .second, .val (.double (FP.ddiv (FP.l2d ((2 : Int64) * (cc.toInt64))) (FP.l2d ((gg.toInt64) + (ss.toInt64))))), .second, .val (.int (1 : Int32)), .val (.int (1 : Int32)), .unset, .unset, .unset] [])) _
              refine XS.iconst X20.here hx rfl (hb hby at_198) ?_
              show Steps p.tables e below (T20.setTop (mkF m 199 #[.val (.int p1), .val (.int p2), .val (.int p3), .val (.int p4), .val (.int gg), .val (.int ss), .val (.long ((mn.toInt64) + (1 : Int64))), .second, .val (.int cc), .val (.ref b6), .val (.ref b10), .val (.double (own_f1 gg ss cc)), .second, .val (.double (own_f1 ss gg cc)), .second, .val (.double (FP.ddiv (FP.l2d ((2 : Int64) * (cc.toInt64))) (FP.l2d ((gg.toInt64) + (ss.toInt64))))), .second, .val (.int (1 : Int32)), .val (.int (1 : Int32)), .unset, .unset, .unset] [(.int (1 : Int32))])) _
              refine XS.goto X20.here hx rfl (pc0 := 199) (pc' := 203) rfl (hb hby at_199) (by decide) (by decide) ?_
              show Steps p.tables e below (T20.setTop (mkF m 203 #[.val (.int p1), .val (.int p2), .val (.int p3), .val (.int p4), .val (.int gg), .val (.int ss), .val (.long ((mn.toInt64) + (1 : Int64))), .second, .val (.int cc), .val (.ref b6), .val (.ref b10), .val (.double (own_f1 gg ss cc)), .second, .val (.double (own_f1 ss gg cc)), .second, .val (.double (FP.ddiv (FP.l2d ((2 : Int64) * (cc.toInt64))) (FP.l2d ((gg.toInt64) + (ss.toInt64))))), .second, .val (.int (1 : Int32)), .val (.int (1 : Int32)), .unset, .unset, .unset] [(.int (1 : Int32))])) _
              refine XS.istore X20.here hx rfl (hb hby at_203) rfl (l' := #[.val (.int p1), .val (.int p2), .val (.int p3), .val (.int p4), .val (.int gg), .val (.int ss), .val (.long ((mn.toInt64) + (1 : Int64))), .second, .val (.int cc), .val (.ref b6), .val (.ref b10), .val (.double (own_f1 gg ss cc)), .second, .val (.double (own_f1 ss gg cc)), .second, .val (.double (FP.ddiv (FP.l2d ((2 : Int64) * (cc.toInt64))) (FP.l2d ((gg.toInt64) + (ss.toInt64))))), .second, .val (.int (1 : Int32)), .val (.int (1 : Int32)), .val (.int (1 : Int32)), .unset, .unset]) rfl ?_
              show Steps p.tables e below (T20.setTop (mkF m 205 #[.val (.int p1), .val (.int p2), .val (.int p3), .val (.int p4), .val (.int gg), .val (.int ss), .val (.long ((mn.toInt64) + (1 : Int64))), .second, .val (.int cc), .val (.ref b6), .val (.ref b10), .val (.double (own_f1 gg ss cc)), .second, .val (.double (own_f1 ss gg cc)), .second, .val (.double (FP.ddiv (FP.l2d ((2 : Int64) * (cc.toInt64))) (FP.l2d ((gg.toInt64) + (ss.toInt64))))), .second, .val (.int (1 : Int32)), .val (.int (1 : Int32)), .val (.int (1 : Int32)), .unset, .unset] [])) _
              refine own_dload X20.here hx rfl (hb hby at_205) rfl ?_
              show Steps p.tables e below (T20.setTop (mkF m 207 #[.val (.int p1), .val (.int p2), .val (.int p3), .val (.int p4), .val (.int gg), .val (.int ss), .val (.long ((mn.toInt64) + (1 : Int64))), .second, .val (.int cc), .val (.ref b6), .val (.ref b10), .val (.double (own_f1 gg ss cc)), .second, .val (.double (own_f1 ss gg cc)), .second, .val (.double (FP.ddiv (FP.l2d ((2 : Int64) * (cc.toInt64))) (FP.l2d ((gg.toInt64) + (ss.toInt64))))), .second, .val (.int (1 : Int32)), .val (.int (1 : Int32)), .val (.int (1 : Int32)), .unset, .unset] [(.double (own_f1 gg ss cc))])) _
              refine own_dconst1 X20.here hx rfl (hb hby at_207) ?_
              show Steps p.tables e below (T20.setTop (mkF m 208 #[.val (.int p1), .val (.int p2), .val (.int p3), .val (.int p4), .val (.int gg), .val (.int ss), .val (.long ((mn.toInt64) + (1 : Int64))), .second, .val (.int cc), .val (.ref b6), .val (.ref b10), .val (.double (own_f1 gg ss cc)), .second, .val (.double (own_f1 ss gg cc)), .second, .val (.double (FP.ddiv (FP.l2d ((2 : Int64) * (cc.toInt64))) (FP.l2d ((gg.toInt64) + (ss.toInt64))))), .second, .val (.int (1 : Int32)), .val (.int (1 : Int32)), .val (.int (1 : Int32)), .unset, .unset] [(.double (4607182418800017408 : UInt64)), (.double (own_f1 gg ss cc))])) _
              refine own_dcmp X20.here hx rfl (hb hby at_208) rfl ?_
              show Steps p.tables e below (T20.setTop (mkF m 209 #[.val (.int p1), .val (.int p2), .val (.int p3), .val (.int p4), .val (.int gg), .val (.int ss), .val (.long ((mn.toInt64) + (1 : Int64))), .second, .val (.int cc), .val (.ref b6), .val (.ref b10), .val (.double (own_f1 gg ss cc)), .second, .val (.double (own_f1 ss gg cc)), .second, .val (.double (FP.ddiv (FP.l2d ((2 : Int64) * (cc.toInt64))) (FP.l2d ((gg.toInt64) + (ss.toInt64))))), .second, .val (.int (1 : Int32)), .val (.int (1 : Int32)), .val (.int (1 : Int32)), .unset, .unset] [(.int (cmpValue (FP.dcmp (own_f1 gg ss cc) (4607182418800017408 : UInt64)) .l))])) _
              refine XS.ifNo X20.here hx rfl (hb hby at_209) rfl ((if0 _ _).trans (teq ((by rw [Own.cv_eq k1] <;> decide) : (cmpValue (FP.dcmp (own_f1 gg ss cc) (4607182418800017408 : UInt64)) .l) = (0 : Int32))).2) ?_
              show Steps p.tables e below (T20.setTop (mkF m 212 #[.val (.int p1), .val (.int p2), .val (.int p3), .val (.int p4), .val (.int gg), .val (.int ss), .val (.long ((mn.toInt64) + (1 : Int64))), .second, .val (.int cc), .val (.ref b6), .val (.ref b10), .val (.double (own_f1 gg ss cc)), .second, .val (.double (own_f1 ss gg cc)), .second, .val (.double (FP.ddiv (FP.l2d ((2 : Int64) * (cc.toInt64))) (FP.l2d ((gg.toInt64) + (ss.toInt64))))), .second, .val (.int (1 : Int32)), .val (.int (1 : Int32)), .val (.int (1 : Int32)), .unset, .unset] [])) _
              refine XS.iconst X20.here hx rfl (hb hby at_212) ?_
              show Steps p.tables e below (T20.setTop (mkF m 213 #[.val (.int p1), .val (.int p2), .val (.int p3), .val (.int p4), .val (.int gg), .val (.int ss), .val (.long ((mn.toInt64) + (1 : Int64))), .second, .val (.int cc), .val (.ref b6), .val (.ref b10), .val (.double (own_f1 gg ss cc)), .second, .val (.double (own_f1 ss gg cc)), .second, .val (.double (FP.ddiv (FP.l2d ((2 : Int64) * (cc.toInt64))) (FP.l2d ((gg.toInt64) + (ss.toInt64))))), .second, .val (.int (1 : Int32)), .val (.int (1 : Int32)), .val (.int (1 : Int32)), .unset, .unset] [(.int (1 : Int32))])) _
              refine XS.goto X20.here hx rfl (pc0 := 213) (pc' := 217) rfl (hb hby at_213) (by decide) (by decide) ?_
              show Steps p.tables e below (T20.setTop (mkF m 217 #[.val (.int p1), .val (.int p2), .val (.int p3), .val (.int p4), .val (.int gg), .val (.int ss), .val (.long ((mn.toInt64) + (1 : Int64))), .second, .val (.int cc), .val (.ref b6), .val (.ref b10), .val (.double (own_f1 gg ss cc)), .second, .val (.double (own_f1 ss gg cc)), .second, .val (.double (FP.ddiv (FP.l2d ((2 : Int64) * (cc.toInt64))) (FP.l2d ((gg.toInt64) + (ss.toInt64))))), .second, .val (.int (1 : Int32)), .val (.int (1 : Int32)), .val (.int (1 : Int32)), .unset, .unset] [(.int (1 : Int32))])) _
              refine XS.iload X20.here hx rfl (hb hby at_217) rfl ?_
              show Steps p.tables e below (T20.setTop (mkF m 219 #[.val (.int p1), .val (.int p2), .val (.int p3), .val (.int p4), .val (.int gg), .val (.int ss), .val (.long ((mn.toInt64) + (1 : Int64))), .second, .val (.int cc), .val (.ref b6), .val (.ref b10), .val (.double (own_f1 gg ss cc)), .second, .val (.double (own_f1 ss gg cc)), .second, .val (.double (FP.ddiv (FP.l2d ((2 : Int64) * (cc.toInt64))) (FP.l2d ((gg.toInt64) + (ss.toInt64))))), .second, .val (.int (1 : Int32)), .val (.int (1 : Int32)), .val (.int (1 : Int32)), .unset, .unset] [(.int cc), (.int (1 : Int32))])) _
              refine XS.iload X20.here hx rfl (hb hby at_219) rfl ?_
              show Steps p.tables e below (T20.setTop (mkF m 221 #[.val (.int p1), .val (.int p2), .val (.int p3), .val (.int p4), .val (.int gg), .val (.int ss), .val (.long ((mn.toInt64) + (1 : Int64))), .second, .val (.int cc), .val (.ref b6), .val (.ref b10), .val (.double (own_f1 gg ss cc)), .second, .val (.double (own_f1 ss gg cc)), .second, .val (.double (FP.ddiv (FP.l2d ((2 : Int64) * (cc.toInt64))) (FP.l2d ((gg.toInt64) + (ss.toInt64))))), .second, .val (.int (1 : Int32)), .val (.int (1 : Int32)), .val (.int (1 : Int32)), .unset, .unset] [(.int gg), (.int cc), (.int (1 : Int32))])) _
              refine XS.icmpNo X20.here hx rfl (hb hby at_221) rfl (teq (hcg : cc = gg)).2 ?_
              show Steps p.tables e below (T20.setTop (mkF m 224 #[.val (.int p1), .val (.int p2), .val (.int p3), .val (.int p4), .val (.int gg), .val (.int ss), .val (.long ((mn.toInt64) + (1 : Int64))), .second, .val (.int cc), .val (.ref b6), .val (.ref b10), .val (.double (own_f1 gg ss cc)), .second, .val (.double (own_f1 ss gg cc)), .second, .val (.double (FP.ddiv (FP.l2d ((2 : Int64) * (cc.toInt64))) (FP.l2d ((gg.toInt64) + (ss.toInt64))))), .second, .val (.int (1 : Int32)), .val (.int (1 : Int32)), .val (.int (1 : Int32)), .unset, .unset] [(.int (1 : Int32))])) _
              refine XS.iload X20.here hx rfl (hb hby at_224) rfl ?_
              show Steps p.tables e below (T20.setTop (mkF m 226 #[.val (.int p1), .val (.int p2), .val (.int p3), .val (.int p4), .val (.int gg), .val (.int ss), .val (.long ((mn.toInt64) + (1 : Int64))), .second, .val (.int cc), .val (.ref b6), .val (.ref b10), .val (.double (own_f1 gg ss cc)), .second, .val (.double (own_f1 ss gg cc)), .second, .val (.double (FP.ddiv (FP.l2d ((2 : Int64) * (cc.toInt64))) (FP.l2d ((gg.toInt64) + (ss.toInt64))))), .second, .val (.int (1 : Int32)), .val (.int (1 : Int32)), .val (.int (1 : Int32)), .unset, .unset] [(.int cc), (.int (1 : Int32))])) _
              refine XS.iload X20.here hx rfl (hb hby at_226) rfl ?_
              show Steps p.tables e below (T20.setTop (mkF m 228 #[.val (.int p1), .val (.int p2), .val (.int p3), .val (.int p4), .val (.int gg), .val (.int ss), .val (.long ((mn.toInt64) + (1 : Int64))), .second, .val (.int cc), .val (.ref b6), .val (.ref b10), .val (.double (own_f1 gg ss cc)), .second, .val (.double (own_f1 ss gg cc)), .second, .val (.double (FP.ddiv (FP.l2d ((2 : Int64) * (cc.toInt64))) (FP.l2d ((gg.toInt64) + (ss.toInt64))))), .second, .val (.int (1 : Int32)), .val (.int (1 : Int32)), .val (.int (1 : Int32)), .unset, .unset] [(.int ss), (.int cc), (.int (1 : Int32))])) _
              refine XS.icmpNo X20.here hx rfl (hb hby at_228) rfl (teq (hcs : cc = ss)).2 ?_
              show Steps p.tables e below (T20.setTop (mkF m 231 #[.val (.int p1), .val (.int p2), .val (.int p3), .val (.int p4), .val (.int gg), .val (.int ss), .val (.long ((mn.toInt64) + (1 : Int64))), .second, .val (.int cc), .val (.ref b6), .val (.ref b10), .val (.double (own_f1 gg ss cc)), .second, .val (.double (own_f1 ss gg cc)), .second, .val (.double (FP.ddiv (FP.l2d ((2 : Int64) * (cc.toInt64))) (FP.l2d ((gg.toInt64) + (ss.toInt64))))), .second, .val (.int (1 : Int32)), .val (.int (1 : Int32)), .val (.int (1 : Int32)), .unset, .unset] [(.int (1 : Int32))])) _
              refine XS.iconst X20.here hx rfl (hb hby at_231) ?_
              show Steps p.tables e below (T20.setTop (mkF m 232 #[.val (.int p1), .val (.int p2), .val (.int p3), .val (.int p4), .val (.int gg), .val (.int ss), .val (.long ((mn.toInt64) + (1 : Int64))), .second, .val (.int cc), .val (.ref b6), .val (.ref b10), .val (.double (own_f1 gg ss cc)), .second, .val (.double (own_f1 ss gg cc)), .second, .val (.double (FP.ddiv (FP.l2d ((2 : Int64) * (cc.toInt64))) (FP.l2d ((gg.toInt64) + (ss.toInt64))))), .second, .val (.int (1 : Int32)), .val (.int (1 : Int32)), .val (.int (1 : Int32)), .unset, .unset] [(.int (1 : Int32)), (.int (1 : Int32))])) _
              refine XS.goto X20.here hx rfl (pc0 := 232) (pc' := 236) rfl (hb hby at_232) (by decide) (by decide) ?_
              show Steps p.tables e below (T20.setTop (mkF m 236 #[.val (.int p1), .val (.int p2), .val (.int p3), .val (.int p4), .val (.int gg), .val (.int ss), .val (.long ((mn.toInt64) + (1 : Int64))), .second, .val (.int cc), .val (.ref b6), .val (.ref b10), .val (.double (own_f1 gg ss cc)), .second, .val (.double (own_f1 ss gg cc)), .second, .val (.double (FP.ddiv (FP.l2d ((2 : Int64) * (cc.toInt64))) (FP.l2d ((gg.toInt64) + (ss.toInt64))))), .second, .val (.int (1 : Int32)), .val (.int (1 : Int32)), .val (.int (1 : Int32)), .unset, .unset] [(.int (1 : Int32)), (.int (1 : Int32))])) _
              refine XS.icmpNo X20.here hx rfl (hb hby at_236) rfl (teq (by decide : (1 : Int32) = (1 : Int32))).2 ?_
              show Steps p.tables e below (T20.setTop (mkF m 239 #[.val (.int p1), .val (.int p2), .val (.int p3), .val (.int p4), .val (.int gg), .val (.int ss), .val (.long ((mn.toInt64) + (1 : Int64))), .second, .val (.int cc), .val (.ref b6), .val (.ref b10), .val (.double (own_f1 gg ss cc)), .second, .val (.double (own_f1 ss gg cc)), .second, .val (.double (FP.ddiv (FP.l2d ((2 : Int64) * (cc.toInt64))) (FP.l2d ((gg.toInt64) + (ss.toInt64))))), .second, .val (.int (1 : Int32)), .val (.int (1 : Int32)), .val (.int (1 : Int32)), .unset, .unset] [])) _
              refine XS.iconst X20.here hx rfl (hb hby at_239) ?_
              show Steps p.tables e below (T20.setTop (mkF m 240 #[.val (.int p1), .val (.int p2), .val (.int p3), .val (.int p4), .val (.int gg), .val (.int ss), .val (.long ((mn.toInt64) + (1 : Int64))), .second, .val (.int cc), .val (.ref b6), .val (.ref b10), .val (.double (own_f1 gg ss cc)), .second, .val (.double (own_f1 ss gg cc)), .second, .val (.double (FP.ddiv (FP.l2d ((2 : Int64) * (cc.toInt64))) (FP.l2d ((gg.toInt64) + (ss.toInt64))))), .second, .val (.int (1 : Int32)), .val (.int (1 : Int32)), .val (.int (1 : Int32)), .unset, .unset] [(.int (1 : Int32))])) _
              refine XS.goto X20.here hx rfl (pc0 := 240) (pc' := 244) rfl (hb hby at_240) (by decide) (by decide) ?_
              show Steps p.tables e below (T20.setTop (mkF m 244 #[.val (.int p1), .val (.int p2), .val (.int p3), .val (.int p4), .val (.int gg), .val (.int ss), .val (.long ((mn.toInt64) + (1 : Int64))), .second, .val (.int cc), .val (.ref b6), .val (.ref b10), .val (.double (own_f1 gg ss cc)), .second, .val (.double (own_f1 ss gg cc)), .second, .val (.double (FP.ddiv (FP.l2d ((2 : Int64) * (cc.toInt64))) (FP.l2d ((gg.toInt64) + (ss.toInt64))))), .second, .val (.int (1 : Int32)), .val (.int (1 : Int32)), .val (.int (1 : Int32)), .unset, .unset] [(.int (1 : Int32))])) _
              refine XS.istore X20.here hx rfl (hb hby at_244) rfl (l' := #[.val (.int p1), .val (.int p2), .val (.int p3), .val (.int p4), .val (.int gg), .val (.int ss), .val (.long ((mn.toInt64) + (1 : Int64))), .second, .val (.int cc), .val (.ref b6), .val (.ref b10), .val (.double (own_f1 gg ss cc)), .second, .val (.double (own_f1 ss gg cc)), .second, .val (.double (FP.ddiv (FP.l2d ((2 : Int64) * (cc.toInt64))) (FP.l2d ((gg.toInt64) + (ss.toInt64))))), .second, .val (.int (1 : Int32)), .val (.int (1 : Int32)), .val (.int (1 : Int32)), .val (.int (1 : Int32)), .unset]) rfl ?_
              show Steps p.tables e below (T20.setTop (mkF m 246 #[.val (.int p1), .val (.int p2), .val (.int p3), .val (.int p4), .val (.int gg), .val (.int ss), .val (.long ((mn.toInt64) + (1 : Int64))), .second, .val (.int cc), .val (.ref b6), .val (.ref b10), .val (.double (own_f1 gg ss cc)), .second, .val (.double (own_f1 ss gg cc)), .second, .val (.double (FP.ddiv (FP.l2d ((2 : Int64) * (cc.toInt64))) (FP.l2d ((gg.toInt64) + (ss.toInt64))))), .second, .val (.int (1 : Int32)), .val (.int (1 : Int32)), .val (.int (1 : Int32)), .val (.int (1 : Int32)), .unset] [])) _
              refine own_dload X20.here hx rfl (hb hby at_246) rfl ?_
              show Steps p.tables e below (T20.setTop (mkF m 248 #[.val (.int p1), .val (.int p2), .val (.int p3), .val (.int p4), .val (.int gg), .val (.int ss), .val (.long ((mn.toInt64) + (1 : Int64))), .second, .val (.int cc), .val (.ref b6), .val (.ref b10), .val (.double (own_f1 gg ss cc)), .second, .val (.double (own_f1 ss gg cc)), .second, .val (.double (FP.ddiv (FP.l2d ((2 : Int64) * (cc.toInt64))) (FP.l2d ((gg.toInt64) + (ss.toInt64))))), .second, .val (.int (1 : Int32)), .val (.int (1 : Int32)), .val (.int (1 : Int32)), .val (.int (1 : Int32)), .unset] [(.double (own_f1 gg ss cc))])) _
              refine own_dconst0 X20.here hx rfl (hb hby at_248) ?_
              show Steps p.tables e below (T20.setTop (mkF m 249 #[.val (.int p1), .val (.int p2), .val (.int p3), .val (.int p4), .val (.int gg), .val (.int ss), .val (.long ((mn.toInt64) + (1 : Int64))), .second, .val (.int cc), .val (.ref b6), .val (.ref b10), .val (.double (own_f1 gg ss cc)), .second, .val (.double (own_f1 ss gg cc)), .second, .val (.double (FP.ddiv (FP.l2d ((2 : Int64) * (cc.toInt64))) (FP.l2d ((gg.toInt64) + (ss.toInt64))))), .second, .val (.int (1 : Int32)), .val (.int (1 : Int32)), .val (.int (1 : Int32)), .val (.int (1 : Int32)), .unset] [(.double (0 : UInt64)), (.double (own_f1 gg ss cc))])) _
              refine own_dcmp X20.here hx rfl (hb hby at_249) rfl ?_
              show Steps p.tables e below (T20.setTop (mkF m 250 #[.val (.int p1), .val (.int p2), .val (.int p3), .val (.int p4), .val (.int gg), .val (.int ss), .val (.long ((mn.toInt64) + (1 : Int64))), .second, .val (.int cc), .val (.ref b6), .val (.ref b10), .val (.double (own_f1 gg ss cc)), .second, .val (.double (own_f1 ss gg cc)), .second, .val (.double (FP.ddiv (FP.l2d ((2 : Int64) * (cc.toInt64))) (FP.l2d ((gg.toInt64) + (ss.toInt64))))), .second, .val (.int (1 : Int32)), .val (.int (1 : Int32)), .val (.int (1 : Int32)), .val (.int (1 : Int32)), .unset] [(.int (cmpValue (FP.dcmp (own_f1 gg ss cc) (0 : UInt64)) .l))])) _
              refine XS.ifYes X20.here hx rfl (pc0 := 250) (pc' := 257) rfl (hb hby at_250) rfl ((if0 _ _).trans (feq ((by rw [Own.cv_gt k4] <;> decide) : ¬ ((cmpValue (FP.dcmp (own_f1 gg ss cc) (0 : UInt64)) .l) = (0 : Int32)))).2) (by decide) (by decide) ?_
              show Steps p.tables e below (T20.setTop (mkF m 257 #[.val (.int p1), .val (.int p2), .val (.int p3), .val (.int p4), .val (.int gg), .val (.int ss), .val (.long ((mn.toInt64) + (1 : Int64))), .second, .val (.int cc), .val (.ref b6), .val (.ref b10), .val (.double (own_f1 gg ss cc)), .second, .val (.double (own_f1 ss gg cc)), .second, .val (.double (FP.ddiv (FP.l2d ((2 : Int64) * (cc.toInt64))) (FP.l2d ((gg.toInt64) + (ss.toInt64))))), .second, .val (.int (1 : Int32)), .val (.int (1 : Int32)), .val (.int (1 : Int32)), .val (.int (1 : Int32)), .unset] [])) _
              refine XS.iconst X20.here hx rfl (hb hby at_257) ?_
              show Steps p.tables e below (T20.setTop (mkF m 258 #[.val (.int p1), .val (.int p2), .val (.int p3), .val (.int p4), .val (.int gg), .val (.int ss), .val (.long ((mn.toInt64) + (1 : Int64))), .second, .val (.int cc), .val (.ref b6), .val (.ref b10), .val (.double (own_f1 gg ss cc)), .second, .val (.double (own_f1 ss gg cc)), .second, .val (.double (FP.ddiv (FP.l2d ((2 : Int64) * (cc.toInt64))) (FP.l2d ((gg.toInt64) + (ss.toInt64))))), .second, .val (.int (1 : Int32)), .val (.int (1 : Int32)), .val (.int (1 : Int32)), .val (.int (1 : Int32)), .unset] [(.int (0 : Int32))])) _
              refine XS.iload X20.here hx rfl (hb hby at_258) rfl ?_
              show Steps p.tables e below (T20.setTop (mkF m 260 #[.val (.int p1), .val (.int p2), .val (.int p3), .val (.int p4), .val (.int gg), .val (.int ss), .val (.long ((mn.toInt64) + (1 : Int64))), .second, .val (.int cc), .val (.ref b6), .val (.ref b10), .val (.double (own_f1 gg ss cc)), .second, .val (.double (own_f1 ss gg cc)), .second, .val (.double (FP.ddiv (FP.l2d ((2 : Int64) * (cc.toInt64))) (FP.l2d ((gg.toInt64) + (ss.toInt64))))), .second, .val (.int (1 : Int32)), .val (.int (1 : Int32)), .val (.int (1 : Int32)), .val (.int (1 : Int32)), .unset] [(.int cc), (.int (0 : Int32))])) _
              refine XS.ifYes X20.here hx rfl (pc0 := 260) (pc' := 277) rfl (hb hby at_260) rfl ((if0 _ _).trans (feq (hc0 : ¬ (cc = (0 : Int32)))).2) (by decide) (by decide) ?_
              show Steps p.tables e below (T20.setTop (mkF m 277 #[.val (.int p1), .val (.int p2), .val (.int p3), .val (.int p4), .val (.int gg), .val (.int ss), .val (.long ((mn.toInt64) + (1 : Int64))), .second, .val (.int cc), .val (.ref b6), .val (.ref b10), .val (.double (own_f1 gg ss cc)), .second, .val (.double (own_f1 ss gg cc)), .second, .val (.double (FP.ddiv (FP.l2d ((2 : Int64) * (cc.toInt64))) (FP.l2d ((gg.toInt64) + (ss.toInt64))))), .second, .val (.int (1 : Int32)), .val (.int (1 : Int32)), .val (.int (1 : Int32)), .val (.int (1 : Int32)), .unset] [(.int (0 : Int32))])) _
              refine XS.iconst X20.here hx rfl (hb hby at_277) ?_
              show Steps p.tables e below (T20.setTop (mkF m 278 #[.val (.int p1), .val (.int p2), .val (.int p3), .val (.int p4), .val (.int gg), .val (.int ss), .val (.long ((mn.toInt64) + (1 : Int64))), .second, .val (.int cc), .val (.ref b6), .val (.ref b10), .val (.double (own_f1 gg ss cc)), .second, .val (.double (own_f1 ss gg cc)), .second, .val (.double (FP.ddiv (FP.l2d ((2 : Int64) * (cc.toInt64))) (FP.l2d ((gg.toInt64) + (ss.toInt64))))), .second, .val (.int (1 : Int32)), .val (.int (1 : Int32)), .val (.int (1 : Int32)), .val (.int (1 : Int32)), .unset] [(.int (0 : Int32)), (.int (0 : Int32))])) _
              refine XS.icmpNo X20.here hx rfl (hb hby at_278) rfl (teq (by decide : (0 : Int32) = (0 : Int32))).2 ?_
              show Steps p.tables e below (T20.setTop (mkF m 281 #[.val (.int p1), .val (.int p2), .val (.int p3), .val (.int p4), .val (.int gg), .val (.int ss), .val (.long ((mn.toInt64) + (1 : Int64))), .second, .val (.int cc), .val (.ref b6), .val (.ref b10), .val (.double (own_f1 gg ss cc)), .second, .val (.double (own_f1 ss gg cc)), .second, .val (.double (FP.ddiv (FP.l2d ((2 : Int64) * (cc.toInt64))) (FP.l2d ((gg.toInt64) + (ss.toInt64))))), .second, .val (.int (1 : Int32)), .val (.int (1 : Int32)), .val (.int (1 : Int32)), .val (.int (1 : Int32)), .unset] [])) _
              refine XS.iconst X20.here hx rfl (hb hby at_281) ?_
              show Steps p.tables e below (T20.setTop (mkF m 282 #[.val (.int p1), .val (.int p2), .val (.int p3), .val (.int p4), .val (.int gg), .val (.int ss), .val (.long ((mn.toInt64) + (1 : Int64))), .second, .val (.int cc), .val (.ref b6), .val (.ref b10), .val (.double (own_f1 gg ss cc)), .second, .val (.double (own_f1 ss gg cc)), .second, .val (.double (FP.ddiv (FP.l2d ((2 : Int64) * (cc.toInt64))) (FP.l2d ((gg.toInt64) + (ss.toInt64))))), .second, .val (.int (1 : Int32)), .val (.int (1 : Int32)), .val (.int (1 : Int32)), .val (.int (1 : Int32)), .unset] [(.int (1 : Int32))])) _
              refine XS.goto X20.here hx rfl (pc0 := 282) (pc' := 286) rfl (hb hby at_282) (by decide) (by decide) ?_
              show Steps p.tables e below (T20.setTop (mkF m 286 #[.val (.int p1), .val (.int p2), .val (.int p3), .val (.int p4), .val (.int gg), .val (.int ss), .val (.long ((mn.toInt64) + (1 : Int64))), .second, .val (.int cc), .val (.ref b6), .val (.ref b10), .val (.double (own_f1 gg ss cc)), .second, .val (.double (own_f1 ss gg cc)), .second, .val (.double (FP.ddiv (FP.l2d ((2 : Int64) * (cc.toInt64))) (FP.l2d ((gg.toInt64) + (ss.toInt64))))), .second, .val (.int (1 : Int32)), .val (.int (1 : Int32)), .val (.int (1 : Int32)), .val (.int (1 : Int32)), .unset] [(.int (1 : Int32))])) _
              refine XS.istore X20.here hx rfl (hb hby at_286) rfl (l' := #[.val (.int p1), .val (.int p2), .val (.int p3), .val (.int p4), .val (.int gg), .val (.int ss), .val (.long ((mn.toInt64) + (1 : Int64))), .second, .val (.int cc), .val (.ref b6), .val (.ref b10), .val (.double (own_f1 gg ss cc)), .second, .val (.double (own_f1 ss gg cc)), .second, .val (.double (FP.ddiv (FP.l2d ((2 : Int64) * (cc.toInt64))) (FP.l2d ((gg.toInt64) + (ss.toInt64))))), .second, .val (.int (1 : Int32)), .val (.int (1 : Int32)), .val (.int (1 : Int32)), .val (.int (1 : Int32)), .val (.int (1 : Int32))]) rfl ?_
              show Steps p.tables e below (T20.setTop (mkF m 288 #[.val (.int p1), .val (.int p2), .val (.int p3), .val (.int p4), .val (.int gg), .val (.int ss), .val (.long ((mn.toInt64) + (1 : Int64))), .second, .val (.int cc), .val (.ref b6), .val (.ref b10), .val (.double (own_f1 gg ss cc)), .second, .val (.double (own_f1 ss gg cc)), .second, .val (.double (FP.ddiv (FP.l2d ((2 : Int64) * (cc.toInt64))) (FP.l2d ((gg.toInt64) + (ss.toInt64))))), .second, .val (.int (1 : Int32)), .val (.int (1 : Int32)), .val (.int (1 : Int32)), .val (.int (1 : Int32)), .val (.int (1 : Int32))] [])) _
              refine XS.iload X20.here hx rfl (hb hby at_288) rfl ?_
              show Steps p.tables e below (T20.setTop (mkF m 290 #[.val (.int p1), .val (.int p2), .val (.int p3), .val (.int p4), .val (.int gg), .val (.int ss), .val (.long ((mn.toInt64) + (1 : Int64))), .second, .val (.int cc), .val (.ref b6), .val (.ref b10), .val (.double (own_f1 gg ss cc)), .second, .val (.double (own_f1 ss gg cc)), .second, .val (.double (FP.ddiv (FP.l2d ((2 : Int64) * (cc.toInt64))) (FP.l2d ((gg.toInt64) + (ss.toInt64))))), .second, .val (.int (1 : Int32)), .val (.int (1 : Int32)), .val (.int (1 : Int32)), .val (.int (1 : Int32)), .val (.int (1 : Int32))] [(.int (1 : Int32))])) _
              refine XS.ifNo X20.here hx rfl (hb hby at_290) rfl ((if0 _ _).trans (feq (by decide : ¬ ((1 : Int32) = (0 : Int32)))).1) ?_
              show Steps p.tables e below (T20.setTop (mkF m 293 #[.val (.int p1), .val (.int p2), .val (.int p3), .val (.int p4), .val (.int gg), .val (.int ss), .val (.long ((mn.toInt64) + (1 : Int64))), .second, .val (.int cc), .val (.ref b6), .val (.ref b10), .val (.double (own_f1 gg ss cc)), .second, .val (.double (own_f1 ss gg cc)), .second, .val (.double (FP.ddiv (FP.l2d ((2 : Int64) * (cc.toInt64))) (FP.l2d ((gg.toInt64) + (ss.toInt64))))), .second, .val (.int (1 : Int32)), .val (.int (1 : Int32)), .val (.int (1 : Int32)), .val (.int (1 : Int32)), .val (.int (1 : Int32))] [])) _
              refine XS.iload X20.here hx rfl (hb hby at_293) rfl ?_
              show Steps p.tables e below (T20.setTop (mkF m 295 #[.val (.int p1), .val (.int p2), .val (.int p3), .val (.int p4), .val (.int gg), .val (.int ss), .val (.long ((mn.toInt64) + (1 : Int64))), .second, .val (.int cc), .val (.ref b6), .val (.ref b10), .val (.double (own_f1 gg ss cc)), .second, .val (.double (own_f1 ss gg cc)), .second, .val (.double (FP.ddiv (FP.l2d ((2 : Int64) * (cc.toInt64))) (FP.l2d ((gg.toInt64) + (ss.toInt64))))), .second, .val (.int (1 : Int32)), .val (.int (1 : Int32)), .val (.int (1 : Int32)), .val (.int (1 : Int32)), .val (.int (1 : Int32))] [(.int (1 : Int32))])) _
              refine XS.ifNo X20.here hx rfl (hb hby at_295) rfl ((if0 _ _).trans (feq (by decide : ¬ ((1 : Int32) = (0 : Int32)))).1) ?_
              show Steps p.tables e below (T20.setTop (mkF m 298 #[.val (.int p1), .val (.int p2), .val (.int p3), .val (.int p4), .val (.int gg), .val (.int ss), .val (.long ((mn.toInt64) + (1 : Int64))), .second, .val (.int cc), .val (.ref b6), .val (.ref b10), .val (.double (own_f1 gg ss cc)), .second, .val (.double (own_f1 ss gg cc)), .second, .val (.double (FP.ddiv (FP.l2d ((2 : Int64) * (cc.toInt64))) (FP.l2d ((gg.toInt64) + (ss.toInt64))))), .second, .val (.int (1 : Int32)), .val (.int (1 : Int32)), .val (.int (1 : Int32)), .val (.int (1 : Int32)), .val (.int (1 : Int32))] [])) _
              refine XS.iload X20.here hx rfl (hb hby at_298) rfl ?_
              show Steps p.tables e below (T20.setTop (mkF m 300 #[.val (.int p1), .val (.int p2), .val (.int p3), .val (.int p4), .val (.int gg), .val (.int ss), .val (.long ((mn.toInt64) + (1 : Int64))), .second, .val (.int cc), .val (.ref b6), .val (.ref b10), .val (.double (own_f1 gg ss cc)), .second, .val (.double (own_f1 ss gg cc)), .second, .val (.double (FP.ddiv (FP.l2d ((2 : Int64) * (cc.toInt64))) (FP.l2d ((gg.toInt64) + (ss.toInt64))))), .second, .val (.int (1 : Int32)), .val (.int (1 : Int32)), .val (.int (1 : Int32)), .val (.int (1 : Int32)), .val (.int (1 : Int32))] [(.int (1 : Int32))])) _
              refine XS.ifNo X20.here hx rfl (hb hby at_300) rfl ((if0 _ _).trans (feq (by decide : ¬ ((1 : Int32) = (0 : Int32)))).1) ?_
              show Steps p.tables e below (T20.setTop (mkF m 303 #[.val (.int p1), .val (.int p2), .val (.int p3), .val (.int p4), .val (.int gg), .val (.int ss), .val (.long ((mn.toInt64) + (1 : Int64))), .second, .val (.int cc), .val (.ref b6), .val (.ref b10), .val (.double (own_f1 gg ss cc)), .second, .val (.double (own_f1 ss gg cc)), .second, .val (.double (FP.ddiv (FP.l2d ((2 : Int64) * (cc.toInt64))) (FP.l2d ((gg.toInt64) + (ss.toInt64))))), .second, .val (.int (1 : Int32)), .val (.int (1 : Int32)), .val (.int (1 : Int32)), .val (.int (1 : Int32)), .val (.int (1 : Int32))] [])) _
              refine XS.iload X20.here hx rfl (hb hby at_303) rfl ?_
              show Steps p.tables e below (T20.setTop (mkF m 305 #[.val (.int p1), .val (.int p2), .val (.int p3), .val (.int p4), .val (.int gg), .val (.int ss), .val (.long ((mn.toInt64) + (1 : Int64))), .second, .val (.int cc), .val (.ref b6), .val (.ref b10), .val (.double (own_f1 gg ss cc)), .second, .val (.double (own_f1 ss gg cc)), .second, .val (.double (FP.ddiv (FP.l2d ((2 : Int64) * (cc.toInt64))) (FP.l2d ((gg.toInt64) + (ss.toInt64))))), .second, .val (.int (1 : Int32)), .val (.int (1 : Int32)), .val (.int (1 : Int32)), .val (.int (1 : Int32)), .val (.int (1 : Int32))] [(.int (1 : Int32))])) _
              refine XS.ifNo X20.here hx rfl (hb hby at_305) rfl ((if0 _ _).trans (feq (by decide : ¬ ((1 : Int32) = (0 : Int32)))).1) ?_
              show Steps p.tables e below (T20.setTop (mkF m 308 #[.val (.int p1), .val (.int p2), .val (.int p3), .val (.int p4), .val (.int gg), .val (.int ss), .val (.long ((mn.toInt64) + (1 : Int64))), .second, .val (.int cc), .val (.ref b6), .val (.ref b10), .val (.double (own_f1 gg ss cc)), .second, .val (.double (own_f1 ss gg cc)), .second, .val (.double (FP.ddiv (FP.l2d ((2 : Int64) * (cc.toInt64))) (FP.l2d ((gg.toInt64) + (ss.toInt64))))), .second, .val (.int (1 : Int32)), .val (.int (1 : Int32)), .val (.int (1 : Int32)), .val (.int (1 : Int32)), .val (.int (1 : Int32))] [])) _
              refine XS.iload X20.here hx rfl (hb hby at_308) rfl ?_
              show Steps p.tables e below (T20.setTop (mkF m 310 #[.val (.int p1), .val (.int p2), .val (.int p3), .val (.int p4), .val (.int gg), .val (.int ss), .val (.long ((mn.toInt64) + (1 : Int64))), .second, .val (.int cc), .val (.ref b6), .val (.ref b10), .val (.double (own_f1 gg ss cc)), .second, .val (.double (own_f1 ss gg cc)), .second, .val (.double (FP.ddiv (FP.l2d ((2 : Int64) * (cc.toInt64))) (FP.l2d ((gg.toInt64) + (ss.toInt64))))), .second, .val (.int (1 : Int32)), .val (.int (1 : Int32)), .val (.int (1 : Int32)), .val (.int (1 : Int32)), .val (.int (1 : Int32))] [(.int (1 : Int32))])) _
              refine XS.ifNo X20.here hx rfl (hb hby at_310) rfl ((if0 _ _).trans (feq (by decide : ¬ ((1 : Int32) = (0 : Int32)))).1) ?_
              show Steps p.tables e below (T20.setTop (mkF m 313 #[.val (.int p1), .val (.int p2), .val (.int p3), .val (.int p4), .val (.int gg), .val (.int ss), .val (.long ((mn.toInt64) + (1 : Int64))), .second, .val (.int cc), .val (.ref b6), .val (.ref b10), .val (.double (own_f1 gg ss cc)), .second, .val (.double (own_f1 ss gg cc)), .second, .val (.double (FP.ddiv (FP.l2d ((2 : Int64) * (cc.toInt64))) (FP.l2d ((gg.toInt64) + (ss.toInt64))))), .second, .val (.int (1 : Int32)), .val (.int (1 : Int32)), .val (.int (1 : Int32)), .val (.int (1 : Int32)), .val (.int (1 : Int32))] [])) _
              refine XS.iconst X20.here hx rfl (hb hby at_313) ?_
              show Steps p.tables e below (T20.setTop (mkF m 314 #[.val (.int p1), .val (.int p2), .val (.int p3), .val (.int p4), .val (.int gg), .val (.int ss), .val (.long ((mn.toInt64) + (1 : Int64))), .second, .val (.int cc), .val (.ref b6), .val (.ref b10), .val (.double (own_f1 gg ss cc)), .second, .val (.double (own_f1 ss gg cc)), .second, .val (.double (FP.ddiv (FP.l2d ((2 : Int64) * (cc.toInt64))) (FP.l2d ((gg.toInt64) + (ss.toInt64))))), .second, .val (.int (1 : Int32)), .val (.int (1 : Int32)), .val (.int (1 : Int32)), .val (.int (1 : Int32)), .val (.int (1 : Int32))] [(.int (1 : Int32))])) _
              refine XS.goto X20.here hx rfl (pc0 := 314) (pc' := 318) rfl (hb hby at_314) (by decide) (by decide) ?_
              exact kt
            refine Go.adv sg26 ?_
            refine Go.ret (v := (some (.int (1 : Int32)))) X20 (fun h => by rw [Bd.returns] at h; cases h) Bd.notSynchronized (fun fs hr => retN X20 hx (t := .boolean) Bd.returns (by simp) (hb hby at_318) hr) ?_ (by decide) (by decide)
            show Q_rm0 Z p1 p2 p3 p4 h0 n0 (some (.int (1 : Int32))) T20.heap _
            rw [e20]
            exact ⟨rfl, N20⟩
          · rw [if_neg (fun q => hcs q.2)] at k1
            have sg27 : ∀ t, Steps p.tables e below (T20.setTop (mkF m 318 #[.val (.int p1), .val (.int p2), .val (.int p3), .val (.int p4), .val (.int gg), .val (.int ss), .val (.long ((mn.toInt64) + (1 : Int64))), .second, .val (.int cc), .val (.ref b6), .val (.ref b10), .val (.double (own_f1 gg ss cc)), .second, .val (.double (own_f1 ss gg cc)), .second, .val (.double (FP.ddiv (FP.l2d ((2 : Int64) * (cc.toInt64))) (FP.l2d ((gg.toInt64) + (ss.toInt64))))), .second, .val (.int (1 : Int32)), .val (.int (1 : Int32)), .val (.int (1 : Int32)), .val (.int (1 : Int32)), .val (.int (1 : Int32))] [(.int (1 : Int32))])) t → Steps p.tables e below (T20.setTop (mkF m 99 #[.val (.int p1), .val (.int p2), .val (.int p3), .val (.int p4), .val (.int gg), .val (.int ss), .val (.long ((mn.toInt64) + (1 : Int64))), .second, .val (.int cc), .val (.ref b6), .val (.ref b10), .val (.double (own_f1 gg ss cc)), .second, .val (.double (own_f1 ss gg cc)), .second, .unset, .unset, .unset, .unset, .unset, .unset, .unset] [])) t := by
              intro t kt
              show Steps p.tables e below (T20.setTop (mkF m 99 #[.val (.int p1), .val (.int p2), .val (.int p3), .val (.int p4), .val (.int gg), .val (.int ss), .val (.long ((mn.toInt64) + (1 : Int64))), .second, .val (.int cc), .val (.ref b6), .val (.ref b10), .val (.double (own_f1 gg ss cc)), .second, .val (.double (own_f1 ss gg cc)), .second, .unset, .unset, .unset, .unset, .unset, .unset, .unset] [])) _
              refine XS.iload X20.here hx rfl (hb hby at_99) rfl ?_
              show Steps p.tables e below (T20.setTop (mkF m 101 #[.val (.int p1), .val (.int p2), .val (.int p3), .val (.int p4), .val (.int gg), .val (.int ss), .val (.long ((mn.toInt64) + (1 : Int64))), .second, .val (.int cc), .val (.ref b6), .val (.ref b10), .val (.double (own_f1 gg ss cc)), .second, .val (.double (own_f1 ss gg cc)), .second, .unset, .unset, .unset, .unset, .unset, .unset, .unset] [(.int gg)])) _
              refine XS.ifYes X20.here hx rfl (pc0 := 101) (pc' := 115) rfl (hb hby at_101) rfl ((if0 _ _).trans (feq (hg : ¬ (gg = (0 : Int32)))).2) (by decide) (by decide) ?_
              show Steps p.tables e below (T20.setTop (mkF m 115 #[.val (.int p1), .val (.int p2), .val (.int p3), .val (.int p4), .val (.int gg), .val (.int ss), .val (.long ((mn.toInt64) + (1 : Int64))), .second, .val (.int cc), .val (.ref b6), .val (.ref b10), .val (.double (own_f1 gg ss cc)), .second, .val (.double (own_f1 ss gg cc)), .second, .unset, .unset, .unset, .unset, .unset, .unset, .unset] [])) _
              refine XS.iload X20.here hx rfl (hb hby at_115) rfl ?_
              show Steps p.tables e below (T20.setTop (mkF m 117 #[.val (.int p1), .val (.int p2), .val (.int p3), .val (.int p4), .val (.int gg), .val (.int ss), .val (.long ((mn.toInt64) + (1 : Int64))), .second, .val (.int cc), .val (.ref b6), .val (.ref b10), .val (.double (own_f1 gg ss cc)), .second, .val (.double (own_f1 ss gg cc)), .second, .unset, .unset, .unset, .unset, .unset, .unset, .unset] [(.int gg)])) _
              refine XS.ifNo X20.here hx rfl (hb hby at_117) rfl ((if0 _ _).trans (feq (hg : ¬ (gg = (0 : Int32)))).1) ?_
              show Steps p.tables e below (T20.setTop (mkF m 120 #[.val (.int p1), .val (.int p2), .val (.int p3), .val (.int p4), .val (.int gg), .val (.int ss), .val (.long ((mn.toInt64) + (1 : Int64))), .second, .val (.int cc), .val (.ref b6), .val (.ref b10), .val (.double (own_f1 gg ss cc)), .second, .val (.double (own_f1 ss gg cc)), .second, .unset, .unset, .unset, .unset, .unset, .unset, .unset] [])) _
              refine XS.iload X20.here hx rfl (hb hby at_120) rfl ?_
              show Steps p.tables e below (T20.setTop (mkF m 122 #[.val (.int p1), .val (.int p2), .val (.int p3), .val (.int p4), .val (.int gg), .val (.int ss), .val (.long ((mn.toInt64) + (1 : Int64))), .second, .val (.int cc), .val (.ref b6), .val (.ref b10), .val (.double (own_f1 gg ss cc)), .second, .val (.double (own_f1 ss gg cc)), .second, .unset, .unset, .unset, .unset, .unset, .unset, .unset] [(.int ss)])) _
              refine XS.ifYes X20.here hx rfl (pc0 := 122) (pc' := 131) rfl (hb hby at_122) rfl ((if0 _ _).trans (feq (hs : ¬ (ss = (0 : Int32)))).2) (by decide) (by decide) ?_
              show Steps p.tables e below (T20.setTop (mkF m 131 #[.val (.int p1), .val (.int p2), .val (.int p3), .val (.int p4), .val (.int gg), .val (.int ss), .val (.long ((mn.toInt64) + (1 : Int64))), .second, .val (.int cc), .val (.ref b6), .val (.ref b10), .val (.double (own_f1 gg ss cc)), .second, .val (.double (own_f1 ss gg cc)), .second, .unset, .unset, .unset, .unset, .unset, .unset, .unset] [])) _
              refine XS.iload X20.here hx rfl (hb hby at_131) rfl ?_
              show Steps p.tables e below (T20.setTop (mkF m 133 #[.val (.int p1), .val (.int p2), .val (.int p3), .val (.int p4), .val (.int gg), .val (.int ss), .val (.long ((mn.toInt64) + (1 : Int64))), .second, .val (.int cc), .val (.ref b6), .val (.ref b10), .val (.double (own_f1 gg ss cc)), .second, .val (.double (own_f1 ss gg cc)), .second, .unset, .unset, .unset, .unset, .unset, .unset, .unset] [(.int gg)])) _
              refine XS.i2l X20.here hx rfl (hb hby at_133) rfl ?_
              show Steps p.tables e below (T20.setTop (mkF m 134 #[.val (.int p1), .val (.int p2), .val (.int p3), .val (.int p4), .val (.int gg), .val (.int ss), .val (.long ((mn.toInt64) + (1 : Int64))), .second, .val (.int cc), .val (.ref b6), .val (.ref b10), .val (.double (own_f1 gg ss cc)), .second, .val (.double (own_f1 ss gg cc)), .second, .unset, .unset, .unset, .unset, .unset, .unset, .unset] [(.long (gg.toInt64))])) _
              refine XS.iload X20.here hx rfl (hb hby at_134) rfl ?_
              show Steps p.tables e below (T20.setTop (mkF m 136 #[.val (.int p1), .val (.int p2), .val (.int p3), .val (.int p4), .val (.int gg), .val (.int ss), .val (.long ((mn.toInt64) + (1 : Int64))), .second, .val (.int cc), .val (.ref b6), .val (.ref b10), .val (.double (own_f1 gg ss cc)), .second, .val (.double (own_f1 ss gg cc)), .second, .unset, .unset, .unset, .unset, .unset, .unset, .unset] [(.int ss), (.long (gg.toInt64))])) _
              refine XS.i2l X20.here hx rfl (hb hby at_136) rfl ?_
              show Steps p.tables e below (T20.setTop (mkF m 137 #[.val (.int p1), .val (.int p2), .val (.int p3), .val (.int p4), .val (.int gg), .val (.int ss), .val (.long ((mn.toInt64) + (1 : Int64))), .second, .val (.int cc), .val (.ref b6), .val (.ref b10), .val (.double (own_f1 gg ss cc)), .second, .val (.double (own_f1 ss gg cc)), .second, .unset, .unset, .unset, .unset, .unset, .unset, .unset] [(.long (ss.toInt64)), (.long (gg.toInt64))])) _
              refine XS.ladd X20.here hx rfl (hb hby at_137) rfl ?_
              show Steps p.tables e below (T20.setTop (mkF m 138 #[.val (.int p1), .val (.int p2), .val (.int p3), .val (.int p4), .val (.int gg), .val (.int ss), .val (.long ((mn.toInt64) + (1 : Int64))), .second, .val (.int cc), .val (.ref b6), .val (.ref b10), .val (.double (own_f1 gg ss cc)), .second, .val (.double (own_f1 ss gg cc)), .second, .unset, .unset, .unset, .unset, .unset, .unset, .unset] [(.long ((gg.toInt64) + (ss.toInt64)))])) _
              refine XS.lstore X20.here hx rfl (hb hby at_138) rfl (l' := #[.val (.int p1), .val (.int p2), .val (.int p3), .val (.int p4), .val (.int gg), .val (.int ss), .val (.long ((mn.toInt64) + (1 : Int64))), .second, .val (.int cc), .val (.ref b6), .val (.ref b10), .val (.double (own_f1 gg ss cc)), .second, .val (.double (own_f1 ss gg cc)), .second, .unset, .unset, .val (.long ((gg.toInt64) + (ss.toInt64))), .second, .unset, .unset, .unset]) rfl ?_
              show Steps p.tables e below (T20.setTop (mkF m 140 #[.val (.int p1), .val (.int p2), .val (.int p3), .val (.int p4), .val (.int gg), .val (.int ss), .val (.long ((mn.toInt64) + (1 : Int64))), .second, .val (.int cc), .val (.ref b6), .val (.ref b10), .val (.double (own_f1 gg ss cc)), .second, .val (.double (own_f1 ss gg cc)), .second, .unset, .unset, .val (.long ((gg.toInt64) + (ss.toInt64))), .second, .unset, .unset, .unset] [])) _
              refine X20.ldc2Long hx hown (mvT hZ (hw _ (List.mem_of_getElem? (i := 32) rfl))) (g := (mkF m 140 #[.val (.int p1), .val (.int p2), .val (.int p3), .val (.int p4), .val (.int gg), .val (.int ss), .val (.long ((mn.toInt64) + (1 : Int64))), .second, .val (.int cc), .val (.ref b6), .val (.ref b10), .val (.double (own_f1 gg ss cc)), .second, .val (.double (own_f1 ss gg cc)), .second, .unset, .unset, .val (.long ((gg.toInt64) + (ss.toInt64))), .second, .unset, .unset, .unset] [])) rfl (hb hby at_140) _ ?_
              show Steps p.tables e below (T20.setTop (mkF m 143 #[.val (.int p1), .val (.int p2), .val (.int p3), .val (.int p4), .val (.int gg), .val (.int ss), .val (.long ((mn.toInt64) + (1 : Int64))), .second, .val (.int cc), .val (.ref b6), .val (.ref b10), .val (.double (own_f1 gg ss cc)), .second, .val (.double (own_f1 ss gg cc)), .second, .unset, .unset, .val (.long ((gg.toInt64) + (ss.toInt64))), .second, .unset, .unset, .unset] [(.long (2 : Int64))])) _
              refine XS.iload X20.here hx rfl (hb hby at_143) rfl ?_
              show Steps p.tables e below (T20.setTop (mkF m 145 #[.val (.int p1), .val (.int p2), .val (.int p3), .val (.int p4), .val (.int gg), .val (.int ss), .val (.long ((mn.toInt64) + (1 : Int64))), .second, .val (.int cc), .val (.ref b6), .val (.ref b10), .val (.double (own_f1 gg ss cc)), .second, .val (.double (own_f1 ss gg cc)), .second, .unset, .unset, .val (.long ((gg.toInt64) + (ss.toInt64))), .second, .unset, .unset, .unset] [(.int cc), (.long (2 : Int64))])) _
              refine XS.i2l X20.here hx rfl (hb hby at_145) rfl ?_
              show Steps p.tables e below (T20.setTop (mkF m 146 #[.val (.int p1), .val (.int p2), .val (.int p3), .val (.int p4), .val (.int gg), .val (.int ss), .val (.long ((mn.toInt64) + (1 : Int64))), .second, .val (.int cc), .val (.ref b6), .val (.ref b10), .val (.double (own_f1 gg ss cc)), .second, .val (.double (own_f1 ss gg cc)), .second, .unset, .unset, .val (.long ((gg.toInt64) + (ss.toInt64))), .second, .unset, .unset, .unset] [(.long (cc.toInt64)), (.long (2 : Int64))])) _
              refine XS.lmul X20.here hx rfl (hb hby at_146) rfl ?_
              show Steps p.tables e below (T20.setTop (mkF m 147 #[.val (.int p1), .val (.int p2), .val (.int p3), .val (.int p4), .val (.int gg), .val (.int ss), .val (.long ((mn.toInt64) + (1 : Int64))), .second, .val (.int cc), .val (.ref b6), .val (.ref b10), .val (.double (own_f1 gg ss cc)), .second, .val (.double (own_f1 ss gg cc)), .second, .unset, .unset, .val (.long ((gg.toInt64) + (ss.toInt64))), .second, .unset, .unset, .unset] [(.long ((2 : Int64) * (cc.toInt64)))])) _
              refine own_l2d X20.here hx rfl (hb hby at_147) rfl ?_
              show Steps p.tables e below (T20.setTop (mkF m 148 #[.val (.int p1), .val (.int p2), .val (.int p3), .val (.int p4), .val (.int gg), .val (.int ss), .val (.long ((mn.toInt64) + (1 : Int64))), .second, .val (.int cc), .val (.ref b6), .val (.ref b10), .val (.double (own_f1 gg ss cc)), .second, .val (.double (own_f1 ss gg cc)), .second, .unset, .unset, .val (.long ((gg.toInt64) + (ss.toInt64))), .second, .unset, .unset, .unset] [(.double (FP.l2d ((2 : Int64) * (cc.toInt64))))])) _
              refine XS.lload X20.here hx rfl (hb hby at_148) rfl ?_
              show Steps p.tables e below (T20.setTop (mkF m 150 #[.val (.int p1), .val (.int p2), .val (.int p3), .val (.int p4), .val (.int gg), .val (.int ss), .val (.long ((mn.toInt64) + (1 : Int64))), .second, .val (.int cc), .val (.ref b6), .val (.ref b10), .val (.double (own_f1 gg ss cc)), .second, .val (.double (own_f1 ss gg cc)), .second, .unset, .unset, .val (.long ((gg.toInt64) + (ss.toInt64))), .second, .unset, .unset, .unset] [(.long ((gg.toInt64) + (ss.toInt64))), (.double (FP.l2d ((2 : Int64) * (cc.toInt64))))])) _
              refine own_l2d X20.here hx rfl (hb hby at_150) rfl ?_
              show Steps p.tables e below (T20.setTop (mkF m 151 #[.val (.int p1), .val (.int p2), .val (.int p3), .val (.int p4), .val (.int gg), .val (.int ss), .val (.long ((mn.toInt64) + (1 : Int64))), .second, .val (.int cc), .val (.ref b6), .val (.ref b10), .val (.double (own_f1 gg ss cc)), .second, .val (.double (own_f1 ss gg cc)), .second, .unset, .unset, .val (.long ((gg.toInt64) + (ss.toInt64))), .second, .unset, .unset, .unset] [(.double (FP.l2d ((gg.toInt64) + (ss.toInt64)))), (.double (FP.l2d ((2 : Int64) * (cc.toInt64))))])) _
              refine own_ddiv X20.here hx rfl (hb hby at_151) rfl k6 ?_
              show Steps p.tables e below (T20.setTop (mkF m 152 #[.val (.int p1), .val (.int p2), .val (.int p3), .val (.int p4), .val (.int gg), .val (.int ss), .val (.long ((mn.toInt64) + (1 : Int64))), .second, .val (.int cc), .val (.ref b6), .val (.ref b10), .val (.double (own_f1 gg ss cc)), .second, .val (.double (own_f1 ss gg cc)), .second, .unset, .unset, .val (.long ((gg.toInt64) + (ss.toInt64))), .second, .unset, .unset, .unset] [(.double (FP.ddiv (FP.l2d ((2 : Int64) * (cc.toInt64))) (FP.l2d ((gg.toInt64) + (ss.toInt64)))))])) _
              refine own_dstore X20.here hx rfl (hb hby at_152) rfl (l' := #[.val (.int p1), .val (.int p2), .val (.int p3), .val (.int p4), .val (.int gg), .val (.int ss), .val (.long ((mn.toInt64) + (1 : Int64))), .second, .val (.int cc), .val (.ref b6), .val (.ref b10), .val (.double (own_f1 gg ss cc)), .second, .val (.double (own_f1 ss gg cc)), .second, .val (.double (FP.ddiv (FP.l2d ((2 : Int64) * (cc.toInt64))) (FP.l2d ((gg.toInt64) + (ss.toInt64))))), .second, .val (.long ((gg.toInt64) + (ss.toInt64))), .second, .unset, .unset, .unset]) rfl ?_
              show Steps p.tables e below (T20.setTop (mkF m 154 #[.val (.int p1), .val (.int p2), .val (.int p3), .val (.int p4), .val (.int gg), .val (.int ss), .val (.long ((mn.toInt64) + (1 : Int64))), .second, .val (.int cc), .val (.ref b6), .val (.ref b10), .val (.double (own_f1 gg ss cc)), .second, .val (.double (own_f1 ss gg cc)), .second, .val (.double (FP.ddiv (FP.l2d ((2 : Int64) * (cc.toInt64))) (FP.l2d ((gg.toInt64) + (ss.toInt64))))), .second, .val (.long ((gg.toInt64) + (ss.toInt64))), .second, .unset, .unset, .unset] [])) _
              refine own_dload X20.here hx rfl (hb hby at_154) rfl ?_
              show Steps p.tables e below (T20.setTop (mkF m 156 #[.val (.int p1), .val (.int p2), .val (.int p3), .val (.int p4), .val (.int gg), .val (.int ss), .val (.long ((mn.toInt64) + (1 : Int64))), .second, .val (.int cc), .val (.ref b6), .val (.ref b10), .val (.double (own_f1 gg ss cc)), .second, .val (.double (own_f1 ss gg cc)), .second, .val (.double (FP.ddiv (FP.l2d ((2 : Int64) * (cc.toInt64))) (FP.l2d ((gg.toInt64) + (ss.toInt64))))), .second, .val (.long ((gg.toInt64) + (ss.toInt64))), .second, .unset, .unset, .unset] [(.double (own_f1 gg ss cc))])) _
              refine own_dload X20.here hx rfl (hb hby at_156) rfl ?_
              show Steps p.tables e below (T20.setTop (mkF m 158 #[.val (.int p1), .val (.int p2), .val (.int p3), .val (.int p4), .val (.int gg), .val (.int ss), .val (.long ((mn.toInt64) + (1 : Int64))), .second, .val (.int cc), .val (.ref b6), .val (.ref b10), .val (.double (own_f1 gg ss cc)), .second, .val (.double (own_f1 ss gg cc)), .second, .val (.double (FP.ddiv (FP.l2d ((2 : Int64) * (cc.toInt64))) (FP.l2d ((gg.toInt64) + (ss.toInt64))))), .second, .val (.long ((gg.toInt64) + (ss.toInt64))), .second, .unset, .unset, .unset] [(.double (FP.ddiv (FP.l2d ((2 : Int64) * (cc.toInt64))) (FP.l2d ((gg.toInt64) + (ss.toInt64))))), (.double (own_f1 gg ss cc))])) _
              refine own_dcmp X20.here hx rfl (hb hby at_158) rfl ?_
              show Steps p.tables e below (T20.setTop (mkF m 159 #[.val (.int p1), .val (.int p2), .val (.int p3), .val (.int p4), .val (.int gg), .val (.int ss), .val (.long ((mn.toInt64) + (1 : Int64))), .second, .val (.int cc), .val (.ref b6), .val (.ref b10), .val (.double (own_f1 gg ss cc)), .second, .val (.double (own_f1 ss gg cc)), .second, .val (.double (FP.ddiv (FP.l2d ((2 : Int64) * (cc.toInt64))) (FP.l2d ((gg.toInt64) + (ss.toInt64))))), .second, .val (.long ((gg.toInt64) + (ss.toInt64))), .second, .unset, .unset, .unset] [(.int (cmpValue (FP.dcmp (own_f1 gg ss cc) (FP.ddiv (FP.l2d ((2 : Int64) * (cc.toInt64))) (FP.l2d ((gg.toInt64) + (ss.toInt64))))) .l))])) _
              refine XS.ifNo X20.here hx rfl (hb hby at_159) rfl ((if0 _ _).trans (teq ((by rw [Own.cv_eq k5] <;> decide) : (cmpValue (FP.dcmp (own_f1 gg ss cc) (FP.ddiv (FP.l2d ((2 : Int64) * (cc.toInt64))) (FP.l2d ((gg.toInt64) + (ss.toInt64))))) .l) = (0 : Int32))).2) ?_
              show Steps p.tables e below (T20.setTop (mkF m 162 #[.val (.int p1), .val (.int p2), .val (.int p3), .val (.int p4), .val (.int gg), .val (.int ss), .val (.long ((mn.toInt64) + (1 : Int64))), .second, .val (.int cc), .val (.ref b6), .val (.ref b10), .val (.double (own_f1 gg ss cc)), .second, .val (.double (own_f1 ss gg cc)), .second, .val (.double (FP.ddiv (FP.l2d ((2 : Int64) * (cc.toInt64))) (FP.l2d ((gg.toInt64) + (ss.toInt64))))), .second, .val (.long ((gg.toInt64) + (ss.toInt64))), .second, .unset, .unset, .unset] [])) _
              refine XS.iconst X20.here hx rfl (hb hby at_162) ?_
              show Steps p.tables e below (T20.setTop (mkF m 163 #[.val (.int p1), .val (.int p2), .val (.int p3), .val (.int p4), .val (.int gg), .val (.int ss), .val (.long ((mn.toInt64) + (1 : Int64))), .second, .val (.int cc), .val (.ref b6), .val (.ref b10), .val (.double (own_f1 gg ss cc)), .second, .val (.double (own_f1 ss gg cc)), .second, .val (.double (FP.ddiv (FP.l2d ((2 : Int64) * (cc.toInt64))) (FP.l2d ((gg.toInt64) + (ss.toInt64))))), .second, .val (.long ((gg.toInt64) + (ss.toInt64))), .second, .unset, .unset, .unset] [(.int (1 : Int32))])) _
              refine XS.goto X20.here hx rfl (pc0 := 163) (pc' := 167) rfl (hb hby at_163) (by decide) (by decide) ?_
              show Steps p.tables e below (T20.setTop (mkF m 167 #[.val (.int p1), .val (.int p2), .val (.int p3), .val (.int p4), .val (.int gg), .val (.int ss), .val (.long ((mn.toInt64) + (1 : Int64))), .second, .val (.int cc), .val (.ref b6), .val (.ref b10), .val (.double (own_f1 gg ss cc)), .second, .val (.double (own_f1 ss gg cc)), .second, .val (.double (FP.ddiv (FP.l2d ((2 : Int64) * (cc.toInt64))) (FP.l2d ((gg.toInt64) + (ss.toInt64))))), .second, .val (.long ((gg.toInt64) + (ss.toInt64))), .second, .unset, .unset, .unset] [(.int (1 : Int32))])) _
              refine XS.istore X20.here hx rfl (hb hby at_167) rfl (l' := #[.val (.int p1), .val (.int p2), .val (.int p3), .val (.int p4), .val (.int gg), .val (.int ss), .val (.long ((mn.toInt64) + (1 : Int64))), .second, .val (.int cc), .val (.ref b6), .val (.ref b10), .val (.double (own_f1 gg ss cc)), .second, .val (.double (own_f1 ss gg cc)), .second, .val (.double (FP.ddiv (FP.l2d ((2 : Int64) * (cc.toInt64))) (FP.l2d ((gg.toInt64) + (ss.toInt64))))), .second, .val (.int (1 : Int32)), .unset, .unset, .unset, .unset]) rfl ?_
              show Steps p.tables e below (T20.setTop (mkF m 169 #[.val (.int p1), .val (.int p2), .val (.int p3), .val (.int p4), .val (.int gg), .val (.int ss), .val (.long ((mn.toInt64) + (1 : Int64))), .second, .val (.int cc), .val (.ref b6), .val (.ref b10), .val (.double (own_f1 gg ss cc)), .second, .val (.double (own_f1 ss gg cc)), .second, .val (.double (FP.ddiv (FP.l2d ((2 : Int64) * (cc.toInt64))) (FP.l2d ((gg.toInt64) + (ss.toInt64))))), .second, .val (.int (1 : Int32)), .unset, .unset, .unset, .unset] [])) _
              refine own_dload X20.here hx rfl (hb hby at_169) rfl ?_
              show Steps p.tables e below (T20.setTop (mkF m 171 #[.val (.int p1), .val (.int p2), .val (.int p3), .val (.int p4), .val (.int gg), .val (.int ss), .val (.long ((mn.toInt64) + (1 : Int64))), .second, .val (.int cc), .val (.ref b6), .val (.ref b10), .val (.double (own_f1 gg ss cc)), .second, .val (.double (own_f1 ss gg cc)), .second, .val (.double (FP.ddiv (FP.l2d ((2 : Int64) * (cc.toInt64))) (FP.l2d ((gg.toInt64) + (ss.toInt64))))), .second, .val (.int (1 : Int32)), .unset, .unset, .unset, .unset] [(.double (own_f1 gg ss cc))])) _
              refine own_dload X20.here hx rfl (hb hby at_171) rfl ?_
              show Steps p.tables e below (T20.setTop (mkF m 173 #[.val (.int p1), .val (.int p2), .val (.int p3), .val (.int p4), .val (.int gg), .val (.int ss), .val (.long ((mn.toInt64) + (1 : Int64))), .second, .val (.int cc), .val (.ref b6), .val (.ref b10), .val (.double (own_f1 gg ss cc)), .second, .val (.double (own_f1 ss gg cc)), .second, .val (.double (FP.ddiv (FP.l2d ((2 : Int64) * (cc.toInt64))) (FP.l2d ((gg.toInt64) + (ss.toInt64))))), .second, .val (.int (1 : Int32)), .unset, .unset, .unset, .unset] [(.double (own_f1 ss gg cc)), (.double (own_f1 gg ss cc))])) _
              refine own_dcmp X20.here hx rfl (hb hby at_173) rfl ?_
              show Steps p.tables e below (T20.setTop (mkF m 174 #[.val (.int p1), .val (.int p2), .val (.int p3), .val (.int p4), .val (.int gg), .val (.int ss), .val (.long ((mn.toInt64) + (1 : Int64))), .second, .val (.int cc), .val (.ref b6), .val (.ref b10), .val (.double (own_f1 gg ss cc)), .second, .val (.double (own_f1 ss gg cc)), .second, .val (.double (FP.ddiv (FP.l2d ((2 : Int64) * (cc.toInt64))) (FP.l2d ((gg.toInt64) + (ss.toInt64))))), .second, .val (.int (1 : Int32)), .unset, .unset, .unset, .unset] [(.int (cmpValue (FP.dcmp (own_f1 gg ss cc) (own_f1 ss gg cc)) .l))])) _
              refine XS.ifNo X20.here hx rfl (hb hby at_174) rfl ((if0 _ _).trans (teq ((by rw [Own.cv_eq k2] <;> decide) : (cmpValue (FP.dcmp (own_f1 gg ss cc) (own_f1 ss gg cc)) .l) = (0 : Int32))).2) ?_
              show Steps p.tables e below (T20.setTop (mkF m 177 #[.val (.int p1), .val (.int p2), .val (.int p3), .val (.int p4), .val (.int gg), .val (.int ss), .val (.long ((mn.toInt64) + (1 : Int64))), .second, .val (.int cc), .val (.ref b6), .val (.ref b10), .val (.double (own_f1 gg ss cc)), .second, .val (.double (own_f1 ss gg cc)), .second, .val (.double (FP.ddiv (FP.l2d ((2 : Int64) * (cc.toInt64))) (FP.l2d ((gg.toInt64) + (ss.toInt64))))), .second, .val (.int (1 : Int32)), .unset, .unset, .unset, .unset] [])) _
              refine XS.iconst X20.here hx rfl (hb hby at_177) ?_
              show Steps p.tables e below (T20.setTop (mkF m 178 #[.val (.int p1), .val (.int p2), .val (.int p3), .val (.int p4), .val (.int gg), .val (.int ss), .val (.long ((mn.toInt64) + (1 : Int64))), .second, .val (.int cc), .val (.ref b6), .val (.ref b10), .val (.double (own_f1 gg ss cc)), .second, .val (.double (own_f1 ss gg cc)), .second, .val (.double (FP.ddiv (FP.l2d ((2 : Int64) * (cc.toInt64))) (FP.l2d ((gg.toInt64) + (ss.toInt64))))), .second, .val (.int (1 : Int32)), .unset, .unset, .unset, .unset] [(.int (1 : Int32))])) _
              refine XS.goto X20.here hx rfl (pc0 := 178) (pc' := 182) rfl (hb hby at_178) (by decide) (by decide) ?_
              show Steps p.tables e below (T20.setTop (mkF m 182 #[.val (.int p1), .val (.int p2), .val (.int p3), .val (.int p4), .val (.int gg), .val (.int ss), .val (.long ((mn.toInt64) + (1 : Int64))), .second, .val (.int cc), .val (.ref b6), .val (.ref b10), .val (.double (own_f1 gg ss cc)), .second, .val (.double (own_f1 ss gg cc)), .second, .val (.double (FP.ddiv (FP.l2d ((2 : Int64) * (cc.toInt64))) (FP.l2d ((gg.toInt64) + (ss.toInt64))))), .second, .val (.int (1 : Int32)), .unset, .unset, .unset, .unset] [(.int (1 : Int32))])) _
              refine XS.istore X20.here hx rfl (hb hby at_182) rfl (l' := #[.val (.int p1), .val (.int p2), .val (.int p3), .val (.int p4), .val (.int gg), .val (.int ss), .val (.long ((mn.toInt64) + (1 : Int64))), .second, .val (.int cc), .val (.ref b6), .val (.ref b10), .val (.double (own_f1 gg ss cc)), .second, .val (.double (own_f1 ss gg cc)), .second, .val (.double (FP.ddiv (FP.l2d ((2 : Int64) * (cc.toInt64))) (FP.l2d ((gg.toInt64) + (ss.toInt64))))), .second, .val (.int (1 : Int32)), .val (.int (1 : Int32)), .unset, .unset, .unset]) rfl ?_
              show Steps p.tables e below (T20.setTop (mkF m 184 #[.val (.int p1), .val (.int p2), .val (.int p3), .val (.int p4), .val (.int gg), .val (.int ss), .val (.long ((mn.toInt64) + (1 : Int64))), .second, .val (.int cc), .val (.ref b6), .val (.ref b10), .val (.double (own_f1 gg ss cc)), .second, .val (.double (own_f1 ss gg cc)), .second, .val (.double (FP.ddiv (FP.l2d ((2 : Int64) * (cc.toInt64))) (FP.l2d ((gg.toInt64) + (ss.toInt64))))), .second, .val (.int (1 : Int32)), .val (.int (1 : Int32)), .unset, .unset, .unset] [])) _
              refine own_dconst0 X20.here hx rfl (hb hby at_184) ?_
              show Steps p.tables e below (T20.setTop (mkF m 185 #[.val (.int p1), .val (.int p2), .val (.int p3), .val (.int p4), .val (.int gg), .val (.int ss), .val (.long ((mn.toInt64) + (1 : Int64))), .second, .val (.int cc), .val (.ref b6), .val (.ref b10), .val (.double (own_f1 gg ss cc)), .second, .val (.double (own_f1 ss gg cc)), .second, .val (.double (FP.ddiv (FP.l2d ((2 : Int64) * (cc.toInt64))) (FP.l2d ((gg.toInt64) + (ss.toInt64))))), .second, .val (.int (1 : Int32)), .val (.int (1 : Int32)), .unset, .unset, .unset] [(.double (0 : UInt64))])) _
              refine own_dload X20.here hx rfl (hb hby at_185) rfl ?_
              show Steps p.tables e below (T20.setTop (mkF m 187 #[.val (.int p1), .val (.int p2), .val (.int p3), .val (.int p4), .val (.int gg), .val (.int ss), .val (.long ((mn.toInt64) + (1 : Int64))), .second, .val (.int cc), .val (.ref b6), .val (.ref b10), .val (.double (own_f1 gg ss cc)), .second, .val (.double (own_f1 ss gg cc)), .second, .val (.double (FP.ddiv (FP.l2d ((2 : Int64) * (cc.toInt64))) (FP.l2d ((gg.toInt64) + (ss.toInt64))))), .second, .val (.int (1 : Int32)), .val (.int (1 : Int32)), .unset, .unset, .unset] [(.double (own_f1 gg ss cc)), (.double (0 : UInt64))])) _
              refine own_dcmp X20.here hx rfl (hb hby at_187) rfl ?_
              show Steps p.tables e below (T20.setTop (mkF m 188 #[.val (.int p1), .val (.int p2), .val (.int p3), .val (.int p4), .val (.int gg), .val (.int ss), .val (.long ((mn.toInt64) + (1 : Int64))), .second, .val (.int cc), .val (.ref b6), .val (.ref b10), .val (.double (own_f1 gg ss cc)), .second, .val (.double (own_f1 ss gg cc)), .second, .val (.double (FP.ddiv (FP.l2d ((2 : Int64) * (cc.toInt64))) (FP.l2d ((gg.toInt64) + (ss.toInt64))))), .second, .val (.int (1 : Int32)), .val (.int (1 : Int32)), .unset, .unset, .unset] [(.int (cmpValue (FP.dcmp (0 : UInt64) (own_f1 gg ss cc)) .g))])) _
              refine XS.ifNo X20.here hx rfl (hb hby at_188) rfl ((if0 _ _).trans (flt ((by rw [Own.cv_lt k3] <;> decide) : ¬ ((0 : Int32) < (cmpValue (FP.dcmp (0 : UInt64) (own_f1 gg ss cc)) .g)))).2.2.1) ?_
              show Steps p.tables e below (T20.setTop (mkF m 191 #[.val (.int p1), .val (.int p2), .val (.int p3), .val (.int p4), .val (.int gg), .val (.int ss), .val (.long ((mn.toInt64) + (1 : Int64))), .second, .val (.int cc), .val (.ref b6), .val (.ref b10), .val (.double (own_f1 gg ss cc)), .second, .val (.double (own_f1 ss gg cc)), .second, .val (.double (FP.ddiv (FP.l2d ((2 : Int64) * (cc.toInt64))) (FP.l2d ((gg.toInt64) + (ss.toInt64))))), .second, .val (.int (1 : Int32)), .val (.int (1 : Int32)), .unset, .unset, .unset] [])) _
              refine own_dload X20.here hx rfl (hb hby at_191) rfl ?_
              show Steps p.tables e below (T20.setTop (mkF m 193 #[.val (.int p1), .val (.int p2), .val (.int p3), .val (.int p4), .val (.int gg), .val (.int ss), .val (.long ((mn.toInt64) + (1 : Int64))), .second, .val (.int cc), .val (.ref b6), .val (.ref b10), .val (.double (own_f1 gg ss cc)), .second, .val (.double (own_f1 ss gg cc)), .second, .val (.double (FP.ddiv (FP.l2d ((2 : Int64) * (cc.toInt64))) (FP.l2d ((gg.toInt64) + (ss.toInt64))))), .second, .val (.int (1 : Int32)), .val (.int (1 : Int32)), .unset, .unset, .unset] [(.double (own_f1 gg ss cc))])) _
              refine own_dconst1 X20.here hx rfl (hb hby at_193) ?_
              show Steps p.tables e below (T20.setTop (mkF m 194 #[.val (.int p1), .val (.int p2), .val (.int p3), .val (.int p4), .val (.int gg), .val (.int ss), .val (.long ((mn.toInt64) + (1 : Int64))), .second, .val (.int cc), .val (.ref b6), .val (.ref b10), .val (.double (own_f1 gg ss cc)), .second, .val (.double (own_f1 ss gg cc)), .second, .val (.double (FP.ddiv (FP.l2d ((2 : Int64) * (cc.toInt64))) (FP.l2d ((gg.toInt64) + (ss.toInt64))))), .second, .val (.int (1 : Int32)), .val (.int (1 : Int32)), .unset, .unset, .unset] [(.double (4607182418800017408 : UInt64)), (.double (own_f1 gg ss cc))])) _
              refine own_dcmp X20.here hx rfl (hb hby at_194) rfl ?_
              show Steps p.tables e below (T20.setTop (mkF m 195 #[.val (.int p1), .val (.int p2), .val (.int p3), .val (.int p4), .val (.int gg), .val (.int ss), .val (.long ((mn.toInt64) + (1 : Int64))), .second, .val (.int cc), .val (.ref b6), .val (.ref b10), .val (.double (own_f1 gg ss cc)), .second, .val (.double (own_f1 ss gg cc)), .second, .val (.double (FP.ddiv (FP.l2d ((2 : Int64) * (cc.toInt64))) (FP.l2d ((gg.toInt64) + (ss.toInt64))))), .second, .val (.int (1 : Int32)), .val (.int (1 : Int32)), .unset, .unset, .unset] [(.int (cmpValue (FP.dcmp (own_f1 gg ss cc) (4607182418800017408 : UInt64)) .g))])) _
              refine XS.ifNo X20.here hx rfl (hb hby at_195) rfl ((if0 _ _).trans (flt ((by rw [Own.cv_lt k1] <;> decide) : ¬ ((0 : Int32) < (cmpValue (FP.dcmp (own_f1 gg ss cc) (4607182418800017408 : UInt64)) .g)))).2.2.1) ?_
              show Steps p.tables e below (T20.setTop (mkF m 198 #[.val (.int p1), .val (.int p2), .val (.int p3), .val (.int p4), .val (.int gg), .val (.int ss), .val (.long ((mn.toInt64) + (1 : Int64))), .second, .val (.int cc), .val (.ref b6), .val (.ref b10), .val (.double (own_f1 gg ss cc)), .second, .val (.double (own_f1 ss gg cc)), .second, .val (.double (FP.ddiv (FP.l2d ((2 : Int64) * (cc.toInt64))) (FP.l2d ((gg.toInt64) + (ss.toInt64))))), .second, .val (.int (1 : Int32)), .val (.int (1 : Int32)), .unset, .unset, .unset] [])) _
              refine XS.iconst X20.here hx rfl (hb hby at_198) ?_
              show Steps p.tables e below (T20.setTop (mkF m 199 #[.val (.int p1), .val (.int p2), .val (.int p3), .val (.int p4), .val (.int gg), .val (.int ss), .val (.long ((mn.toInt64) + (1 : Int64))), .second, .val (.int cc), .val (.ref b6), .val (.ref b10), .val (.double (own_f1 gg ss cc)), .second, .val (.double (own_f1 ss gg cc)), .second, .val (.double (FP.ddiv (FP.l2d ((2 : Int64) * (cc.toInt64))) (FP.l2d ((gg.toInt64) + (ss.toInt64))))), .second, .val (.int (1 : Int32)), .val (.int (1 : Int32)), .unset, .unset, .unset] [(.int (1 : Int32))])) _
              refine XS.goto X20.here hx rfl (pc0 := 199) (pc' := 203) rfl (hb hby at_199) (by decide) (by decide) ?_
              show Steps p.tables e below (T20.setTop (mkF m 203 #[.val (.int p1), .val (.int p2), .val (.int p3), .val (.int p4), .val (.int gg), .val (.int ss), .val (.long ((mn.toInt64) + (1 : Int64))), .second, .val (.int cc), .val (.ref b6), .val (.ref b10), .val (.double (own_f1 gg ss cc)), .second, .val (.double (own_f1 ss gg cc)), .second, .val (.double (FP.ddiv (FP.l2d ((2 : Int64) * (cc.toInt64))) (FP.l2d ((gg.toInt64) + (ss.toInt64))))), .second, .val (.int (1 : Int32)), .val (.int (1 : Int32)), .unset, .unset, .unset] [(.int (1 : Int32))])) _
              refine XS.istore X20.here hx rfl (hb hby at_203) rfl (l' := #[.val (.int p1), .val (.int p2), .val (.int p3), .val (.int p4), .val (.int gg), .val (.int ss), .val (.long ((mn.toInt64) + (1 : Int64))), .second, .val (.int cc), .val (.ref b6), .val (.ref b10), .val (.double (own_f1 gg ss cc)), .second, .val (.double (own_f1 ss gg cc)), .second, .val (.double (FP.ddiv (FP.l2d ((2 : Int64) * (cc.toInt64))) (FP.l2d ((gg.toInt64) + (ss.toInt64))))), .second, .val (.int (1 : Int32)), .val (.int (1 : Int32)), .val (.int (1 : Int32)), .unset, .unset]) rfl ?_
              show Steps p.tables e below (T20.setTop (mkF m 205 #[.val (.int p1), .val (.int p2), .val (.int p3), .val (.int p4), .val (.int gg), .val (.int ss), .val (.long ((mn.toInt64) + (1 : Int64))), .second, .val (.int cc), .val (.ref b6), .val (.ref b10), .val (.double (own_f1 gg ss cc)), .second, .val (.double (own_f1 ss gg cc)), .second, .val (.double (FP.ddiv (FP.l2d ((2 : Int64) * (cc.toInt64))) (FP.l2d ((gg.toInt64) + (ss.toInt64))))), .second, .val (.int (1 : Int32)), .val (.int (1 : Int32)), .val (.int (1 : Int32)), .unset, .unset] [])) _
              refine own_dload X20.here hx rfl (hb hby at_205) rfl ?_
              show Steps p.tables e below (T20.setTop (mkF m 207 #[.val (.int p1), .val (.int p2), .val (.int p3), .val (.int p4), .val (.int gg), .val (.int ss), .val (.long ((mn.toInt64) + (1 : Int64))), .second, .val (.int cc), .val (.ref b6), .val (.ref b10), .val (.double (own_f1 gg ss cc)), .second, .val (.double (own_f1 ss gg cc)), .second, .val (.double (FP.ddiv (FP.l2d ((2 : Int64) * (cc.toInt64))) (FP.l2d ((gg.toInt64) + (ss.toInt64))))), .second, .val (.int (1 : Int32)), .val (.int (1 : Int32)), .val (.int (1 : Int32)), .unset, .unset] [(.double (own_f1 gg ss cc))])) _
              refine own_dconst1 X20.here hx rfl (hb hby at_207) ?_
              show Steps p.tables e below (T20.setTop (mkF m 208 #[.val (.int p1), .val (.int p2), .val (.int p3), .val (.int p4), .val (.int gg), .val (.int ss), .val (.long ((mn.toInt64) + (1 : Int64))), .second, .val (.int cc), .val (.ref b6), .val (.ref b10), .val (.double (own_f1 gg ss cc)), .second, .val (.double (own_f1 ss gg cc)), .second, .val (.double (FP.ddiv (FP.l2d ((2 : Int64) * (cc.toInt64))) (FP.l2d ((gg.toInt64) + (ss.toInt64))))), .second, .val (.int (1 : Int32)), .val (.int (1 : Int32)), .val (.int (1 : Int32)), .unset, .unset] [(.double (4607182418800017408 : UInt64)), (.double (own_f1 gg ss cc))])) _
              refine own_dcmp X20.here hx rfl (hb hby at_208) rfl ?_
              show Steps p.tables e below (T20.setTop (mkF m 209 #[.val (.int p1), .val (.int p2), .val (.int p3), .val (.int p4), .val (.int gg), .val (.int ss), .val (.long ((mn.toInt64) + (1 : Int64))), .second, .val (.int cc), .val (.ref b6), .val (.ref b10), .val (.double (own_f1 gg ss cc)), .second, .val (.double (own_f1 ss gg cc)), .second, .val (.double (FP.ddiv (FP.l2d ((2 : Int64) * (cc.toInt64))) (FP.l2d ((gg.toInt64) + (ss.toInt64))))), .second, .val (.int (1 : Int32)), .val (.int (1 : Int32)), .val (.int (1 : Int32)), .unset, .unset] [(.int (cmpValue (FP.dcmp (own_f1 gg ss cc) (4607182418800017408 : UInt64)) .l))])) _
              refine XS.ifYes X20.here hx rfl (pc0 := 209) (pc' := 216) rfl (hb hby at_209) rfl ((if0 _ _).trans (feq ((by rw [Own.cv_lt k1] <;> decide) : ¬ ((cmpValue (FP.dcmp (own_f1 gg ss cc) (4607182418800017408 : UInt64)) .l) = (0 : Int32)))).2) (by decide) (by decide) ?_
              show Steps p.tables e below (T20.setTop (mkF m 216 #[.val (.int p1), .val (.int p2), .val (.int p3), .val (.int p4), .val (.int gg), .val (.int ss), .val (.long ((mn.toInt64) + (1 : Int64))), .second, .val (.int cc), .val (.ref b6), .val (.ref b10), .val (.double (own_f1 gg ss cc)), .second, .val (.double (own_f1 ss gg cc)), .second, .val (.double (FP.ddiv (FP.l2d ((2 : Int64) * (cc.toInt64))) (FP.l2d ((gg.toInt64) + (ss.toInt64))))), .second, .val (.int (1 : Int32)), .val (.int (1 : Int32)), .val (.int (1 : Int32)), .unset, .unset] [])) _
              refine XS.iconst X20.here hx rfl (hb hby at_216) ?_
              show Steps p.tables e below (T20.setTop (mkF m 217 #[.val (.int p1), .val (.int p2), .val (.int p3), .val (.int p4), .val (.int gg), .val (.int ss), .val (.long ((mn.toInt64) + (1 : Int64))), .second, .val (.int cc), .val (.ref b6), .val (.ref b10), .val (.double (own_f1 gg ss cc)), .second, .val (.double (own_f1 ss gg cc)), .second, .val (.double (FP.ddiv (FP.l2d ((2 : Int64) * (cc.toInt64))) (FP.l2d ((gg.toInt64) + (ss.toInt64))))), .second, .val (.int (1 : Int32)), .val (.int (1 : Int32)), .val (.int (1 : Int32)), .unset, .unset] [(.int (0 : Int32))])) _
              refine XS.iload X20.here hx rfl (hb hby at_217) rfl ?_
              show Steps p.tables e below (T20.setTop (mkF m 219 #[.val (.int p1), .val (.int p2), .val (.int p3), .val (.int p4), .val (.int gg), .val (.int ss), .val (.long ((mn.toInt64) + (1 : Int64))), .second, .val (.int cc), .val (.ref b6), .val (.ref b10), .val (.double (own_f1 gg ss cc)), .second, .val (.double (own_f1 ss gg cc)), .second, .val (.double (FP.ddiv (FP.l2d ((2 : Int64) * (cc.toInt64))) (FP.l2d ((gg.toInt64) + (ss.toInt64))))), .second, .val (.int (1 : Int32)), .val (.int (1 : Int32)), .val (.int (1 : Int32)), .unset, .unset] [(.int cc), (.int (0 : Int32))])) _
              refine XS.iload X20.here hx rfl (hb hby at_219) rfl ?_
              show Steps p.tables e below (T20.setTop (mkF m 221 #[.val (.int p1), .val (.int p2), .val (.int p3), .val (.int p4), .val (.int gg), .val (.int ss), .val (.long ((mn.toInt64) + (1 : Int64))), .second, .val (.int cc), .val (.ref b6), .val (.ref b10), .val (.double (own_f1 gg ss cc)), .second, .val (.double (own_f1 ss gg cc)), .second, .val (.double (FP.ddiv (FP.l2d ((2 : Int64) * (cc.toInt64))) (FP.l2d ((gg.toInt64) + (ss.toInt64))))), .second, .val (.int (1 : Int32)), .val (.int (1 : Int32)), .val (.int (1 : Int32)), .unset, .unset] [(.int gg), (.int cc), (.int (0 : Int32))])) _
              refine XS.icmpNo X20.here hx rfl (hb hby at_221) rfl (teq (hcg : cc = gg)).2 ?_
              show Steps p.tables e below (T20.setTop (mkF m 224 #[.val (.int p1), .val (.int p2), .val (.int p3), .val (.int p4), .val (.int gg), .val (.int ss), .val (.long ((mn.toInt64) + (1 : Int64))), .second, .val (.int cc), .val (.ref b6), .val (.ref b10), .val (.double (own_f1 gg ss cc)), .second, .val (.double (own_f1 ss gg cc)), .second, .val (.double (FP.ddiv (FP.l2d ((2 : Int64) * (cc.toInt64))) (FP.l2d ((gg.toInt64) + (ss.toInt64))))), .second, .val (.int (1 : Int32)), .val (.int (1 : Int32)), .val (.int (1 : Int32)), .unset, .unset] [(.int (0 : Int32))])) _
              refine XS.iload X20.here hx rfl (hb hby at_224) rfl ?_
              show Steps p.tables e below (T20.setTop (mkF m 226 #[.val (.int p1), .val (.int p2), .val (.int p3), .val (.int p4), .val (.int gg), .val (.int ss), .val (.long ((mn.toInt64) + (1 : Int64))), .second, .val (.int cc), .val (.ref b6), .val (.ref b10), .val (.double (own_f1 gg ss cc)), .second, .val (.double (own_f1 ss gg cc)), .second, .val (.double (FP.ddiv (FP.l2d ((2 : Int64) * (cc.toInt64))) (FP.l2d ((gg.toInt64) + (ss.toInt64))))), .second, .val (.int (1 : Int32)), .val (.int (1 : Int32)), .val (.int (1 : Int32)), .unset, .unset] [(.int cc), (.int (0 : Int32))])) _
              refine XS.iload X20.here hx rfl (hb hby at_226) rfl ?_
              show Steps p.tables e below (T20.setTop (mkF m 228 #[.val (.int p1), .val (.int p2), .val (.int p3), .val (.int p4), .val (.int gg), .val (.int ss), .val (.long ((mn.toInt64) + (1 : Int64))), .second, .val (.int cc), .val (.ref b6), .val (.ref b10), .val (.double (own_f1 gg ss cc)), .second, .val (.double (own_f1 ss gg cc)), .second, .val (.double (FP.ddiv (FP.l2d ((2 : Int64) * (cc.toInt64))) (FP.l2d ((gg.toInt64) + (ss.toInt64))))), .second, .val (.int (1 : Int32)), .val (.int (1 : Int32)), .val (.int (1 : Int32)), .unset, .unset] [(.int ss), (.int cc), (.int (0 : Int32))])) _
              refine XS.icmpYes X20.here hx rfl (pc0 := 228) (pc' := 235) rfl (hb hby at_228) rfl (feq (hcs : ¬ (cc = ss))).2 (by decide) (by decide) ?_
              show Steps p.tables e below (T20.setTop (mkF m 235 #[.val (.int p1), .val (.int p2), .val (.int p3), .val (.int p4), .val (.int gg), .val (.int ss), .val (.long ((mn.toInt64) + (1 : Int64))), .second, .val (.int cc), .val (.ref b6), .val (.ref b10), .val (.double (own_f1 gg ss cc)), .second, .val (.double (own_f1 ss gg cc)), .second, .val (.double (FP.ddiv (FP.l2d ((2 : Int64) * (cc.toInt64))) (FP.l2d ((gg.toInt64) + (ss.toInt64))))), .second, .val (.int (1 : Int32)), .val (.int (1 : Int32)), .val (.int (1 : Int32)), .unset, .unset] [(.int (0 : Int32))])) _
              refine XS.iconst X20.here hx rfl (hb hby at_235) ?_
              show Steps p.tables e below (T20.setTop (mkF m 236 #[.val (.int p1), .val (.int p2), .val (.int p3), .val (.int p4), .val (.int gg), .val (.int ss), .val (.long ((mn.toInt64) + (1 : Int64))), .second, .val (.int cc), .val (.ref b6), .val (.ref b10), .val (.double (own_f1 gg ss cc)), .second, .val (.double (own_f1 ss gg cc)), .second, .val (.double (FP.ddiv (FP.l2d ((2 : Int64) * (cc.toInt64))) (FP.l2d ((gg.toInt64) + (ss.toInt64))))), .second, .val (.int (1 : Int32)), .val (.int (1 : Int32)), .val (.int (1 : Int32)), .unset, .unset] [(.int (0 : Int32)), (.int (0 : Int32))])) _
              refine XS.icmpNo X20.here hx rfl (hb hby at_236) rfl (teq (by decide : (0 : Int32) = (0 : Int32))).2 ?_
              show Steps p.tables e below (T20.setTop (mkF m 239 #[.val (.int p1), .val (.int p2), .val (.int p3), .val (.int p4), .val (.int gg), .val (.int ss), .val (.long ((mn.toInt64) + (1 : Int64))), .second, .val (.int cc), .val (.ref b6), .val (.ref b10), .val (.double (own_f1 gg ss cc)), .second, .val (.double (own_f1 ss gg cc)), .second, .val (.double (FP.ddiv (FP.l2d ((2 : Int64) * (cc.toInt64))) (FP.l2d ((gg.toInt64) + (ss.toInt64))))), .second, .val (.int (1 : Int32)), .val (.int (1 : Int32)), .val (.int (1 : Int32)), .unset, .unset] [])) _
              refine XS.iconst X20.here hx rfl (hb hby at_239) ?_
              show Steps p.tables e below (T20.setTop (mkF m 240 #[.val (.int p1), .val (.int p2), .val (.int p3), .val (.int p4), .val (.int gg), .val (.int ss), .val (.long ((mn.toInt64) + (1 : Int64))), .second, .val (.int cc), .val (.ref b6), .val (.ref b10), .val (.double (own_f1 gg ss cc)), .second, .val (.double (own_f1 ss gg cc)), .second, .val (.double (FP.ddiv (FP.l2d ((2 : Int64) * (cc.toInt64))) (FP.l2d ((gg.toInt64) + (ss.toInt64))))), .second, .val (.int (1 : Int32)), .val (.int (1 : Int32)), .val (.int (1 : Int32)), .unset, .unset] [(.int (1 : Int32))])) _
              refine XS.goto X20.here hx rfl (pc0 := 240) (pc' := 244) rfl (hb hby at_240) (by decide) (by decide) ?_
              show Steps p.tables e below (T20.setTop (mkF m 244 #[.val (.int p1), .val (.int p2), .val (.int p3), .val (.int p4), .val (.int gg), .val (.int ss), .val (.long ((mn.toInt64) + (1 : Int64))), .second, .val (.int cc), .val (.ref b6), .val (.ref b10), .val (.double (own_f1 gg ss cc)), .second, .val (.double (own_f1 ss gg cc)), .second, .val (.double (FP.ddiv (FP.l2d ((2 : Int64) * (cc.toInt64))) (FP.l2d ((gg.toInt64) + (ss.toInt64))))), .second, .val (.int (1 : Int32)), .val (.int (1 : Int32)), .val (.int (1 : Int32)), .unset, .unset] [(.int (1 : Int32))])) _
              refine XS.istore X20.here hx rfl (hb hby at_244) rfl (l' := #[.val (.int p1), .val (.int p2), .val (.int p3), .val (.int p4), .val (.int gg), .val (.int ss), .val (.long ((mn.toInt64) + (1 : Int64))), .second, .val (.int cc), .val (.ref b6), .val (.ref b10), .val (.double (own_f1 gg ss cc)), .second, .val (.double (own_f1 ss gg cc)), .second, .val (.double (FP.ddiv (FP.l2d ((2 : Int64) * (cc.toInt64))) (FP.l2d ((gg.toInt64) + (ss.toInt64))))), .second, .val (.int (1 : Int32)), .val (.int (1 : Int32)), .val (.int (1 : Int32)), .val (.int (1 : Int32)), .unset]) rfl ?_
              show Steps p.tables e below (T20.setTop (mkF m 246 #[.val (.int p1), .val (.int p2), .val (.int p3), .val (.int p4), .val (.int gg), .val (.int ss), .val (.long ((mn.toInt64) + (1 : Int64))), .second, .val (.int cc), .val (.ref b6), .val (.ref b10), .val (.double (own_f1 gg ss cc)), .second, .val (.double (own_f1 ss gg cc)), .second, .val (.double (FP.ddiv (FP.l2d ((2 : Int64) * (cc.toInt64))) (FP.l2d ((gg.toInt64) + (ss.toInt64))))), .second, .val (.int (1 : Int32)), .val (.int (1 : Int32)), .val (.int (1 : Int32)), .val (.int (1 : Int32)), .unset] [])) _
              refine own_dload X20.here hx rfl (hb hby at_246) rfl ?_
              show Steps p.tables e below (T20.setTop (mkF m 248 #[.val (.int p1), .val (.int p2), .val (.int p3), .val (.int p4), .val (.int gg), .val (.int ss), .val (.long ((mn.toInt64) + (1 : Int64))), .second, .val (.int cc), .val (.ref b6), .val (.ref b10), .val (.double (own_f1 gg ss cc)), .second, .val (.double (own_f1 ss gg cc)), .second, .val (.double (FP.ddiv (FP.l2d ((2 : Int64) * (cc.toInt64))) (FP.l2d ((gg.toInt64) + (ss.toInt64))))), .second, .val (.int (1 : Int32)), .val (.int (1 : Int32)), .val (.int (1 : Int32)), .val (.int (1 : Int32)), .unset] [(.double (own_f1 gg ss cc))])) _
              refine own_dconst0 X20.here hx rfl (hb hby at_248) ?_
              show Steps p.tables e below (T20.setTop (mkF m 249 #[.val (.int p1), .val (.int p2), .val (.int p3), .val (.int p4), .val (.int gg), .val (.int ss), .val (.long ((mn.toInt64) + (1 : Int64))), .second, .val (.int cc), .val (.ref b6), .val (.ref b10), .val (.double (own_f1 gg ss cc)), .second, .val (.double (own_f1 ss gg cc)), .second, .val (.double (FP.ddiv (FP.l2d ((2 : Int64) * (cc.toInt64))) (FP.l2d ((gg.toInt64) + (ss.toInt64))))), .second, .val (.int (1 : Int32)), .val (.int (1 : Int32)), .val (.int (1 : Int32)), .val (.int (1 : Int32)), .unset] [(.double (0 : UInt64)), (.double (own_f1 gg ss cc))])) _
              refine own_dcmp X20.here hx rfl (hb hby at_249) rfl ?_
              show Steps p.tables e below (T20.setTop (mkF m 250 #[.val (.int p1), .val (.int p2), .val (.int p3), .val (.int p4), .val (.int gg), .val (.int ss), .val (.long ((mn.toInt64) + (1 : Int64))), .second, .val (.int cc), .val (.ref b6), .val (.ref b10), .val (.double (own_f1 gg ss cc)), .second, .val (.double (own_f1 ss gg cc)), .second, .val (.double (FP.ddiv (FP.l2d ((2 : Int64) * (cc.toInt64))) (FP.l2d ((gg.toInt64) + (ss.toInt64))))), .second, .val (.int (1 : Int32)), .val (.int (1 : Int32)), .val (.int (1 : Int32)), .val (.int (1 : Int32)), .unset] [(.int (cmpValue (FP.dcmp (own_f1 gg ss cc) (0 : UInt64)) .l))])) _
              refine XS.ifYes X20.here hx rfl (pc0 := 250) (pc' := 257) rfl (hb hby at_250) rfl ((if0 _ _).trans (feq ((by rw [Own.cv_gt k4] <;> decide) : ¬ ((cmpValue (FP.dcmp (own_f1 gg ss cc) (0 : UInt64)) .l) = (0 : Int32)))).2) (by decide) (by decide) ?_
              show Steps p.tables e below (T20.setTop (mkF m 257 #[.val (.int p1), .val (.int p2), .val (.int p3), .val (.int p4), .val (.int gg), .val (.int ss), .val (.long ((mn.toInt64) + (1 : Int64))), .second, .val (.int cc), .val (.ref b6), .val (.ref b10), .val (.double (own_f1 gg ss cc)), .second, .val (.double (own_f1 ss gg cc)), .second, .val (.double (FP.ddiv (FP.l2d ((2 : Int64) * (cc.toInt64))) (FP.l2d ((gg.toInt64) + (ss.toInt64))))), .second, .val (.int (1 : Int32)), .val (.int (1 : Int32)), .val (.int (1 : Int32)), .val (.int (1 : Int32)), .unset] [])) _
              refine XS.iconst X20.here hx rfl (hb hby at_257) ?_
              show Steps p.tables e below (T20.setTop (mkF m 258 #[.val (.int p1), .val (.int p2), .val (.int p3), .val (.int p4), .val (.int gg), .val (.int ss), .val (.long ((mn.toInt64) + (1 : Int64))), .second, .val (.int cc), .val (.ref b6), .val (.ref b10), .val (.double (own_f1 gg ss cc)), .second, .val (.double (own_f1 ss gg cc)), .second, .val (.double (FP.ddiv (FP.l2d ((2 : Int64) * (cc.toInt64))) (FP.l2d ((gg.toInt64) + (ss.toInt64))))), .second, .val (.int (1 : Int32)), .val (.int (1 : Int32)), .val (.int (1 : Int32)), .val (.int (1 : Int32)), .unset] [(.int (0 : Int32))])) _
              refine XS.iload X20.here hx rfl (hb hby at_258) rfl ?_
              show Steps p.tables e below (T20.setTop (mkF m 260 #[.val (.int p1), .val (.int p2), .val (.int p3), .val (.int p4), .val (.int gg), .val (.int ss), .val (.long ((mn.toInt64) + (1 : Int64))), .second, .val (.int cc), .val (.ref b6), .val (.ref b10), .val (.double (own_f1 gg ss cc)), .second, .val (.double (own_f1 ss gg cc)), .second, .val (.double (FP.ddiv (FP.l2d ((2 : Int64) * (cc.toInt64))) (FP.l2d ((gg.toInt64) + (ss.toInt64))))), .second, .val (.int (1 : Int32)), .val (.int (1 : Int32)), .val (.int (1 : Int32)), .val (.int (1 : Int32)), .unset] [(.int cc), (.int (0 : Int32))])) _
              refine XS.ifYes X20.here hx rfl (pc0 := 260) (pc' := 277) rfl (hb hby at_260) rfl ((if0 _ _).trans (feq (hc0 : ¬ (cc = (0 : Int32)))).2) (by decide) (by decide) ?_
              show Steps p.tables e below (T20.setTop (mkF m 277 #[.val (.int p1), .val (.int p2), .val (.int p3), .val (.int p4), .val (.int gg), .val (.int ss), .val (.long ((mn.toInt64) + (1 : Int64))), .second, .val (.int cc), .val (.ref b6), .val (.ref b10), .val (.double (own_f1 gg ss cc)), .second, .val (.double (own_f1 ss gg cc)), .second, .val (.double (FP.ddiv (FP.l2d ((2 : Int64) * (cc.toInt64))) (FP.l2d ((gg.toInt64) + (ss.toInt64))))), .second, .val (.int (1 : Int32)), .val (.int (1 : Int32)), .val (.int (1 : Int32)), .val (.int (1 : Int32)), .unset] [(.int (0 : Int32))])) _
              refine XS.iconst X20.here hx rfl (hb hby at_277) ?_
              show Steps p.tables e below (T20.setTop (mkF m 278 #[.val (.int p1), .val (.int p2), .val (.int p3), .val (.int p4), .val (.int gg), .val (.int ss), .val (.long ((mn.toInt64) + (1 : Int64))), .second, .val (.int cc), .val (.ref b6), .val (.ref b10), .val (.double (own_f1 gg ss cc)), .second, .val (.double (own_f1 ss gg cc)), .second, .val (.double (FP.ddiv (FP.l2d ((2 : Int64) * (cc.toInt64))) (FP.l2d ((gg.toInt64) + (ss.toInt64))))), .second, .val (.int (1 : Int32)), .val (.int (1 : Int32)), .val (.int (1 : Int32)), .val (.int (1 : Int32)), .unset] [(.int (0 : Int32)), (.int (0 : Int32))])) _
              refine XS.icmpNo X20.here hx rfl (hb hby at_278) rfl (teq (by decide : (0 : Int32) = (0 : Int32))).2 ?_
              show Steps p.tables e below (T20.setTop (mkF m 281 #[.val (.int p1), .val (.int p2), .val (.int p3), .val (.int p4), .val (.int gg), .val (.int ss), .val (.long ((mn.toInt64) + (1 : Int64))), .second, .val (.int cc), .val (.ref b6), .val (.ref b10), .val (.double (own_f1 gg ss cc)), .second, .val (.double (own_f1 ss gg cc)), .second, .val (.double (FP.ddiv (FP.l2d ((2 : Int64) * (cc.toInt64))) (FP.l2d ((gg.toInt64) + (ss.toInt64))))), .second, .val (.int (1 : Int32)), .val (.int (1 : Int32)), .val (.int (1 : Int32)), .val (.int (1 : Int32)), .unset] [])) _
              refine XS.iconst X20.here hx rfl (hb hby at_281) ?_
              show Steps p.tables e below (T20.setTop (mkF m 282 #[.val (.int p1), .val (.int p2), .val (.int p3), .val (.int p4), .val (.int gg), .val (.int ss), .val (.long ((mn.toInt64) + (1 : Int64))), .second, .val (.int cc), .val (.ref b6), .val (.ref b10), .val (.double (own_f1 gg ss cc)), .second, .val (.double (own_f1 ss gg cc)), .second, .val (.double (FP.ddiv (FP.l2d ((2 : Int64) * (cc.toInt64))) (FP.l2d ((gg.toInt64) + (ss.toInt64))))), .second, .val (.int (1 : Int32)), .val (.int (1 : Int32)), .val (.int (1 : Int32)), .val (.int (1 : Int32)), .unset] [(.int (1 : Int32))])) _
              refine XS.goto X20.here hx rfl (pc0 := 282) (pc' := 286) rfl (hb hby at_282) (by decide) (by decide) ?_
              show Steps p.tables e below (T20.setTop (mkF m 286 #[.val (.int p1), .val (.int p2), .val (.int p3), .val (.int p4), .val (.int gg), .val (.int ss), .val (.long ((mn.toInt64) + (1 : Int64))), .second, .val (.int cc), .val (.ref b6), .val (.ref b10), .val (.double (own_f1 gg ss cc)), .second, .val (.double (own_f1 ss gg cc)), .second, .val (.double (FP.ddiv (FP.l2d ((2 : Int64) * (cc.toInt64))) (FP.l2d ((gg.toInt64) + (ss.toInt64))))), .second, .val (.int (1 : Int32)), .val (.int (1 : Int32)), .val (.int (1 : Int32)), .val (.int (1 : Int32)), .unset] [(.int (1 : Int32))])) _
              refine XS.istore X20.here hx rfl (hb hby at_286) rfl (l' := #[.val (.int p1), .val (.int p2), .val (.int p3), .val (.int p4), .val (.int gg), .val (.int ss), .val (.long ((mn.toInt64) + (1 : Int64))), .second, .val (.int cc), .val (.ref b6), .val (.ref b10), .val (.double (own_f1 gg ss cc)), .second, .val (.double (own_f1 ss gg cc)), .second, .val (.double (FP.ddiv (FP.l2d ((2 : Int64) * (cc.toInt64))) (FP.l2d ((gg.toInt64) + (ss.toInt64))))), .second, .val (.int (1 : Int32)), .val (.int (1 : Int32)), .val (.int (1 : Int32)), .val (.int (1 : Int32)), .val (.int (1 : Int32))]) rfl ?_
              show Steps p.tables e below (T20.setTop (mkF m 288 #[.val (.int p1), .val (.int p2), .val (.int p3), .val (.int p4), .val (.int gg), .val (.int ss), .val (.long ((mn.toInt64) + (1 : Int64))), .second, .val (.int cc), .val (.ref b6), .val (.ref b10), .val (.double (own_f1 gg ss cc)), .second, .val (.double (own_f1 ss gg cc)), .second, .val (.double (FP.ddiv (FP.l2d ((2 : Int64) * (cc.toInt64))) (FP.l2d ((gg.toInt64) + (ss.toInt64))))), .second, .val (.int (1 : Int32)), .val (.int (1 : Int32)), .val (.int (1 : Int32)), .val (.int (1 : Int32)), .val (.int (1 : Int32))] [])) _
              refine XS.iload X20.here hx rfl (hb hby at_288) rfl ?_
              show Steps p.tables e below (T20.setTop (mkF m 290 #[.val (.int p1), .val (.int p2), .val (.int p3), .val (.int p4), .val (.int gg), .val (.int ss), .val (.long ((mn.toInt64) + (1 : Int64))), .second, .val (.int cc), .val (.ref b6), .val (.ref b10), .val (.double (own_f1 gg ss cc)), .second, .val (.double (own_f1 ss gg cc)), .second, .val (.double (FP.ddiv (FP.l2d ((2 : Int64) * (cc.toInt64))) (FP.l2d ((gg.toInt64) + (ss.toInt64))))), .second, .val (.int (1 : Int32)), .val (.int (1 : Int32)), .val (.int (1 : Int32)), .val (.int (1 : Int32)), .val (.int (1 : Int32))] [(.int (1 : Int32))])) _
              refine XS.ifNo X20.here hx rfl (hb hby at_290) rfl ((if0 _ _).trans (feq (by decide : ¬ ((1 : Int32) = (0 : Int32)))).1) ?_
              show Steps p.tables e below (T20.setTop (mkF m 293 #[.val (.int p1), .val (.int p2), .val (.int p3), .val (.int p4), .val (.int gg), .val (.int ss), .val (.long ((mn.toInt64) + (1 : Int64))), .second, .val (.int cc), .val (.ref b6), .val (.ref b10), .val (.double (own_f1 gg ss cc)), .second, .val (.double (own_f1 ss gg cc)), .second, .val (.double (FP.ddiv (FP.l2d ((2 : Int64) * (cc.toInt64))) (FP.l2d ((gg.toInt64) + (ss.toInt64))))), .second, .val (.int (1 : Int32)), .val (.int (1 : Int32)), .val (.int (1 : Int32)), .val (.int (1 : Int32)), .val (.int (1 : Int32))] [])) _
              refine XS.iload X20.here hx rfl (hb hby at_293) rfl ?_
              show Steps p.tables e below (T20.setTop (mkF m 295 #[.val (.int p1), .val (.int p2), .val (.int p3), .val (.int p4), .val (.int gg), .val (.int ss), .val (.long ((mn.toInt64) + (1 : Int64))), .second, .val (.int cc), .val (.ref b6), .val (.ref b10), .val (.double (own_f1 gg ss cc)), .second, .val (.double (own_f1 ss gg cc)), .second, .val (.double (FP.ddiv (FP.l2d ((2 : Int64) * (cc.toInt64))) (FP.l2d ((gg.toInt64) + (ss.toInt64))))), .second, .val (.int (1 : Int32)), .val (.int (1 : Int32)), .val (.int (1 : Int32)), .val (.int (1 : Int32)), .val (.int (1 : Int32))] [(.int (1 : Int32))])) _
              refine XS.ifNo X20.here hx rfl (hb hby at_295) rfl ((if0 _ _).trans (feq (by decide : ¬ ((1 : Int32) = (0 : Int32)))).1) ?_
              show Steps p.tables e below (T20.setTop (mkF m 298 #[.val (.int p1), .val (.int p2), .val (.int p3), .val (.int p4), .val (.int gg), .val (.int ss), .val (.long ((mn.toInt64) + (1 : Int64))), .second, .val (.int cc), .val (.ref b6), .val (.ref b10), .val (.double (own_f1 gg ss cc)), .second, .val (.double (own_f1 ss gg cc)), .second, .val (.double (FP.ddiv (FP.l2d ((2 : Int64) * (cc.toInt64))) (FP.l2d ((gg.toInt64) + (ss.toInt64))))), .second, .val (.int (1 : Int32)), .val (.int (1 : Int32)), .val (.int (1 : Int32)), .val (.int (1 : Int32)), .val (.int (1 : Int32))] [])) _
              refine XS.iload X20.here hx rfl (hb hby at_298) rfl ?_
              show Steps p.tables e below (T20.setTop (mkF m 300 #[.val (.int p1), .val (.int p2), .val (.int p3), .val (.int p4), .val (.int gg), .val (.int ss), .val (.long ((mn.toInt64) + (1 : Int64))), .second, .val (.int cc), .val (.ref b6), .val (.ref b10), .val (.double (own_f1 gg ss cc)), .second, .val (.double (own_f1 ss gg cc)), .second, .val (.double (FP.ddiv (FP.l2d ((2 : Int64) * (cc.toInt64))) (FP.l2d ((gg.toInt64) + (ss.toInt64))))), .second, .val (.int (1 : Int32)), .val (.int (1 : Int32)), .val (.int (1 : Int32)), .val (.int (1 : Int32)), .val (.int (1 : Int32))] [(.int (1 : Int32))])) _
              refine XS.ifNo X20.here hx rfl (hb hby at_300) rfl ((if0 _ _).trans (feq (by decide : ¬ ((1 : Int32) = (0 : Int32)))).1) ?_
              show Steps p.tables e below (T20.setTop (mkF m 303 #[.val (.int p1), .val (.int p2), .val (.int p3), .val (.int p4), .val (.int gg), .val (.int ss), .val (.long ((mn.toInt64) + (1 : Int64))), .second, .val (.int cc), .val (.ref b6), .val (.ref b10), .val (.double (own_f1 gg ss cc)), .second, .val (.double (own_f1 ss gg cc)), .second, .val (.double (FP.ddiv (FP.l2d ((2 : Int64) * (cc.toInt64))) (FP.l2d ((gg.toInt64) + (ss.toInt64))))), .second, .val (.int (1 : Int32)), .val (.int (1 : Int32)), .val (.int (1 : Int32)), .val (.int (1 : Int32)), .val (.int (1 : Int32))] [])) _
              refine XS.iload X20.here hx rfl (hb hby at_303) rfl ?_
              show Steps p.tables e below (T20.setTop (mkF m 305 #[.val (.int p1), .val (.int p2), .val (.int p3), .val (.int p4), .val (.int gg), .val (.int ss), .val (.long ((mn.toInt64) + (1 : Int64))), .second, .val (.int cc), .val (.ref b6), .val (.ref b10), .val (.double (own_f1 gg ss cc)), .second, .val (.double (own_f1 ss gg cc)), .second, .val (.double (FP.ddiv (FP.l2d ((2 : Int64) * (cc.toInt64))) (FP.l2d ((gg.toInt64) + (ss.toInt64))))), .second, .val (.int (1 : Int32)), .val (.int (1 : Int32)), .val (.int (1 : Int32)), .val (.int (1 : Int32)), .val (.int (1 : Int32))] [(.int (1 : Int32))])) _
              refine XS.ifNo X20.here hx rfl (hb hby at_305) rfl ((if0 _ _).trans (feq (by decide : ¬ ((1 : Int32) = (0 : Int32)))).1) ?_
              show Steps p.tables e below (T20.setTop (mkF m 308 #[.val (.int p1), .val (.int p2), .val (.int p3), .val (.int p4), .val (.int gg), .val (.int ss), .val (.long ((mn.toInt64) + (1 : Int64))), .second, .val (.int cc), .val (.ref b6), .val (.ref b10), .val (.double (own_f1 gg ss cc)), .second, .val (.double (own_f1 ss gg cc)), .second, .val (.double (FP.ddiv (FP.l2d ((2 : Int64) * (cc.toInt64))) (FP.l2d ((gg.toInt64) + (ss.toInt64))))), .second, .val (.int (1 : Int32)), .val (.int (1 : Int32)), .val (.int (1 : Int32)), .val (.int (1 : Int32)), .val (.int (1 : Int32))] [])) _
              refine XS.iload X20.here hx rfl (hb hby at_308) rfl ?_
              show Steps p.tables e below (T20.setTop (mkF m 310 #[.val (.int p1), .val (.int p2), .val (.int p3), .val (.int p4), .val (.int gg), .val (.int ss), .val (.long ((mn.toInt64) + (1 : Int64))), .second, .val (.int cc), .val (.ref b6), .val (.ref b10), .val (.double (own_f1 gg ss cc)), .second, .val (.double (own_f1 ss gg cc)), .second, .val (.double (FP.ddiv (FP.l2d ((2 : Int64) * (cc.toInt64))) (FP.l2d ((gg.toInt64) + (ss.toInt64))))), .second, .val (.int (1 : Int32)), .val (.int (1 : Int32)), .val (.int (1 : Int32)), .val (.int (1 : Int32)), .val (.int (1 : Int32))] [(.int (1 : Int32))])) _
              refine XS.ifNo X20.here hx rfl (hb hby at_310) rfl ((if0 _ _).trans (feq (by decide : ¬ ((1 : Int32) = (0 : Int32)))).1) ?_
              show Steps p.tables e below (T20.setTop (mkF m 313 #[.val (.int p1), .val (.int p2), .val (.int p3), .val (.int p4), .val (.int gg), .val (.int ss), .val (.long ((mn.toInt64) + (1 : Int64))), .second, .val (.int cc), .val (.ref b6), .val (.ref b10), .val (.double (own_f1 gg ss cc)), .second, .val (.double (own_f1 ss gg cc)), .second, .val (.double (FP.ddiv (FP.l2d ((2 : Int64) * (cc.toInt64))) (FP.l2d ((gg.toInt64) + (ss.toInt64))))), .second, .val (.int (1 : Int32)), .val (.int (1 : Int32)), .val (.int (1 : Int32)), .val (.int (1 : Int32)), .val (.int (1 : Int32))] [])) _
              refine XS.iconst X20.here hx rfl (hb hby at_313) ?_
              show Steps p.tables e below (T20.setTop (mkF m 314 #[.val (.int p1), .val (.int p2), .val (.int p3), .val (.int p4), .val (.int gg), .val (.int ss), .val (.long ((mn.toInt64) + (1 : Int64))), .second, .val (.int cc), .val (.ref b6), .val (.ref b10), .val (.double (own_f1 gg ss cc)), .second, .val (.double (own_f1 ss gg cc)), .second, .val (.double (FP.ddiv (FP.l2d ((2 : Int64) * (cc.toInt64))) (FP.l2d ((gg.toInt64) + (ss.toInt64))))), .second, .val (.int (1 : Int32)), .val (.int (1 : Int32)), .val (.int (1 : Int32)), .val (.int (1 : Int32)), .val (.int (1 : Int32))] [(.int (1 : Int32))])) _
              refine XS.goto X20.here hx rfl (pc0 := 314) (pc' := 318) rfl (hb hby at_314) (by decide) (by decide) ?_
              exact kt
            refine Go.adv sg27 ?_
            refine Go.ret (v := (some (.int (1 : Int32)))) X20 (fun h => by rw [Bd.returns] at h; cases h) Bd.notSynchronized (fun fs hr => retN X20 hx (t := .boolean) Bd.returns (by simp) (hb hby at_318) hr) ?_ (by decide) (by decide)
            show Q_rm0 Z p1 p2 p3 p4 h0 n0 (some (.int (1 : Int32))) T20.heap _
            rw [e20]
            exact ⟨rfl, N20⟩
        · rw [if_neg (fun q => hcg q.1)] at k1
          have sg28 : ∀ t, Steps p.tables e below (T20.setTop (mkF m 318 #[.val (.int p1), .val (.int p2), .val (.int p3), .val (.int p4), .val (.int gg), .val (.int ss), .val (.long ((mn.toInt64) + (1 : Int64))), .second, .val (.int cc), .val (.ref b6), .val (.ref b10), .val (.double (own_f1 gg ss cc)), .second, .val (.double (own_f1 ss gg cc)), .second, .val (.double (FP.ddiv (FP.l2d ((2 : Int64) * (cc.toInt64))) (FP.l2d ((gg.toInt64) + (ss.toInt64))))), .second, .val (.int (1 : Int32)), .val (.int (1 : Int32)), .val (.int (1 : Int32)), .val (.int (1 : Int32)), .val (.int (1 : Int32))] [(.int (1 : Int32))])) t → Steps p.tables e below (T20.setTop (mkF m 99 #[.val (.int p1), .val (.int p2), .val (.int p3), .val (.int p4), .val (.int gg), .val (.int ss), .val (.long ((mn.toInt64) + (1 : Int64))), .second, .val (.int cc), .val (.ref b6), .val (.ref b10), .val (.double (own_f1 gg ss cc)), .second, .val (.double (own_f1 ss gg cc)), .second, .unset, .unset, .unset, .unset, .unset, .unset, .unset] [])) t := by
            intro t kt
            show Steps p.tables e below (T20.setTop (mkF m 99 #[.val (.int p1), .val (.int p2), .val (.int p3), .val (.int p4), .val (.int gg), .val (.int ss), .val (.long ((mn.toInt64) + (1 : Int64))), .second, .val (.int cc), .val (.ref b6), .val (.ref b10), .val (.double (own_f1 gg ss cc)), .second, .val (.double (own_f1 ss gg cc)), .second, .unset, .unset, .unset, .unset, .unset, .unset, .unset] [])) _
            refine XS.iload X20.here hx rfl (hb hby at_99) rfl ?_
            show Steps p.tables e below (T20.setTop (mkF m 101 #[.val (.int p1), .val (.int p2), .val (.int p3), .val (.int p4), .val (.int gg), .val (.int ss), .val (.long ((mn.toInt64) + (1 : Int64))), .second, .val (.int cc), .val (.ref b6), .val (.ref b10), .val (.double (own_f1 gg ss cc)), .second, .val (.double (own_f1 ss gg cc)), .second, .unset, .unset, .unset, .unset, .unset, .unset, .unset] [(.int gg)])) _
            refine XS.ifYes X20.here hx rfl (pc0 := 101) (pc' := 115) rfl (hb hby at_101) rfl ((if0 _ _).trans (feq (hg : ¬ (gg = (0 : Int32)))).2) (by decide) (by decide) ?_
            show Steps p.tables e below (T20.setTop (mkF m 115 #[.val (.int p1), .val (.int p2), .val (.int p3), .val (.int p4), .val (.int gg), .val (.int ss), .val (.long ((mn.toInt64) + (1 : Int64))), .second, .val (.int cc), .val (.ref b6), .val (.ref b10), .val (.double (own_f1 gg ss cc)), .second, .val (.double (own_f1 ss gg cc)), .second, .unset, .unset, .unset, .unset, .unset, .unset, .unset] [])) _
            refine XS.iload X20.here hx rfl (hb hby at_115) rfl ?_
            show Steps p.tables e below (T20.setTop (mkF m 117 #[.val (.int p1), .val (.int p2), .val (.int p3), .val (.int p4), .val (.int gg), .val (.int ss), .val (.long ((mn.toInt64) + (1 : Int64))), .second, .val (.int cc), .val (.ref b6), .val (.ref b10), .val (.double (own_f1 gg ss cc)), .second, .val (.double (own_f1 ss gg cc)), .second, .unset, .unset, .unset, .unset, .unset, .unset, .unset] [(.int gg)])) _
            refine XS.ifNo X20.here hx rfl (hb hby at_117) rfl ((if0 _ _).trans (feq (hg : ¬ (gg = (0 : Int32)))).1) ?_
            show Steps p.tables e below (T20.setTop (mkF m 120 #[.val (.int p1), .val (.int p2), .val (.int p3), .val (.int p4), .val (.int gg), .val (.int ss), .val (.long ((mn.toInt64) + (1 : Int64))), .second, .val (.int cc), .val (.ref b6), .val (.ref b10), .val (.double (own_f1 gg ss cc)), .second, .val (.double (own_f1 ss gg cc)), .second, .unset, .unset, .unset, .unset, .unset, .unset, .unset] [])) _
            refine XS.iload X20.here hx rfl (hb hby at_120) rfl ?_
            show Steps p.tables e below (T20.setTop (mkF m 122 #[.val (.int p1), .val (.int p2), .val (.int p3), .val (.int p4), .val (.int gg), .val (.int ss), .val (.long ((mn.toInt64) + (1 : Int64))), .second, .val (.int cc), .val (.ref b6), .val (.ref b10), .val (.double (own_f1 gg ss cc)), .second, .val (.double (own_f1 ss gg cc)), .second, .unset, .unset, .unset, .unset, .unset, .unset, .unset] [(.int ss)])) _
            refine XS.ifYes X20.here hx rfl (pc0 := 122) (pc' := 131) rfl (hb hby at_122) rfl ((if0 _ _).trans (feq (hs : ¬ (ss = (0 : Int32)))).2) (by decide) (by decide) ?_
            show Steps p.tables e below (T20.setTop (mkF m 131 #[.val (.int p1), .val (.int p2), .val (.int p3), .val (.int p4), .val (.int gg), .val (.int ss), .val (.long ((mn.toInt64) + (1 : Int64))), .second, .val (.int cc), .val (.ref b6), .val (.ref b10), .val (.double (own_f1 gg ss cc)), .second, .val (.double (own_f1 ss gg cc)), .second, .unset, .unset, .unset, .unset, .unset, .unset, .unset] [])) _
            refine XS.iload X20.here hx rfl (hb hby at_131) rfl ?_
            show Steps p.tables e below (T20.setTop (mkF m 133 #[.val (.int p1), .val (.int p2), .val (.int p3), .val (.int p4), .val (.int gg), .val (.int ss), .val (.long ((mn.toInt64) + (1 : Int64))), .second, .val (.int cc), .val (.ref b6), .val (.ref b10), .val (.double (own_f1 gg ss cc)), .second, .val (.double (own_f1 ss gg cc)), .second, .unset, .unset, .unset, .unset, .unset, .unset, .unset] [(.int gg)])) _
            refine XS.i2l X20.here hx rfl (hb hby at_133) rfl ?_
            show Steps p.tables e below (T20.setTop (mkF m 134 #[.val (.int p1), .val (.int p2), .val (.int p3), .val (.int p4), .val (.int gg), .val (.int ss), .val (.long ((mn.toInt64) + (1 : Int64))), .second, .val (.int cc), .val (.ref b6), .val (.ref b10), .val (.double (own_f1 gg ss cc)), .second, .val (.double (own_f1 ss gg cc)), .second, .unset, .unset, .unset, .unset, .unset, .unset, .unset] [(.long (gg.toInt64))])) _
            refine XS.iload X20.here hx rfl (hb hby at_134) rfl ?_
            show Steps p.tables e below (T20.setTop (mkF m 136 #[.val (.int p1), .val (.int p2), .val (.int p3), .val (.int p4), .val (.int gg), .val (.int ss), .val (.long ((mn.toInt64) + (1 : Int64))), .second, .val (.int cc), .val (.ref b6), .val (.ref b10), .val (.double (own_f1 gg ss cc)), .second, .val (.double (own_f1 ss gg cc)), .second, .unset, .unset, .unset, .unset, .unset, .unset, .unset] [(.int ss), (.long (gg.toInt64))])) _
            refine XS.i2l X20.here hx rfl (hb hby at_136) rfl ?_
            show Steps p.tables e below (T20.setTop (mkF m 137 #[.val (.int p1), .val (.int p2), .val (.int p3), .val (.int p4), .val (.int gg), .val (.int ss), .val (.long ((mn.toInt64) + (1 : Int64))), .second, .val (.int cc), .val (.ref b6), .val (.ref b10), .val (.double (own_f1 gg ss cc)), .second, .val (.double (own_f1 ss gg cc)), .second, .unset, .unset, .unset, .unset, .unset, .unset, .unset] [(.long (ss.toInt64)), (.long (gg.toInt64))])) _
            refine XS.ladd X20.here hx rfl (hb hby at_137) rfl ?_
            show Steps p.tables e below (T20.setTop (mkF m 138 #[.val (.int p1), .val (.int p2), .val (.int p3), .val (.int p4), .val (.int gg), .val (.int ss), .val (.long ((mn.toInt64) + (1 : Int64))), .second, .val (.int cc), .val (.ref b6), .val (.ref b10), .val (.double (own_f1 gg ss cc)), .second, .val (.double (own_f1 ss gg cc)), .second, .unset, .unset, .unset, .unset, .unset, .unset, .unset] [(.long ((gg.toInt64) + (ss.toInt64)))])) _
            refine XS.lstore X20.here hx rfl (hb hby at_138) rfl (l' := #[.val (.int p1), .val (.int p2), .val (.int p3), .val (.int p4), .val (.int gg), .val (.int ss), .val (.long ((mn.toInt64) + (1 : Int64))), .second, .val (.int cc), .val (.ref b6), .val (.ref b10), .val (.double (own_f1 gg ss cc)), .second, .val (.double (own_f1 ss gg cc)), .second, .unset, .unset, .val (.long ((gg.toInt64) + (ss.toInt64))), .second, .unset, .unset, .unset]) rfl ?_
            show Steps p.tables e below (T20.setTop (mkF m 140 #[.val (.int p1), .val (.int p2), .val (.int p3), .val (.int p4), .val (.int gg), .val (.int ss), .val (.long ((mn.toInt64) + (1 : Int64))), .second, .val (.int cc), .val (.ref b6), .val (.ref b10), .val (.double (own_f1 gg ss cc)), .second, .val (.double (own_f1 ss gg cc)), .second, .unset, .unset, .val (.long ((gg.toInt64) + (ss.toInt64))), .second, .unset, .unset, .unset] [])) _
            refine X20.ldc2Long hx hown (mvT hZ (hw _ (List.mem_of_getElem? (i := 32) rfl))) (g := (mkF m 140 #[.val (.int p1), .val (.int p2), .val (.int p3), .val (.int p4), .val (.int gg), .val (.int ss), .val (.long ((mn.toInt64) + (1 : Int64))), .second, .val (.int cc), .val (.ref b6), .val (.ref b10), .val (.double (own_f1 gg ss cc)), .second, .val (.double (own_f1 ss gg cc)), .second, .unset, .unset, .val (.long ((gg.toInt64) + (ss.toInt64))), .second, .unset, .unset, .unset] [])) rfl (hb hby at_140) _ ?_
            show Steps p.tables e below (T20.setTop (mkF m 143 #[.val (.int p1), .val (.int p2), .val (.int p3), .val (.int p4), .val (.int gg), .val (.int ss), .val (.long ((mn.toInt64) + (1 : Int64))), .second, .val (.int cc), .val (.ref b6), .val (.ref b10), .val (.double (own_f1 gg ss cc)), .second, .val (.double (own_f1 ss gg cc)), .second, .unset, .unset, .val (.long ((gg.toInt64) + (ss.toInt64))), .second, .unset, .unset, .unset] [(.long (2 : Int64))])) _
            refine XS.iload X20.here hx rfl (hb hby at_143) rfl ?_
            show Steps p.tables e below (T20.setTop (mkF m 145 #[.val (.int p1), .val (.int p2), .val (.int p3), .val (.int p4), .val (.int gg), .val (.int ss), .val (.long ((mn.toInt64) + (1 : Int64))), .second, .val (.int cc), .val (.ref b6), .val (.ref b10), .val (.double (own_f1 gg ss cc)), .second, .val (.double (own_f1 ss gg cc)), .second, .unset, .unset, .val (.long ((gg.toInt64) + (ss.toInt64))), .second, .unset, .unset, .unset] [(.int cc), (.long (2 : Int64))])) _
            refine XS.i2l X20.here hx rfl (hb hby at_145) rfl ?_
            show Steps p.tables e below (T20.setTop (mkF m 146 #[.val (.int p1), .val (.int p2), .val (.int p3), .val (.int p4), .val (.int gg), .val (.int ss), .val (.long ((mn.toInt64) + (1 : Int64))), .second, .val (.int cc), .val (.ref b6), .val (.ref b10), .val (.double (own_f1 gg ss cc)), .second, .val (.double (own_f1 ss gg cc)), .second, .unset, .unset, .val (.long ((gg.toInt64) + (ss.toInt64))), .second, .unset, .unset, .unset] [(.long (cc.toInt64)), (.long (2 : Int64))])) _
            refine XS.lmul X20.here hx rfl (hb hby at_146) rfl ?_
            show Steps p.tables e below (T20.setTop (mkF m 147 #[.val (.int p1), .val (.int p2), .val (.int p3), .val (.int p4), .val (.int gg), .val (.int ss), .val (.long ((mn.toInt64) + (1 : Int64))), .second, .val (.int cc), .val (.ref b6), .val (.ref b10), .val (.double (own_f1 gg ss cc)), .second, .val (.double (own_f1 ss gg cc)), .second, .unset, .unset, .val (.long ((gg.toInt64) + (ss.toInt64))), .second, .unset, .unset, .unset] [(.long ((2 : Int64) * (cc.toInt64)))])) _
            refine own_l2d X20.here hx rfl (hb hby at_147) rfl ?_
            show Steps p.tables e below (T20.setTop (mkF m 148 #[.val (.int p1), .val (.int p2), .val (.int p3), .val (.int p4), .val (.int gg), .val (.int ss), .val (.long ((mn.toInt64) + (1 : Int64))), .second, .val (.int cc), .val (.ref b6), .val (.ref b10), .val (.double (own_f1 gg ss cc)), .second, .val (.double (own_f1 ss gg cc)), .second, .unset, .unset, .val (.long ((gg.toInt64) + (ss.toInt64))), .second, .unset, .unset, .unset] [(.double (FP.l2d ((2 : Int64) * (cc.toInt64))))])) _
            refine XS.lload X20.here hx rfl (hb hby at_148) rfl ?_
            show Steps p.tables e below (T20.setTop (mkF m 150 #[.val (.int p1), .val (.int p2), .val (.int p3), .val (.int p4), .val (.int gg), .val (.int ss), .val (.long ((mn.toInt64) + (1 : Int64))), .second, .val (.int cc), .val (.ref b6), .val (.ref b10), .val (.double (own_f1 gg ss cc)), .second, .val (.double (own_f1 ss gg cc)), .second, .unset, .unset, .val (.long ((gg.toInt64) + (ss.toInt64))), .second, .unset, .unset, .unset] [(.long ((gg.toInt64) + (ss.toInt64))), (.double (FP.l2d ((2 : Int64) * (cc.toInt64))))])) _
            refine own_l2d X20.here hx rfl (hb hby at_150) rfl ?_
            show Steps p.tables e below (T20.setTop (mkF m 151 #[.val (.int p1), .val (.int p2), .val (.int p3), .val (.int p4), .val (.int gg), .val (.int ss), .val (.long ((mn.toInt64) + (1 : Int64))), .second, .val (.int cc), .val (.ref b6), .val (.ref b10), .val (.double (own_f1 gg ss cc)), .second, .val (.double (own_f1 ss gg cc)), .second, .unset, .unset, .val (.long ((gg.toInt64) + (ss.toInt64))), .second, .unset, .unset, .unset] [(.double (FP.l2d ((gg.toInt64) + (ss.toInt64)))), (.double (FP.l2d ((2 : Int64) * (cc.toInt64))))])) _
            refine own_ddiv X20.here hx rfl (hb hby at_151) rfl k6 ?_
            show Steps p.tables e below (T20.setTop (mkF m 152 #[.val (.int p1), .val (.int p2), .val (.int p3), .val (.int p4), .val (.int gg), .val (.int ss), .val (.long ((mn.toInt64) + (1 : Int64))), .second, .val (.int cc), .val (.ref b6), .val (.ref b10), .val (.double (own_f1 gg ss cc)), .second, .val (.double (own_f1 ss gg cc)), .second, .unset, .unset, .val (.long ((gg.toInt64) + (ss.toInt64))), .second, .unset, .unset, .unset] [(.double (FP.ddiv (FP.l2d ((2 : Int64) * (cc.toInt64))) (FP.l2d ((gg.toInt64) + (ss.toInt64)))))])) _
            refine own_dstore X20.here hx rfl (hb hby at_152) rfl (l' := #[.val (.int p1), .val (.int p2), .val (.int p3), .val (.int p4), .val (.int gg), .val (.int ss), .val (.long ((mn.toInt64) + (1 : Int64))), .second, .val (.int cc), .val (.ref b6), .val (.ref b10), .val (.double (own_f1 gg ss cc)), .second, .val (.double (own_f1 ss gg cc)), .second, .val (.double (FP.ddiv (FP.l2d ((2 : Int64) * (cc.toInt64))) (FP.l2d ((gg.toInt64) + (ss.toInt64))))), .second, .val (.long ((gg.toInt64) + (ss.toInt64))), .second, .unset, .unset, .unset]) rfl ?_
            show Steps p.tables e below (T20.setTop (mkF m 154 #[.val (.int p1), .val (.int p2), .val (.int p3), .val (.int p4), .val (.int gg), .val (.int ss), .val (.long ((mn.toInt64) + (1 : Int64))), .second, .val (.int cc), .val (.ref b6), .val (.ref b10), .val (.double (own_f1 gg ss cc)), .second, .val (.double (own_f1 ss gg cc)), .second, .val (.double (FP.ddiv (FP.l2d ((2 : Int64) * (cc.toInt64))) (FP.l2d ((gg.toInt64) + (ss.toInt64))))), .second, .val (.long ((gg.toInt64) + (ss.toInt64))), .second, .unset, .unset, .unset] [])) _
            refine own_dload X20.here hx rfl (hb hby at_154) rfl ?_
            show Steps p.tables e below (T20.setTop (mkF m 156 #[.val (.int p1), .val (.int p2), .val (.int p3), .val (.int p4), .val (.int gg), .val (.int ss), .val (.long ((mn.toInt64) + (1 : Int64))), .second, .val (.int cc), .val (.ref b6), .val (.ref b10), .val (.double (own_f1 gg ss cc)), .second, .val (.double (own_f1 ss gg cc)), .second, .val (.double (FP.ddiv (FP.l2d ((2 : Int64) * (cc.toInt64))) (FP.l2d ((gg.toInt64) + (ss.toInt64))))), .second, .val (.long ((gg.toInt64) + (ss.toInt64))), .second, .unset, .unset, .unset] [(.double (own_f1 gg ss cc))])) _
            refine own_dload X20.here hx rfl (hb hby at_156) rfl ?_
            show Steps p.tables e below (T20.setTop (mkF m 158 #[.val (.int p1), .val (.int p2), .val (.int p3), .val (.int p4), .val (.int gg), .val (.int ss), .val (.long ((mn.toInt64) + (1 : Int64))), .second, .val (.int cc), .val (.ref b6), .val (.ref b10), .val (.double (own_f1 gg ss cc)), .second, .val (.double (own_f1 ss gg cc)), .second, .val (.double (FP.ddiv (FP.l2d ((2 : Int64) * (cc.toInt64))) (FP.l2d ((gg.toInt64) + (ss.toInt64))))), .second, .val (.long ((gg.toInt64) + (ss.toInt64))), .second, .unset, .unset, .unset] [(.double (FP.ddiv (FP.l2d ((2 : Int64) * (cc.toInt64))) (FP.l2d ((gg.toInt64) + (ss.toInt64))))), (.double (own_f1 gg ss cc))])) _
            refine own_dcmp X20.here hx rfl (hb hby at_158) rfl ?_
            show Steps p.tables e below (T20.setTop (mkF m 159 #[.val (.int p1), .val (.int p2), .val (.int p3), .val (.int p4), .val (.int gg), .val (.int ss), .val (.long ((mn.toInt64) + (1 : Int64))), .second, .val (.int cc), .val (.ref b6), .val (.ref b10), .val (.double (own_f1 gg ss cc)), .second, .val (.double (own_f1 ss gg cc)), .second, .val (.double (FP.ddiv (FP.l2d ((2 : Int64) * (cc.toInt64))) (FP.l2d ((gg.toInt64) + (ss.toInt64))))), .second, .val (.long ((gg.toInt64) + (ss.toInt64))), .second, .unset, .unset, .unset] [(.int (cmpValue (FP.dcmp (own_f1 gg ss cc) (FP.ddiv (FP.l2d ((2 : Int64) * (cc.toInt64))) (FP.l2d ((gg.toInt64) + (ss.toInt64))))) .l))])) _
            refine XS.ifNo X20.here hx rfl (hb hby at_159) rfl ((if0 _ _).trans (teq ((by rw [Own.cv_eq k5] <;> decide) : (cmpValue (FP.dcmp (own_f1 gg ss cc) (FP.ddiv (FP.l2d ((2 : Int64) * (cc.toInt64))) (FP.l2d ((gg.toInt64) + (ss.toInt64))))) .l) = (0 : Int32))).2) ?_
            show Steps p.tables e below (T20.setTop (mkF m 162 #[.val (.int p1), .val (.int p2), .val (.int p3), .val (.int p4), .val (.int gg), .val (.int ss), .val (.long ((mn.toInt64) + (1 : Int64))), .second, .val (.int cc), .val (.ref b6), .val (.ref b10), .val (.double (own_f1 gg ss cc)), .second, .val (.double (own_f1 ss gg cc)), .second, .val (.double (FP.ddiv (FP.l2d ((2 : Int64) * (cc.toInt64))) (FP.l2d ((gg.toInt64) + (ss.toInt64))))), .second, .val (.long ((gg.toInt64) + (ss.toInt64))), .second, .unset, .unset, .unset] [])) _
            refine XS.iconst X20.here hx rfl (hb hby at_162) ?_
            show Steps p.tables e below (T20.setTop (mkF m 163 #[.val (.int p1), .val (.int p2), .val (.int p3), .val (.int p4), .val (.int gg), .val (.int ss), .val (.long ((mn.toInt64) + (1 : Int64))), .second, .val (.int cc), .val (.ref b6), .val (.ref b10), .val (.double (own_f1 gg ss cc)), .second, .val (.double (own_f1 ss gg cc)), .second, .val (.double (FP.ddiv (FP.l2d ((2 : Int64) * (cc.toInt64))) (FP.l2d ((gg.toInt64) + (ss.toInt64))))), .second, .val (.long ((gg.toInt64) + (ss.toInt64))), .second, .unset, .unset, .unset] [(.int (1 : Int32))])) _
            refine XS.goto X20.here hx rfl (pc0 := 163) (pc' := 167) rfl (hb hby at_163) (by decide) (by decide) ?_
            show Steps p.tables e below (T20.setTop (mkF m 167 #[.val (.int p1), .val (.int p2), .val (.int p3), .val (.int p4), .val (.int gg), .val (.int ss), .val (.long ((mn.toInt64) + (1 : Int64))), .second, .val (.int cc), .val (.ref b6), .val (.ref b10), .val (.double (own_f1 gg ss cc)), .second, .val (.double (own_f1 ss gg cc)), .second, .val (.double (FP.ddiv (FP.l2d ((2 : Int64) * (cc.toInt64))) (FP.l2d ((gg.toInt64) + (ss.toInt64))))), .second, .val (.long ((gg.toInt64) + (ss.toInt64))), .second, .unset, .unset, .unset] [(.int (1 : Int32))])) _
            refine XS.istore X20.here hx rfl (hb hby at_167) rfl (l' := #[.val (.int p1), .val (.int p2), .val (.int p3), .val (.int p4), .val (.int gg), .val (.int ss), .val (.long ((mn.toInt64) + (1 : Int64))), .second, .val (.int cc), .val (.ref b6), .val (.ref b10), .val (.double (own_f1 gg ss cc)), .second, .val (.double (own_f1 ss gg cc)), .second, .val (.double (FP.ddiv (FP.l2d ((2 : Int64) * (cc.toInt64))) (FP.l2d ((gg.toInt64) + (ss.toInt64))))), .second, .val (.int (1 : Int32)), .unset, .unset, .unset, .unset]) rfl ?_
            show Steps p.tables e below (T20.setTop (mkF m 169 #[.val (.int p1), .val (.int p2), .val (.int p3), .val (.int p4), .val (.int gg), .val (.int ss), .val (.long ((mn.toInt64) + (1 : Int64))), .second, .val (.int cc), .val (.ref b6), .val (.ref b10), .val (.double (own_f1 gg ss cc)), .second, .val (.double (own_f1 ss gg cc)), .second, .val (.double (FP.ddiv (FP.l2d ((2 : Int64) * (cc.toInt64))) (FP.l2d ((gg.toInt64) + (ss.toInt64))))), .second, .val (.int (1 : Int32)), .unset, .unset, .unset, .unset] [])) _
            refine own_dload X20.here hx rfl (hb hby at_169) rfl ?_
            show Steps p.tables e below (T20.setTop (mkF m 171 #[.val (.int p1), .val (.int p2), .val (.int p3), .val (.int p4), .val (.int gg), .val (.int ss), .val (.long ((mn.toInt64) + (1 : Int64))), .second, .val (.int cc), .val (.ref b6), .val (.ref b10), .val (.double (own_f1 gg ss cc)), .second, .val (.double (own_f1 ss gg cc)), .second, .val (.double (FP.ddiv (FP.l2d ((2 : Int64) * (cc.toInt64))) (FP.l2d ((gg.toInt64) + (ss.toInt64))))), .second, .val (.int (1 : Int32)), .unset, .unset, .unset, .unset] [(.double (own_f1 gg ss cc))])) _
            refine own_dload X20.here hx rfl (hb hby at_171) rfl ?_
            show Steps p.tables e below (T20.setTop (mkF m 173 #[.val (.int p1), .val (.int p2), .val (.int p3), .val (.int p4), .val (.int gg), .val (.int ss), .val (.long ((mn.toInt64) + (1 : Int64))), .second, .val (.int cc), .val (.ref b6), .val (.ref b10), .val (.double (own_f1 gg ss cc)), .second, .val (.double (own_f1 ss gg cc)), .second, .val (.double (FP.ddiv (FP.l2d ((2 : Int64) * (cc.toInt64))) (FP.l2d ((gg.toInt64) + (ss.toInt64))))), .second, .val (.int (1 : Int32)), .unset, .unset, .unset, .unset] [(.double (own_f1 ss gg cc)), (.double (own_f1 gg ss cc))])) _
            refine own_dcmp X20.here hx rfl (hb hby at_173) rfl ?_
            show Steps p.tables e below (T20.setTop (mkF m 174 #[.val (.int p1), .val (.int p2), .val (.int p3), .val (.int p4), .val (.int gg), .val (.int ss), .val (.long ((mn.toInt64) + (1 : Int64))), .second, .val (.int cc), .val (.ref b6), .val (.ref b10), .val (.double (own_f1 gg ss cc)), .second, .val (.double (own_f1 ss gg cc)), .second, .val (.double (FP.ddiv (FP.l2d ((2 : Int64) * (cc.toInt64))) (FP.l2d ((gg.toInt64) + (ss.toInt64))))), .second, .val (.int (1 : Int32)), .unset, .unset, .unset, .unset] [(.int (cmpValue (FP.dcmp (own_f1 gg ss cc) (own_f1 ss gg cc)) .l))])) _
            refine XS.ifNo X20.here hx rfl (hb hby at_174) rfl ((if0 _ _).trans (teq ((by rw [Own.cv_eq k2] <;> decide) : (cmpValue (FP.dcmp (own_f1 gg ss cc) (own_f1 ss gg cc)) .l) = (0 : Int32))).2) ?_
            show Steps p.tables e below (T20.setTop (mkF m 177 #[.val (.int p1), .val (.int p2), .val (.int p3), .val (.int p4), .val (.int gg), .val (.int ss), .val (.long ((mn.toInt64) + (1 : Int64))), .second, .val (.int cc), .val (.ref b6), .val (.ref b10), .val (.double (own_f1 gg ss cc)), .second, .val (.double (own_f1 ss gg cc)), .second, .val (.double (FP.ddiv (FP.l2d ((2 : Int64) * (cc.toInt64))) (FP.l2d ((gg.toInt64) + (ss.toInt64))))), .second, .val (.int (1 : Int32)), .unset, .unset, .unset, .unset] [])) _
            refine XS.iconst X20.here hx rfl (hb hby at_177) ?_
            show Steps p.tables e below (T20.setTop (mkF m 178 #[.val (.int p1), .val (.int p2), .val (.int p3), .val (.int p4), .val (.int gg), .val (.int ss), .val (.long ((mn.toInt64) + (1 : Int64))), .second, .val (.int cc), .val (.ref b6), .val (.ref b10), .val (.double (own_f1 gg ss cc)), .second, .val (.double (own_f1 ss gg cc)), .second, .val (.double (FP.ddiv (FP.l2d ((2 : Int64) * (cc.toInt64))) (FP.l2d ((gg.toInt64) + (ss.toInt64))))), .second, .val (.int (1 : Int32)), .unset, .unset, .unset, .unset] [(.int (1 : Int32))])) _
            refine XS.goto X20.here hx rfl (pc0 := 178) (pc' := 182) rfl (hb hby at_178) (by decide) (by decide) ?_
            show Steps p.tables e below (T20.setTop (mkF m 182 #[.val (.int p1), .val (.int p2), .val (.int p3), .val (.int p4), .val (.int gg), .val (.int ss), .val (.long ((mn.toInt64) + (1 : Int64))), .second, .val (.int cc), .val (.ref b6), .val (.ref b10), .val (.double (own_f1 gg ss cc)), .second, .val (.double (own_f1 ss gg cc)), .second, .val (.double (FP.ddiv (FP.l2d ((2 : Int64) * (cc.toInt64))) (FP.l2d ((gg.toInt64) + (ss.toInt64))))), .second, .val (.int (1 : Int32)), .unset, .unset, .unset, .unset] [(.int (1 : Int32))])) _
            refine XS.istore X20.here hx rfl (hb hby at_182) rfl (l' := #[.val (.int p1), .val (.int p2), .val (.int p3), .val (.int p4), .val (.int gg), .val (.int ss), .val (.long ((mn.toInt64) + (1 : Int64))), .second, .val (.int cc), .val (.ref b6), .val (.ref b10), .val (.double (own_f1 gg ss cc)), .second, .val (.double (own_f1 ss gg cc)), .second, .val (.double (FP.ddiv (FP.l2d ((2 : Int64) * (cc.toInt64))) (FP.l2d ((gg.toInt64) + (ss.toInt64))))), .second, .val (.int (1 : Int32)), .val (.int (1 : Int32)), .unset, .unset, .unset]) rfl ?_
            show Steps p.tables e below (T20.setTop (mkF m 184 #[.val (.int p1), .val (.int p2), .val (.int p3), .val (.int p4), .val (.int gg), .val (.int ss), .val (.long ((mn.toInt64) + (1 : Int64))), .second, .val (.int cc), .val (.ref b6), .val (.ref b10), .val (.double (own_f1 gg ss cc)), .second, .val (.double (own_f1 ss gg cc)), .second, .val (.double (FP.ddiv (FP.l2d ((2 : Int64) * (cc.toInt64))) (FP.l2d ((gg.toInt64) + (ss.toInt64))))), .second, .val (.int (1 : Int32)), .val (.int (1 : Int32)), .unset, .unset, .unset] [])) _
            refine own_dconst0 X20.here hx rfl (hb hby at_184) ?_
            show Steps p.tables e below (T20.setTop (mkF m 185 #[.val (.int p1), .val (.int p2), .val (.int p3), .val (.int p4), .val (.int gg), .val (.int ss), .val (.long ((mn.toInt64) + (1 : Int64))), .second, .val (.int cc), .val (.ref b6), .val (.ref b10), .val (.double (own_f1 gg ss cc)), .second, .val (.double (own_f1 ss gg cc)), .second, .val (.double (FP.ddiv (FP.l2d ((2 : Int64) * (cc.toInt64))) (FP.l2d ((gg.toInt64) + (ss.toInt64))))), .second, .val (.int (1 : Int32)), .val (.int (1 : Int32)), .unset, .unset, .unset] [(.double (0 : UInt64))])) _
            refine own_dload X20.here hx rfl (hb hby at_185) rfl ?_
            show Steps p.tables e below (T20.setTop (mkF m 187 #[.val (.int p1), .val (.int p2), .val (.int p3), .val (.int p4), .val (.int gg), .val (.int ss), .val (.long ((mn.toInt64) + (1 : Int64))), .second, .val (.int cc), .val (.ref b6), .val (.ref b10), .val (.double (own_f1 gg ss cc)), .second, .val (.double (own_f1 ss gg cc)), .second, .val (.double (FP.ddiv (FP.l2d ((2 : Int64) * (cc.toInt64))) (FP.l2d ((gg.toInt64) + (ss.toInt64))))), .second, .val (.int (1 : Int32)), .val (.int (1 : Int32)), .unset, .unset, .unset] [(.double (own_f1 gg ss cc)), (.double (0 : UInt64))])) _
            refine own_dcmp X20.here hx rfl (hb hby at_187) rfl ?_
            show Steps p.tables e below (T20.setTop (mkF m 188 #[.val (.int p1), .val (.int p2), .val (.int p3), .val (.int p4), .val (.int gg), .val (.int ss), .val (.long ((mn.toInt64) + (1 : Int64))), .second, .val (.int cc), .val (.ref b6), .val (.ref b10), .val (.double (own_f1 gg ss cc)), .second, .val (.double (own_f1 ss gg cc)), .second, .val (.double (FP.ddiv (FP.l2d ((2 : Int64) * (cc.toInt64))) (FP.l2d ((gg.toInt64) + (ss.toInt64))))), .second, .val (.int (1 : Int32)), .val (.int (1 : Int32)), .unset, .unset, .unset] [(.int (cmpValue (FP.dcmp (0 : UInt64) (own_f1 gg ss cc)) .g))])) _
            refine XS.ifNo X20.here hx rfl (hb hby at_188) rfl ((if0 _ _).trans (flt ((by rw [Own.cv_lt k3] <;> decide) : ¬ ((0 : Int32) < (cmpValue (FP.dcmp (0 : UInt64) (own_f1 gg ss cc)) .g)))).2.2.1) ?_
            show Steps p.tables e below (T20.setTop (mkF m 191 #[.val (.int p1), .val (.int p2), .val (.int p3), .val (.int p4), .val (.int gg), .val (.int ss), .val (.long ((mn.toInt64) + (1 : Int64))), .second, .val (.int cc), .val (.ref b6), .val (.ref b10), .val (.double (own_f1 gg ss cc)), .second, .val (.double (own_f1 ss gg cc)), .second, .val (.double (FP.ddiv (FP.l2d ((2 : Int64) * (cc.toInt64))) (FP.l2d ((gg.toInt64) + (ss.toInt64))))), .second, .val (.int (1 : Int32)), .val (.int (1 : Int32)), .unset, .unset, .unset] [])) _
            refine own_dload X20.here hx rfl (hb hby at_191) rfl ?_
            show Steps p.tables e below (T20.setTop (mkF m 193 #[.val (.int p1), .val (.int p2), .val (.int p3), .val (.int p4), .val (.int gg), .val (.int ss), .val (.long ((mn.toInt64) + (1 : Int64))), .second, .val (.int cc), .val (.ref b6), .val (.ref b10), .val (.double (own_f1 gg ss cc)), .second, .val (.double (own_f1 ss gg cc)), .second, .val (.double (FP.ddiv (FP.l2d ((2 : Int64) * (cc.toInt64))) (FP.l2d ((gg.toInt64) + (ss.toInt64))))), .second, .val (.int (1 : Int32)), .val (.int (1 : Int32)), .unset, .unset, .unset] [(.double (own_f1 gg ss cc))])) _
            refine own_dconst1 X20.here hx rfl (hb hby at_193) ?_
            show Steps p.tables e below (T20.setTop (mkF m 194 #[.val (.int p1), .val (.int p2), .val (.int p3), .val (.int p4), .val (.int gg), .val (.int ss), .val (.long ((mn.toInt64) + (1 : Int64))), .second, .val (.int cc), .val (.ref b6), .val (.ref b10), .val (.double (own_f1 gg ss cc)), .second, .val (.double (own_f1 ss gg cc)), .second, .val (.double (FP.ddiv (FP.l2d ((2 : Int64) * (cc.toInt64))) (FP.l2d ((gg.toInt64) + (ss.toInt64))))), .second, .val (.int (1 : Int32)), .val (.int (1 : Int32)), .unset, .unset, .unset] [(.double (4607182418800017408 : UInt64)), (.double (own_f1 gg ss cc))])) _
            refine own_dcmp X20.here hx rfl (hb hby at_194) rfl ?_
            show Steps p.tables e below (T20.setTop (mkF m 195 #[.val (.int p1), .val (.int p2), .val (.int p3), .val (.int p4), .val (.int gg), .val (.int ss), .val (.long ((mn.toInt64) + (1 : Int64))), .second, .val (.int cc), .val (.ref b6), .val (.ref b10), .val (.double (own_f1 gg ss cc)), .second, .val (.double (own_f1 ss gg cc)), .second, .val (.double (FP.ddiv (FP.l2d ((2 : Int64) * (cc.toInt64))) (FP.l2d ((gg.toInt64) + (ss.toInt64))))), .second, .val (.int (1 : Int32)), .val (.int (1 : Int32)), .unset, .unset, .unset] [(.int (cmpValue (FP.dcmp (own_f1 gg ss cc) (4607182418800017408 : UInt64)) .g))])) _
            refine XS.ifNo X20.here hx rfl (hb hby at_195) rfl ((if0 _ _).trans (flt ((by rw [Own.cv_lt k1] <;> decide) : ¬ ((0 : Int32) < (cmpValue (FP.dcmp (own_f1 gg ss cc) (4607182418800017408 : UInt64)) .g)))).2.2.1) ?_
            show Steps p.tables e below (T20.setTop (mkF m 198 #[.val (.int p1), .val (.int p2), .val (.int p3), .val (.int p4), .val (.int gg), .val (.int ss), .val (.long ((mn.toInt64) + (1 : Int64))), .second, .val (.int cc), .val (.ref b6), .val (.ref b10), .val (.double (own_f1 gg ss cc)), .second, .val (.double (own_f1 ss gg cc)), .second, .val (.double (FP.ddiv (FP.l2d ((2 : Int64) * (cc.toInt64))) (FP.l2d ((gg.toInt64) + (ss.toInt64))))), .second, .val (.int (1 : Int32)), .val (.int (1 : Int32)), .unset, .unset, .unset] [])) _
            refine XS.iconst X20.here hx rfl (hb hby at_198) ?_
            show Steps p.tables e below (T20.setTop (mkF m 199 #[.val (.int p1), .val (.int p2), .val (.int p3), .val (.int p4), .val (.int gg), .val (.int ss), .val (.long ((mn.toInt64) + (1 : Int64))), .second, .val (.int cc), .val (.ref b6), .val (.ref b10), .val (.double (own_f1 gg ss cc)), .second, .val (.double (own_f1 ss gg cc)), .second, .val (.double (FP.ddiv (FP.l2d ((2 : Int64) * (cc.toInt64))) (FP.l2d ((gg.toInt64) + (ss.toInt64))))), .second, .val (.int (1 : Int32)), .val (.int (1 : Int32)), .unset, .unset, .unset] [(.int (1 : Int32))])) _
            refine XS.goto X20.here hx rfl (pc0 := 199) (pc' := 203) rfl (hb hby at_199) (by decide) (by decide) ?_
            show Steps p.tables e below (T20.setTop (mkF m 203 #[.val (.int p1), .val (.int p2), .val (.int p3), .val (.int p4), .val (.int gg), .val (.int ss), .val (.long ((mn.toInt64) + (1 : Int64))), .second, .val (.int cc), .val (.ref b6), .val (.ref b10), .val (.double (own_f1 gg ss cc)), .second, .val (.double (own_f1 ss gg cc)), .second, .val (.double (FP.ddiv (FP.l2d ((2 : Int64) * (cc.toInt64))) (FP.l2d ((gg.toInt64) + (ss.toInt64))))), .second, .val (.int (1 : Int32)), .val (.int (1 : Int32)), .unset, .unset, .unset] [(.int (1 : Int32))])) _
            refine XS.istore X20.here hx rfl (hb hby at_203) rfl (l' := #[.val (.int p1), .val (.int p2), .val (.int p3), .val (.int p4), .val (.int gg), .val (.int ss), .val (.long ((mn.toInt64) + (1 : Int64))), .second, .val (.int cc), .val (.ref b6), .val (.ref b10), .val (.double (own_f1 gg ss cc)), .second, .val (.double (own_f1 ss gg cc)), .second, .val (.double (FP.ddiv (FP.l2d ((2 : Int64) * (cc.toInt64))) (FP.l2d ((gg.toInt64) + (ss.toInt64))))), .second, .val (.int (1 : Int32)), .val (.int (1 : Int32)), .val (.int (1 : Int32)), .unset, .unset]) rfl ?_
            show Steps p.tables e below (T20.setTop (mkF m 205 #[.val (.int p1), .val (.int p2), .val (.int p3), .val (.int p4), .val (.int gg), .val (.int ss), .val (.long ((mn.toInt64) + (1 : Int64))), .second, .val (.int cc), .val (.ref b6), .val (.ref b10), .val (.double (own_f1 gg ss cc)), .second, .val (.double (own_f1 ss gg cc)), .second, .val (.double (FP.ddiv (FP.l2d ((2 : Int64) * (cc.toInt64))) (FP.l2d ((gg.toInt64) + (ss.toInt64))))), .second, .val (.int (1 : Int32)), .val (.int (1 : Int32)), .val (.int (1 : Int32)), .unset, .unset] [])) _
            refine own_dload X20.here hx rfl (hb hby at_205) rfl ?_
            show Steps p.tables e below (T20.setTop (mkF m 207 #[.val (.int p1), .val (.int p2), .val (.int p3), .val (.int p4), .val (.int gg), .val (.int ss), .val (.long ((mn.toInt64) + (1 : Int64))), .second, .val (.int cc), .val (.ref b6), .val (.ref b10), .val (.double (own_f1 gg ss cc)), .second, .val (.double (own_f1 ss gg cc)), .second, .val (.double (FP.ddiv (FP.l2d ((2 : Int64) * (cc.toInt64))) (FP.l2d ((gg.toInt64) + (ss.toInt64))))), .second, .val (.int (1 : Int32)), .val (.int (1 : Int32)), .val (.int (1 : Int32)), .unset, .unset] [(.double (own_f1 gg ss cc))])) _
            refine own_dconst1 X20.here hx rfl (hb hby at_207) ?_
            show Steps p.tables e below (T20.setTop (mkF m 208 #[.val (.int p1), .val (.int p2), .val (.int p3), .val (.int p4), .val (.int gg), .val (.int ss), .val (.long ((mn.toInt64) + (1 : Int64))), .second, .val (.int cc), .val (.ref b6), .val (.ref b10), .val (.double (own_f1 gg ss cc)), .second, .val (.double (own_f1 ss gg cc)), .second, .val (.double (FP.ddiv (FP.l2d ((2 : Int64) * (cc.toInt64))) (FP.l2d ((gg.toInt64) + (ss.toInt64))))), .second, .val (.int (1 : Int32)), .val (.int (1 : Int32)), .val (.int (1 : Int32)), .unset, .unset] [(.double (4607182418800017408 : UInt64)), (.double (own_f1 gg ss cc))])) _
            refine own_dcmp X20.here hx rfl (hb hby at_208) rfl ?_
            show Steps p.tables e below (T20.setTop (mkF m 209 #[.val (.int p1), .val (.int p2), .val (.int p3), .val (.int p4), .val (.int gg), .val (.int ss), .val (.long ((mn.toInt64) + (1 : Int64))), .second, .val (.int cc), .val (.ref b6), .val (.ref b10), .val (.double (own_f1 gg ss cc)), .second, .val (.double (own_f1 ss gg cc)), .second, .val (.double (FP.ddiv (FP.l2d ((2 : Int64) * (cc.toInt64))) (FP.l2d ((gg.toInt64) + (ss.toInt64))))), .second, .val (.int (1 : Int32)), .val (.int (1 : Int32)), .val (.int (1 : Int32)), .unset, .unset] [(.int (cmpValue (FP.dcmp (own_f1 gg ss cc) (4607182418800017408 : UInt64)) .l))])) _
            refine XS.ifYes X20.here hx rfl (pc0 := 209) (pc' := 216) rfl (hb hby at_209) rfl ((if0 _ _).trans (feq ((by rw [Own.cv_lt k1] <;> decide) : ¬ ((cmpValue (FP.dcmp (own_f1 gg ss cc) (4607182418800017408 : UInt64)) .l) = (0 : Int32)))).2) (by decide) (by decide) ?_
            show Steps p.tables e below (T20.setTop (mkF m 216 #[.val (.int p1), .val (.int p2), .val (.int p3), .val (.int p4), .val (.int gg), .val (.int ss), .val (.long ((mn.toInt64) + (1 : Int64))), .second, .val (.int cc), .val (.ref b6), .val (.ref b10), .val (.double (own_f1 gg ss cc)), .second, .val (.double (own_f1 ss gg cc)), .second, .val (.double (FP.ddiv (FP.l2d ((2 : Int64) * (cc.toInt64))) (FP.l2d ((gg.toInt64) + (ss.toInt64))))), .second, .val (.int (1 : Int32)), .val (.int (1 : Int32)), .val (.int (1 : Int32)), .unset, .unset] [])) _
            refine XS.iconst X20.here hx rfl (hb hby at_216) ?_
            show Steps p.tables e below (T20.setTop (mkF m 217 #[.val (.int p1), .val (.int p2), .val (.int p3), .val (.int p4), .val (.int gg), .val (.int ss), .val (.long ((mn.toInt64) + (1 : Int64))), .second, .val (.int cc), .val (.ref b6), .val (.ref b10), .val (.double (own_f1 gg ss cc)), .second, .val (.double (own_f1 ss gg cc)), .second, .val (.double (FP.ddiv (FP.l2d ((2 : Int64) * (cc.toInt64))) (FP.l2d ((gg.toInt64) + (ss.toInt64))))), .second, .val (.int (1 : Int32)), .val (.int (1 : Int32)), .val (.int (1 : Int32)), .unset, .unset] [(.int (0 : Int32))])) _
            refine XS.iload X20.here hx rfl (hb hby at_217) rfl ?_
            show Steps p.tables e below (T20.setTop (mkF m 219 #[.val (.int p1), .val (.int p2), .val (.int p3), .val (.int p4), .val (.int gg), .val (.int ss), .val (.long ((mn.toInt64) + (1 : Int64))), .second, .val (.int cc), .val (.ref b6), .val (.ref b10), .val (.double (own_f1 gg ss cc)), .second, .val (.double (own_f1 ss gg cc)), .second, .val (.double (FP.ddiv (FP.l2d ((2 : Int64) * (cc.toInt64))) (FP.l2d ((gg.toInt64) + (ss.toInt64))))), .second, .val (.int (1 : Int32)), .val (.int (1 : Int32)), .val (.int (1 : Int32)), .unset, .unset] [(.int cc), (.int (0 : Int32))])) _
            refine XS.iload X20.here hx rfl (hb hby at_219) rfl ?_
            show Steps p.tables e below (T20.setTop (mkF m 221 #[.val (.int p1), .val (.int p2), .val (.int p3), .val (.int p4), .val (.int gg), .val (.int ss), .val (.long ((mn.toInt64) + (1 : Int64))), .second, .val (.int cc), .val (.ref b6), .val (.ref b10), .val (.double (own_f1 gg ss cc)), .second, .val (.double (own_f1 ss gg cc)), .second, .val (.double (FP.ddiv (FP.l2d ((2 : Int64) * (cc.toInt64))) (FP.l2d ((gg.toInt64) + (ss.toInt64))))), .second, .val (.int (1 : Int32)), .val (.int (1 : Int32)), .val (.int (1 : Int32)), .unset, .unset] [(.int gg), (.int cc), (.int (0 : Int32))])) _
            refine XS.icmpYes X20.here hx rfl (pc0 := 221) (pc' := 235) rfl (hb hby at_221) rfl (feq (hcg : ¬ (cc = gg))).2 (by decide) (by decide) ?_
            show Steps p.tables e below (T20.setTop (mkF m 235 #[.val (.int p1), .val (.int p2), .val (.int p3), .val (.int p4), .val (.int gg), .val (.int ss), .val (.long ((mn.toInt64) + (1 : Int64))), .second, .val (.int cc), .val (.ref b6), .val (.ref b10), .val (.double (own_f1 gg ss cc)), .second, .val (.double (own_f1 ss gg cc)), .second, .val (.double (FP.ddiv (FP.l2d ((2 : Int64) * (cc.toInt64))) (FP.l2d ((gg.toInt64) + (ss.toInt64))))), .second, .val (.int (1 : Int32)), .val (.int (1 : Int32)), .val (.int (1 : Int32)), .unset, .unset] [(.int (0 : Int32))])) _
            refine XS.iconst X20.here hx rfl (hb hby at_235) ?_
            show Steps p.tables e below (T20.setTop (mkF m 236 #[.val (.int p1), .val (.int p2), .val (.int p3), .val (.int p4), .val (.int gg), .val (.int ss), .val (.long ((mn.toInt64) + (1 : Int64))), .second, .val (.int cc), .val (.ref b6), .val (.ref b10), .val (.double (own_f1 gg ss cc)), .second, .val (.double (own_f1 ss gg cc)), .second, .val (.double (FP.ddiv (FP.l2d ((2 : Int64) * (cc.toInt64))) (FP.l2d ((gg.toInt64) + (ss.toInt64))))), .second, .val (.int (1 : Int32)), .val (.int (1 : Int32)), .val (.int (1 : Int32)), .unset, .unset] [(.int (0 : Int32)), (.int (0 : Int32))])) _
            refine XS.icmpNo X20.here hx rfl (hb hby at_236) rfl (teq (by decide : (0 : Int32) = (0 : Int32))).2 ?_
            show Steps p.tables e below (T20.setTop (mkF m 239 #[.val (.int p1), .val (.int p2), .val (.int p3), .val (.int p4), .val (.int gg), .val (.int ss), .val (.long ((mn.toInt64) + (1 : Int64))), .second, .val (.int cc), .val (.ref b6), .val (.ref b10), .val (.double (own_f1 gg ss cc)), .second, .val (.double (own_f1 ss gg cc)), .second, .val (.double (FP.ddiv (FP.l2d ((2 : Int64) * (cc.toInt64))) (FP.l2d ((gg.toInt64) + (ss.toInt64))))), .second, .val (.int (1 : Int32)), .val (.int (1 : Int32)), .val (.int (1 : Int32)), .unset, .unset] [])) _
            refine XS.iconst X20.here hx rfl (hb hby at_239) ?_
            show Steps p.tables e below (T20.setTop (mkF m 240 #[.val (.int p1), .val (.int p2), .val (.int p3), .val (.int p4), .val (.int gg), .val (.int ss), .val (.long ((mn.toInt64) + (1 : Int64))), .second, .val (.int cc), .val (.ref b6), .val (.ref b10), .val (.double (own_f1 gg ss cc)), .second, .val (.double (own_f1 ss gg cc)), .second, .val (.double (FP.ddiv (FP.l2d ((2 : Int64) * (cc.toInt64))) (FP.l2d ((gg.toInt64) + (ss.toInt64))))), .second, .val (.int (1 : Int32)), .val (.int (1 : Int32)), .val (.int (1 : Int32)), .unset, .unset] [(.int (1 : Int32))])) _
            refine XS.goto X20.here hx rfl (pc0 := 240) (pc' := 244) rfl (hb hby at_240) (by decide) (by decide) ?_
            show Steps p.tables e below (T20.setTop (mkF m 244 #[.val (.int p1), .val (.int p2), .val (.int p3), .val (.int p4), .val (.int gg), .val (.int ss), .val (.long ((mn.toInt64) + (1 : Int64))), .second, .val (.int cc), .val (.ref b6), .val (.ref b10), .val (.double (own_f1 gg ss cc)), .second, .val (.double (own_f1 ss gg cc)), .second, .val (.double (FP.ddiv (FP.l2d ((2 : Int64) * (cc.toInt64))) (FP.l2d ((gg.toInt64) + (ss.toInt64))))), .second, .val (.int (1 : Int32)), .val (.int (1 : Int32)), .val (.int (1 : Int32)), .unset, .unset] [(.int (1 : Int32))])) _
            refine XS.istore X20.here hx rfl (hb hby at_244) rfl (l' := #[.val (.int p1), .val (.int p2), .val (.int p3), .val (.int p4), .val (.int gg), .val (.int ss), .val (.long ((mn.toInt64) + (1 : Int64))), .second, .val (.int cc), .val (.ref b6), .val (.ref b10), .val (.double (own_f1 gg ss cc)), .second, .val (.double (own_f1 ss gg cc)), .second, .val (.double (FP.ddiv (FP.l2d ((2 : Int64) * (cc.toInt64))) (FP.l2d ((gg.toInt64) + (ss.toInt64))))), .second, .val (.int (1 : Int32)), .val (.int (1 : Int32)), .val (.int (1 : Int32)), .val (.int (1 : Int32)), .unset]) rfl ?_
            show Steps p.tables e below (T20.setTop (mkF m 246 #[.val (.int p1), .val (.int p2), .val (.int p3), .val (.int p4), .val (.int gg), .val (.int ss), .val (.long ((mn.toInt64) + (1 : Int64))), .second, .val (.int cc), .val (.ref b6), .val (.ref b10), .val (.double (own_f1 gg ss cc)), .second, .val (.double (own_f1 ss gg cc)), .second, .val (.double (FP.ddiv (FP.l2d ((2 : Int64) * (cc.toInt64))) (FP.l2d ((gg.toInt64) + (ss.toInt64))))), .second, .val (.int (1 : Int32)), .val (.int (1 : Int32)), .val (.int (1 : Int32)), .val (.int (1 : Int32)), .unset] [])) _
            refine own_dload X20.here hx rfl (hb hby at_246) rfl ?_
            show Steps p.tables e below (T20.setTop (mkF m 248 #[.val (.int p1), .val (.int p2), .val (.int p3), .val (.int p4), .val (.int gg), .val (.int ss), .val (.long ((mn.toInt64) + (1 : Int64))), .second, .val (.int cc), .val (.ref b6), .val (.ref b10), .val (.double (own_f1 gg ss cc)), .second, .val (.double (own_f1 ss gg cc)), .second, .val (.double (FP.ddiv (FP.l2d ((2 : Int64) * (cc.toInt64))) (FP.l2d ((gg.toInt64) + (ss.toInt64))))), .second, .val (.int (1 : Int32)), .val (.int (1 : Int32)), .val (.int (1 : Int32)), .val (.int (1 : Int32)), .unset] [(.double (own_f1 gg ss cc))])) _
            refine own_dconst0 X20.here hx rfl (hb hby at_248) ?_
            show Steps p.tables e below (T20.setTop (mkF m 249 #[.val (.int p1), .val (.int p2), .val (.int p3), .val (.int p4), .val (.int gg), .val (.int ss), .val (.long ((mn.toInt64) + (1 : Int64))), .second, .val (.int cc), .val (.ref b6), .val (.ref b10), .val (.double (own_f1 gg ss cc)), .second, .val (.double (own_f1 ss gg cc)), .second, .val (.double (FP.ddiv (FP.l2d ((2 : Int64) * (cc.toInt64))) (FP.l2d ((gg.toInt64) + (ss.toInt64))))), .second, .val (.int (1 : Int32)), .val (.int (1 : Int32)), .val (.int (1 : Int32)), .val (.int (1 : Int32)), .unset] [(.double (0 : UInt64)), (.double (own_f1 gg ss cc))])) _
            refine own_dcmp X20.here hx rfl (hb hby at_249) rfl ?_
            show Steps p.tables e below (T20.setTop (mkF m 250 #[.val (.int p1), .val (.int p2), .val (.int p3), .val (.int p4), .val (.int gg), .val (.int ss), .val (.long ((mn.toInt64) + (1 : Int64))), .second, .val (.int cc), .val (.ref b6), .val (.ref b10), .val (.double (own_f1 gg ss cc)), .second, .val (.double (own_f1 ss gg cc)), .second, .val (.double (FP.ddiv (FP.l2d ((2 : Int64) * (cc.toInt64))) (FP.l2d ((gg.toInt64) + (ss.toInt64))))), .second, .val (.int (1 : Int32)), .val (.int (1 : Int32)), .val (.int (1 : Int32)), .val (.int (1 : Int32)), .unset] [(.int (cmpValue (FP.dcmp (own_f1 gg ss cc) (0 : UInt64)) .l))])) _
            refine XS.ifYes X20.here hx rfl (pc0 := 250) (pc' := 257) rfl (hb hby at_250) rfl ((if0 _ _).trans (feq ((by rw [Own.cv_gt k4] <;> decide) : ¬ ((cmpValue (FP.dcmp (own_f1 gg ss cc) (0 : UInt64)) .l) = (0 : Int32)))).2) (by decide) (by decide) ?_
            show Steps p.tables e below (T20.setTop (mkF m 257 #[.val (.int p1), .val (.int p2), .val (.int p3), .val (.int p4), .val (.int gg), .val (.int ss), .val (.long ((mn.toInt64) + (1 : Int64))), .second, .val (.int cc), .val (.ref b6), .val (.ref b10), .val (.double (own_f1 gg ss cc)), .second, .val (.double (own_f1 ss gg cc)), .second, .val (.double (FP.ddiv (FP.l2d ((2 : Int64) * (cc.toInt64))) (FP.l2d ((gg.toInt64) + (ss.toInt64))))), .second, .val (.int (1 : Int32)), .val (.int (1 : Int32)), .val (.int (1 : Int32)), .val (.int (1 : Int32)), .unset] [])) _
            refine XS.iconst X20.here hx rfl (hb hby at_257) ?_
            show Steps p.tables e below (T20.setTop (mkF m 258 #[.val (.int p1), .val (.int p2), .val (.int p3), .val (.int p4), .val (.int gg), .val (.int ss), .val (.long ((mn.toInt64) + (1 : Int64))), .second, .val (.int cc), .val (.ref b6), .val (.ref b10), .val (.double (own_f1 gg ss cc)), .second, .val (.double (own_f1 ss gg cc)), .second, .val (.double (FP.ddiv (FP.l2d ((2 : Int64) * (cc.toInt64))) (FP.l2d ((gg.toInt64) + (ss.toInt64))))), .second, .val (.int (1 : Int32)), .val (.int (1 : Int32)), .val (.int (1 : Int32)), .val (.int (1 : Int32)), .unset] [(.int (0 : Int32))])) _
            refine XS.iload X20.here hx rfl (hb hby at_258) rfl ?_
            show Steps p.tables e below (T20.setTop (mkF m 260 #[.val (.int p1), .val (.int p2), .val (.int p3), .val (.int p4), .val (.int gg), .val (.int ss), .val (.long ((mn.toInt64) + (1 : Int64))), .second, .val (.int cc), .val (.ref b6), .val (.ref b10), .val (.double (own_f1 gg ss cc)), .second, .val (.double (own_f1 ss gg cc)), .second, .val (.double (FP.ddiv (FP.l2d ((2 : Int64) * (cc.toInt64))) (FP.l2d ((gg.toInt64) + (ss.toInt64))))), .second, .val (.int (1 : Int32)), .val (.int (1 : Int32)), .val (.int (1 : Int32)), .val (.int (1 : Int32)), .unset] [(.int cc), (.int (0 : Int32))])) _
            refine XS.ifYes X20.here hx rfl (pc0 := 260) (pc' := 277) rfl (hb hby at_260) rfl ((if0 _ _).trans (feq (hc0 : ¬ (cc = (0 : Int32)))).2) (by decide) (by decide) ?_
            show Steps p.tables e below (T20.setTop (mkF m 277 #[.val (.int p1), .val (.int p2), .val (.int p3), .val (.int p4), .val (.int gg), .val (.int ss), .val (.long ((mn.toInt64) + (1 : Int64))), .second, .val (.int cc), .val (.ref b6), .val (.ref b10), .val (.double (own_f1 gg ss cc)), .second, .val (.double (own_f1 ss gg cc)), .second, .val (.double (FP.ddiv (FP.l2d ((2 : Int64) * (cc.toInt64))) (FP.l2d ((gg.toInt64) + (ss.toInt64))))), .second, .val (.int (1 : Int32)), .val (.int (1 : Int32)), .val (.int (1 : Int32)), .val (.int (1 : Int32)), .unset] [(.int (0 : Int32))])) _
            refine XS.iconst X20.here hx rfl (hb hby at_277) ?_
            show Steps p.tables e below (T20.setTop (mkF m 278 #[.val (.int p1), .val (.int p2), .val (.int p3), .val (.int p4), .val (.int gg), .val (.int ss), .val (.long ((mn.toInt64) + (1 : Int64))), .second, .val (.int cc), .val (.ref b6), .val (.ref b10), .val (.double (own_f1 gg ss cc)), .second, .val (.double (own_f1 ss gg cc)), .second, .val (.double (FP.ddiv (FP.l2d ((2 : Int64) * (cc.toInt64))) (FP.l2d ((gg.toInt64) + (ss.toInt64))))), .second, .val (.int (1 : Int32)), .val (.int (1 : Int32)), .val (.int (1 : Int32)), .val (.int (1 : Int32)), .unset] [(.int (0 : Int32)), (.int (0 : Int32))])) _
            refine XS.icmpNo X20.here hx rfl (hb hby at_278) rfl (teq (by decide : (0 : Int32) = (0 : Int32))).2 ?_
            show Steps p.tables e below (T20.setTop (mkF m 281 #[.val (.int p1), .val (.int p2), .val (.int p3), .val (.int p4), .val (.int gg), .val (.int ss), .val (.long ((mn.toInt64) + (1 : Int64))), .second, .val (.int cc), .val (.ref b6), .val (.ref b10), .val (.double (own_f1 gg ss cc)), .second, .val (.double (own_f1 ss gg cc)), .second, .val (.double (FP.ddiv (FP.l2d ((2 : Int64) * (cc.toInt64))) (FP.l2d ((gg.toInt64) + (ss.toInt64))))), .second, .val (.int (1 : Int32)), .val (.int (1 : Int32)), .val (.int (1 : Int32)), .val (.int (1 : Int32)), .unset] [])) _
            refine XS.iconst X20.here hx rfl (hb hby at_281) ?_
            show Steps p.tables e below (T20.setTop (mkF m 282 #[.val (.int p1), .val (.int p2), .val (.int p3), .val (.int p4), .val (.int gg), .val (.int ss), .val (.long ((mn.toInt64) + (1 : Int64))), .second, .val (.int cc), .val (.ref b6), .val (.ref b10), .val (.double (own_f1 gg ss cc)), .second, .val (.double (own_f1 ss gg cc)), .second, .val (.double (FP.ddiv (FP.l2d ((2 : Int64) * (cc.toInt64))) (FP.l2d ((gg.toInt64) + (ss.toInt64))))), .second, .val (.int (1 : Int32)), .val (.int (1 : Int32)), .val (.int (1 : Int32)), .val (.int (1 : Int32)), .unset] [(.int (1 : Int32))])) _
            refine XS.goto X20.here hx rfl (pc0 := 282) (pc' := 286) rfl (hb hby at_282) (by decide) (by decide) ?_
            show Steps p.tables e below (T20.setTop (mkF m 286 #[.val (.int p1), .val (.int p2), .val (.int p3), .val (.int p4), .val (.int gg), .val (.int ss), .val (.long ((mn.toInt64) + (1 : Int64))), .second, .val (.int cc), .val (.ref b6), .val (.ref b10), .val (.double (own_f1 gg ss cc)), .second, .val (.double (own_f1 ss gg cc)), .second, .val (.double (FP.ddiv (FP.l2d ((2 : Int64) * (cc.toInt64))) (FP.l2d ((gg.toInt64) + (ss.toInt64))))), .second, .val (.int (1 : Int32)), .val (.int (1 : Int32)), .val (.int (1 : Int32)), .val (.int (1 : Int32)), .unset] [(.int (1 : Int32))])) _
            refine XS.istore X20.here hx rfl (hb hby at_286) rfl (l' := #[.val (.int p1), .val (.int p2), .val (.int p3), .val (.int p4), .val (.int gg), .val (.int ss), .val (.long ((mn.toInt64) + (1 : Int64))), .second, .val (.int cc), .val (.ref b6), .val (.ref b10), .val (.double (own_f1 gg ss cc)), .second, .val (.double (own_f1 ss gg cc)), .second, .val (.double (FP.ddiv (FP.l2d ((2 : Int64) * (cc.toInt64))) (FP.l2d ((gg.toInt64) + (ss.toInt64))))), .second, .val (.int (1 : Int32)), .val (.int (1 : Int32)), .val (.int (1 : Int32)), .val (.int (1 : Int32)), .val (.int (1 : Int32))]) rfl ?_
            show Steps p.tables e below (T20.setTop (mkF m 288 #[.val (.int p1), .val (.int p2), .val (.int p3), .val (.int p4), .val (.int gg), .val (.int ss), .val (.long ((mn.toInt64) + (1 : Int64))), .second, .val (.int cc), .val (.ref b6), .val (.ref b10), .val (.double (own_f1 gg ss cc)), .second, .val (.double (own_f1 ss gg cc)), .second, .val (.double (FP.ddiv (FP.l2d ((2 : Int64) * (cc.toInt64))) (FP.l2d ((gg.toInt64) + (ss.toInt64))))), .second, .val (.int (1 : Int32)), .val (.int (1 : Int32)), .val (.int (1 : Int32)), .val (.int (1 : Int32)), .val (.int (1 : Int32))] [])) _
            refine XS.iload X20.here hx rfl (hb hby at_288) rfl ?_
            show Steps p.tables e below (T20.setTop (mkF m 290 #[.val (.int p1), .val (.int p2), .val (.int p3), .val (.int p4), .val (.int gg), .val (.int ss), .val (.long ((mn.toInt64) + (1 : Int64))), .second, .val (.int cc), .val (.ref b6), .val (.ref b10), .val (.double (own_f1 gg ss cc)), .second, .val (.double (own_f1 ss gg cc)), .second, .val (.double (FP.ddiv (FP.l2d ((2 : Int64) * (cc.toInt64))) (FP.l2d ((gg.toInt64) + (ss.toInt64))))), .second, .val (.int (1 : Int32)), .val (.int (1 : Int32)), .val (.int (1 : Int32)), .val (.int (1 : Int32)), .val (.int (1 : Int32))] [(.int (1 : Int32))])) _
            refine XS.ifNo X20.here hx rfl (hb hby at_290) rfl ((if0 _ _).trans (feq (by decide : ¬ ((1 : Int32) = (0 : Int32)))).1) ?_
            show Steps p.tables e below (T20.setTop (mkF m 293 #[.val (.int p1), .val (.int p2), .val (.int p3), .val (.int p4), .val (.int gg), .val (.int ss), .val (.long ((mn.toInt64) + (1 : Int64))), .second, .val (.int cc), .val (.ref b6), .val (.ref b10), .val (.double (own_f1 gg ss cc)), .second, .val (.double (own_f1 ss gg cc)), .second, .val (.double (FP.ddiv (FP.l2d ((2 : Int64) * (cc.toInt64))) (FP.l2d ((gg.toInt64) + (ss.toInt64))))), .second, .val (.int (1 : Int32)), .val (.int (1 : Int32)), .val (.int (1 : Int32)), .val (.int (1 : Int32)), .val (.int (1 : Int32))] [])) _
            refine XS.iload X20.here hx rfl (hb hby at_293) rfl ?_
            show Steps p.tables e below (T20.setTop (mkF m 295 #[.val (.int p1), .val (.int p2), .val (.int p3), .val (.int p4), .val (.int gg), .val (.int ss), .val (.long ((mn.toInt64) + (1 : Int64))), .second, .val (.int cc), .val (.ref b6), .val (.ref b10), .val (.double (own_f1 gg ss cc)), .second, .val (.double (own_f1 ss gg cc)), .second, .val (.double (FP.ddiv (FP.l2d ((2 : Int64) * (cc.toInt64))) (FP.l2d ((gg.toInt64) + (ss.toInt64))))), .second, .val (.int (1 : Int32)), .val (.int (1 : Int32)), .val (.int (1 : Int32)), .val (.int (1 : Int32)), .val (.int (1 : Int32))] [(.int (1 : Int32))])) _
            refine XS.ifNo X20.here hx rfl (hb hby at_295) rfl ((if0 _ _).trans (feq (by decide : ¬ ((1 : Int32) = (0 : Int32)))).1) ?_
            show Steps p.tables e below (T20.setTop (mkF m 298 #[.val (.int p1), .val (.int p2), .val (.int p3), .val (.int p4), .val (.int gg), .val (.int ss), .val (.long ((mn.toInt64) + (1 : Int64))), .second, .val (.int cc), .val (.ref b6), .val (.ref b10), .val (.double (own_f1 gg ss cc)), .second, .val (.double (own_f1 ss gg cc)), .second, .val (.double (FP.ddiv (FP.l2d ((2 : Int64) * (cc.toInt64))) (FP.l2d ((gg.toInt64) + (ss.toInt64))))), .second, .val (.int (1 : Int32)), .val (.int (1 : Int32)), .val (.int (1 : Int32)), .val (.int (1 : Int32)), .val (.int (1 : Int32))] [])) _
            refine XS.iload X20.here hx rfl (hb hby at_298) rfl ?_
            show Steps p.tables e below (T20.setTop (mkF m 300 #[.val (.int p1), .val (.int p2), .val (.int p3), .val (.int p4), .val (.int gg), .val (.int ss), .val (.long ((mn.toInt64) + (1 : Int64))), .second, .val (.int cc), .val (.ref b6), .val (.ref b10), .val (.double (own_f1 gg ss cc)), .second, .val (.double (own_f1 ss gg cc)), .second, .val (.double (FP.ddiv (FP.l2d ((2 : Int64) * (cc.toInt64))) (FP.l2d ((gg.toInt64) + (ss.toInt64))))), .second, .val (.int (1 : Int32)), .val (.int (1 : Int32)), .val (.int (1 : Int32)), .val (.int (1 : Int32)), .val (.int (1 : Int32))] [(.int (1 : Int32))])) _
            refine XS.ifNo X20.here hx rfl (hb hby at_300) rfl ((if0 _ _).trans (feq (by decide : ¬ ((1 : Int32) = (0 : Int32)))).1) ?_
            show Steps p.tables e below (T20.setTop (mkF m 303 #[.val (.int p1), .val (.int p2), .val (.int p3), .val (.int p4), .val (.int gg), .val (.int ss), .val (.long ((mn.toInt64) + (1 : Int64))), .second, .val (.int cc), .val (.ref b6), .val (.ref b10), .val (.double (own_f1 gg ss cc)), .second, .val (.double (own_f1 ss gg cc)), .second, .val (.double (FP.ddiv (FP.l2d ((2 : Int64) * (cc.toInt64))) (FP.l2d ((gg.toInt64) + (ss.toInt64))))), .second, .val (.int (1 : Int32)), .val (.int (1 : Int32)), .val (.int (1 : Int32)), .val (.int (1 : Int32)), .val (.int (1 : Int32))] [])) _
            refine XS.iload X20.here hx rfl (hb hby at_303) rfl ?_
            show Steps p.tables e below (T20.setTop (mkF m 305 #[.val (.int p1), .val (.int p2), .val (.int p3), .val (.int p4), .val (.int gg), .val (.int ss), .val (.long ((mn.toInt64) + (1 : Int64))), .second, .val (.int cc), .val (.ref b6), .val (.ref b10), .val (.double (own_f1 gg ss cc)), .second, .val (.double (own_f1 ss gg cc)), .second, .val (.double (FP.ddiv (FP.l2d ((2 : Int64) * (cc.toInt64))) (FP.l2d ((gg.toInt64) + (ss.toInt64))))), .second, .val (.int (1 : Int32)), .val (.int (1 : Int32)), .val (.int (1 : Int32)), .val (.int (1 : Int32)), .val (.int (1 : Int32))] [(.int (1 : Int32))])) _
            refine XS.ifNo X20.here hx rfl (hb hby at_305) rfl ((if0 _ _).trans (feq (by decide : ¬ ((1 : Int32) = (0 : Int32)))).1) ?_
            show Steps p.tables e below (T20.setTop (mkF m 308 #[.val (.int p1), .val (.int p2), .val (.int p3), .val (.int p4), .val (.int gg), .val (.int ss), .val (.long ((mn.toInt64) + (1 : Int64))), .second, .val (.int cc), .val (.ref b6), .val (.ref b10), .val (.double (own_f1 gg ss cc)), .second, .val (.double (own_f1 ss gg cc)), .second, .val (.double (FP.ddiv (FP.l2d ((2 : Int64) * (cc.toInt64))) (FP.l2d ((gg.toInt64) + (ss.toInt64))))), .second, .val (.int (1 : Int32)), .val (.int (1 : Int32)), .val (.int (1 : Int32)), .val (.int (1 : Int32)), .val (.int (1 : Int32))] [])) _
            refine XS.iload X20.here hx rfl (hb hby at_308) rfl ?_
            show Steps p.tables e below (T20.setTop (mkF m 310 #[.val (.int p1), .val (.int p2), .val (.int p3), .val (.int p4), .val (.int gg), .val (.int ss), .val (.long ((mn.toInt64) + (1 : Int64))), .second, .val (.int cc), .val (.ref b6), .val (.ref b10), .val (.double (own_f1 gg ss cc)), .second, .val (.double (own_f1 ss gg cc)), .second, .val (.double (FP.ddiv (FP.l2d ((2 : Int64) * (cc.toInt64))) (FP.l2d ((gg.toInt64) + (ss.toInt64))))), .second, .val (.int (1 : Int32)), .val (.int (1 : Int32)), .val (.int (1 : Int32)), .val (.int (1 : Int32)), .val (.int (1 : Int32))] [(.int (1 : Int32))])) _
            refine XS.ifNo X20.here hx rfl (hb hby at_310) rfl ((if0 _ _).trans (feq (by decide : ¬ ((1 : Int32) = (0 : Int32)))).1) ?_
            show Steps p.tables e below (T20.setTop (mkF m 313 #[.val (.int p1), .val (.int p2), .val (.int p3), .val (.int p4), .val (.int gg), .val (.int ss), .val (.long ((mn.toInt64) + (1 : Int64))), .second, .val (.int cc), .val (.ref b6), .val (.ref b10), .val (.double (own_f1 gg ss cc)), .second, .val (.double (own_f1 ss gg cc)), .second, .val (.double (FP.ddiv (FP.l2d ((2 : Int64) * (cc.toInt64))) (FP.l2d ((gg.toInt64) + (ss.toInt64))))), .second, .val (.int (1 : Int32)), .val (.int (1 : Int32)), .val (.int (1 : Int32)), .val (.int (1 : Int32)), .val (.int (1 : Int32))] [])) _
            refine XS.iconst X20.here hx rfl (hb hby at_313) ?_
            show Steps p.tables e below (T20.setTop (mkF m 314 #[.val (.int p1), .val (.int p2), .val (.int p3), .val (.int p4), .val (.int gg), .val (.int ss), .val (.long ((mn.toInt64) + (1 : Int64))), .second, .val (.int cc), .val (.ref b6), .val (.ref b10), .val (.double (own_f1 gg ss cc)), .second, .val (.double (own_f1 ss gg cc)), .second, .val (.double (FP.ddiv (FP.l2d ((2 : Int64) * (cc.toInt64))) (FP.l2d ((gg.toInt64) + (ss.toInt64))))), .second, .val (.int (1 : Int32)), .val (.int (1 : Int32)), .val (.int (1 : Int32)), .val (.int (1 : Int32)), .val (.int (1 : Int32))] [(.int (1 : Int32))])) _
            refine XS.goto X20.here hx rfl (pc0 := 314) (pc' := 318) rfl (hb hby at_314) (by decide) (by decide) ?_
            exact kt
          refine Go.adv sg28 ?_
          refine Go.ret (v := (some (.int (1 : Int32)))) X20 (fun h => by rw [Bd.returns] at h; cases h) Bd.notSynchronized (fun fs hr => retN X20 hx (t := .boolean) Bd.returns (by simp) (hb hby at_318) hr) ?_ (by decide) (by decide)
          show Q_rm0 Z p1 p2 p3 p4 h0 n0 (some (.int (1 : Int32))) T20.heap _
          rw [e20]
          exact ⟨rfl, N20⟩
set_option maxRecDepth 65536 in
set_option maxHeartbeats 40000000 in
theorem comes_1 {Post : Tables → Env → Array Value → State → Outcome → State → Prop} (hpost : ∀ tb e args s v u, (limb_1_1.after args s (.returned v) u = true ∧ limb_1_2.after args s (.returned v) u = true ∧ True) → FrameEnd s (.returned v) u (Jvm.fieldLocs frame_1_writes args s ++ Jvm.arrayLocs frame_1_arrays args s ++ Jvm.staticLocs frame_1_statics s) 16 128 → Post tb e args s (.returned v) u) :
    ArmFor flags0 classFile x code maxLocals ret World_1 tables_1 room_1 Calls_1 rest_1 Pre_1 Post := by
  intro l hfl _ _ p e ha hc hk s m args below hf hA hF happ hP
  obtain ⟨hcalls, hrest, hpre⟩ := hP
  obtain ⟨-, -, -, hnamed, -, -, -, hat⟩ := (Spec.applies_iff hf).mp happ
  obtain ⟨hg, hn⟩ := and_e (Cond.before_iff.mp (show (Jvm.Cond.and given_1 narrow_1).before args s = true from hpre))
  obtain ⟨g1, g2⟩ := and_e hg
  obtain ⟨g3, g4⟩ := and_e g2
  obtain ⟨g5, g6⟩ := and_e g4
  obtain ⟨g7, g8⟩ := and_e g6
  obtain ⟨w0, w1, w2, w3, rfl⟩ : ∃ w0 w1 w2 w3 : Value, args = #[w0, w1, w2, w3] := by
    have hs : args.size = 4 := by simpa [Cond.value, given_1] using g1
    obtain ⟨L⟩ := args
    match L, hs with
    | [w0, w1, w2, w3], _ => exact ⟨w0, w1, w2, w3, rfl⟩
  have hw := fun d (hd : d ∈ tables_1) => atoms_spec (ws := Jvm.Cond.code x code maxLocals ret :: tables_1) hat d (List.mem_cons_of_mem _ hd)
  have hfit : Fit s := fun {y c} hc i hi => by
    obtain ⟨ha, rfl⟩ := Array.getElem?_eq_some_iff.mp hc
    have q := List.all_eq_true.mp ((Array.all_eq_true_iff_forall_mem.mp hF) _ (Array.getElem_mem ha)) i (List.mem_range.mpr hi)
    simpa [Array.getElem?_eq_getElem hi] using q
  obtain ⟨i0, ei0⟩ := is_v g3
  obtain rfl : w0 = (.int i0) := Option.some.inj ei0
  obtain ⟨i1, ei1⟩ := is_v g5
  obtain rfl : w1 = (.int i1) := Option.some.inj ei1
  obtain ⟨i2, ei2⟩ := is_v g7
  obtain rfl : w2 = (.int i2) := Option.some.inj ei2
  obtain ⟨i3, ei3⟩ := is_v g8
  obtain rfl : w3 = (.int i3) := Option.some.inj ei3
  obtain ⟨n, o, h1, h2, h3, _, L, rfl, ⟨rfl, N⟩, hq⟩ := rm0 l s _ hw tables_1 i0 i1 i2 i3  s.heap s.heap.size (Nat.le_refl _)  p e ha hc hk s m _ below hf ((Spec.applies_iff_loose hf).mp happ).1 ⟨rfl, State.Warmed39.refl s, rfl⟩ trivial
  refine ⟨n, _, h1, h2, h3, hpost _ _ _ _ _ _ ⟨Cond.after_iff.mpr rfl, Cond.after_iff.mpr (eq_i res_at (Term.int_eval (1)) rfl), trivial⟩ ⟨hq.1, hq.2.1, (hq.2.2.sift fun y hy => Or.inr (N y hy)).mono (by decide) (by decide)⟩⟩
theorem main_1_1 : Claimed_1_1 := comes_1 fun _ _ _ _ _ _ h hF => ⟨h.1, hF⟩
theorem main_1_2 : Claimed_1_2 := comes_1 fun _ _ _ _ _ _ h hF => ⟨h.2.1, hF⟩
end Jvm.Pilot.@@N@@
namespace Jvm.Pilot.@@N@@
open Jvm Jvm.ClassFile Sem Op Lib Jvm.Free Jvm.Stand Jvm.Pilot.@@N@@.Jvm.D
/-! MADE BY PROGRAM (witnessworld.py) out of the Statement's table words and the real class files: 11 classes; the members and pool entries that the words name. The judged class is class 1, her method 1. -/
namespace start1
open Jvm.ClassFile
def u (s : String) : CpInfo := .utf8 (stringToUtf16 s)
/-- a pool by its gaps: so many unusable entries, then the entry; so many at the end -/
def gap : Nat → List CpInfo → List CpInfo
  | 0, r => r
  | n + 1, r => .unusable :: gap n r
def poolList (es : List (Nat × CpInfo)) (last : Nat) : List CpInfo := es.foldr (fun e r => gap e.1 (e.2 :: r)) (gap last [])
def pool (es : List (Nat × CpInfo)) (last : Nat) : Array CpInfo := ⟨poolList es last⟩
def fileOf (pool : Array CpInfo) (this : Nat) (attrs : Array Attribute := #[]) (ms : Array MethodInfo := #[]) (fl : Nat := 33) (sup : Nat := 0) (ifs : Array Nat := #[]) (fds : Array FieldInfo := #[]) : ClassFile where
  minorVersion := 0
  majorVersion := 65
  constantPool := pool
  accessFlags := fl
  thisClass := this
  superClass := sup
  interfaces := ifs
  fields := fds
  methods := ms
  attributes := attrs
def plain (name : String) (sup : Option ClassId) : Class where
  name := name
  kind := .ordinary
  loader := none
  accessFlags := 33
  super := sup
  interfaces := #[]
  cf := none
  fields := #[]
  methods := #[]
  instanceTypes := #[]
  staticTypes := #[]
  resolved := #[]
  callSites := []
  init := .initialized
  statics := none
  mirror := none

def pool0 : Array CpInfo := pool [(5, u "<init>"), (0, u "()V"), (1, .class_ 10), (1, u "java/lang/Object")] 113

def k0c0 : Code := { maxStack := 0, maxLocals := 1, code := object_method_1_code, exceptionTable := #[], attributes := #[] }
def k0m0 : Method := { name := "<init>", desc := "()V", sig := { parameters := [], returnType := none }, accessFlags := 1, code := some k0c0 }
/-- java/lang/Object -/
def k0 : Class := { plain "java/lang/Object" none with
  accessFlags := 33
  interfaces := #[]
  cf := some (fileOf pool0 8 #[] #[{ accessFlags := 1, nameIndex := 5, descriptorIndex := 6, attributes := #[] }] 33 0 #[] #[])
  fields := #[]
  methods := #[k0m0]
  instanceTypes := #[]
  staticTypes := #[]
  resolved := Array.replicate 124 none
  statics := none }

def pool1 : Array CpInfo := pool [(2, .class_ 4), (1, u "java/lang/Object"), (0, u "<init>"), (0, u "()V"), (0, .integer 2147483647), (0, .methodref 9 10), (0, .class_ 11), (0, .nameAndType 12 13), (0, u "java/lang/Math"), (0, u "min"), (0, u "(II)I"), (0, .long 2147483647), (1, .class_ 17), (0, u "com/example/tally/tally/score/QuestionScore"), (0, .methodref 16 19), (0, .nameAndType 5 20), (0, u "(III)V"), (0, .methodref 16 22), (0, .nameAndType 23 24), (0, u "f1"), (0, u "()D"), (0, .long 2), (1, .class_ 28), (0, u "com/example/tally/tally/score/QuestionScoreF1PinLaw"), (2, u "law"), (0, u "(IIII)Z")] 3

def k1m0 : Method := { name := "<init>", desc := "()V", sig := { parameters := [], returnType := none }, accessFlags := 1, code := none }
def k1c1 : Code := { maxStack := 5, maxLocals := 22, code := code, exceptionTable := #[], attributes := #[] }
def k1m1 : Method := { name := "law", desc := "(IIII)Z", sig := { parameters := [.int, .int, .int, .int], returnType := some .boolean }, accessFlags := 9, code := some k1c1 }
/-- com/example/tally/tally/score/QuestionScoreF1PinLaw -/
def k1 : Class := { plain "com/example/tally/tally/score/QuestionScoreF1PinLaw" (some 0) with
  accessFlags := 49
  interfaces := #[]
  cf := some (fileOf pool1 27 #[] #[{ accessFlags := 1, nameIndex := 5, descriptorIndex := 6, attributes := #[] }, { accessFlags := 9, nameIndex := 31, descriptorIndex := 32, attributes := #[] }] 49 2 #[] #[])
  fields := #[]
  methods := #[k1m0, k1m1]
  instanceTypes := #[]
  staticTypes := #[]
  resolved := Array.replicate 36 none
  statics := none }

def pool2 : Array CpInfo := pool [(1, .class_ 2), (0, u "java/lang/Math"), (1, .class_ 6), (1, u "java/lang/Object"), (0, u "<init>"), (0, u "()V"), (89, .class_ 100), (1, u "java/lang/Math$RandomNumberGeneratorHolder"), (71, u "negativeZeroFloatBits"), (0, u "J"), (2, u "negativeZeroDoubleBits"), (24, u "min"), (43, u "$assertionsDisabled"), (0, u "Z"), (88, u "(II)I"), (2, u "twoToTheDoubleScaleDown"), (0, u "D"), (4, u "twoToTheDoubleScaleUp"), (9, u "E"), (3, u "PI"), (2, u "TAU"), (2, u "DEGREES_TO_RADIANS"), (0, u "RADIANS_TO_DEGREES")] 94

def k2m0 : Method := { name := "<init>", desc := "()V", sig := { parameters := [], returnType := none }, accessFlags := 2, code := none }
def k2c1 : Code := { maxStack := 2, maxLocals := 2, code := jdk_29_method_69_code, exceptionTable := #[], attributes := #[] }
def k2m1 : Method := { name := "min", desc := "(II)I", sig := { parameters := [.int, .int], returnType := some .int }, accessFlags := 9, code := some k2c1 }
/-- java/lang/Math -/
def k2 : Class := { plain "java/lang/Math" (some 0) with
  accessFlags := 49
  interfaces := #[]
  cf := some (fileOf pool2 1 #[.nestMembers #[98]] #[{ accessFlags := 2, nameIndex := 7, descriptorIndex := 8, attributes := #[] }, { accessFlags := 9, nameIndex := 201, descriptorIndex := 335, attributes := #[] }] 49 4 #[] #[{ accessFlags := 25, nameIndex := 354, descriptorIndex := 339, attributes := #[] }, { accessFlags := 25, nameIndex := 358, descriptorIndex := 339, attributes := #[] }, { accessFlags := 25, nameIndex := 361, descriptorIndex := 339, attributes := #[] }, { accessFlags := 26, nameIndex := 364, descriptorIndex := 339, attributes := #[] }, { accessFlags := 26, nameIndex := 365, descriptorIndex := 339, attributes := #[] }, { accessFlags := 26, nameIndex := 172, descriptorIndex := 173, attributes := #[] }, { accessFlags := 26, nameIndex := 176, descriptorIndex := 173, attributes := #[] }, { accessFlags := 8, nameIndex := 344, descriptorIndex := 339, attributes := #[] }, { accessFlags := 8, nameIndex := 338, descriptorIndex := 339, attributes := #[] }, { accessFlags := 4120, nameIndex := 245, descriptorIndex := 246, attributes := #[] }])
  fields := #[{ name := "E", type := .double, accessFlags := 25, slot := 0, constantValue := 0 }, { name := "PI", type := .double, accessFlags := 25, slot := 1, constantValue := 0 }, { name := "TAU", type := .double, accessFlags := 25, slot := 2, constantValue := 0 }, { name := "DEGREES_TO_RADIANS", type := .double, accessFlags := 26, slot := 3, constantValue := 0 }, { name := "RADIANS_TO_DEGREES", type := .double, accessFlags := 26, slot := 4, constantValue := 0 }, { name := "negativeZeroFloatBits", type := .long, accessFlags := 26, slot := 5, constantValue := 0 }, { name := "negativeZeroDoubleBits", type := .long, accessFlags := 26, slot := 6, constantValue := 0 }, { name := "twoToTheDoubleScaleUp", type := .double, accessFlags := 8, slot := 7, constantValue := 0 }, { name := "twoToTheDoubleScaleDown", type := .double, accessFlags := 8, slot := 8, constantValue := 0 }, { name := "$assertionsDisabled", type := .boolean, accessFlags := 4120, slot := 9, constantValue := 0 }]
  methods := #[k2m0, k2m1]
  instanceTypes := #[]
  staticTypes := #[.double, .double, .double, .double, .double, .long, .long, .double, .double, .boolean]
  resolved := Array.replicate 460 none
  statics := none }

def pool3 : Array CpInfo := pool [(1, .methodref 2 3), (0, .class_ 4), (0, .nameAndType 5 6), (0, u "java/lang/Object"), (0, u "<init>"), (0, u "()V"), (0, .class_ 8), (0, u "java/lang/Record")] 13

def k3c0 : Code := { maxStack := 1, maxLocals := 1, code := jdk_30_method_1_code, exceptionTable := #[], attributes := #[] }
def k3m0 : Method := { name := "<init>", desc := "()V", sig := { parameters := [], returnType := none }, accessFlags := 4, code := some k3c0 }
/-- java/lang/Record -/
def k3 : Class := { plain "java/lang/Record" (some 0) with
  accessFlags := 1057
  interfaces := #[]
  cf := some (fileOf pool3 7 #[] #[{ accessFlags := 4, nameIndex := 5, descriptorIndex := 6, attributes := #[] }] 1057 2 #[] #[])
  fields := #[]
  methods := #[k3m0]
  instanceTypes := #[]
  staticTypes := #[]
  resolved := Array.replicate 22 none
  statics := none }

def pool4 : Array CpInfo := pool [(1, .methodref 2 3), (0, .class_ 4), (0, .nameAndType 5 6), (0, u "java/lang/Record"), (0, u "<init>"), (0, u "()V"), (9, .fieldref 17 18), (0, .class_ 19), (0, .nameAndType 20 21), (0, u "com/example/tally/tally/score/QuestionScore"), (0, u "gold"), (0, u "I"), (0, .fieldref 17 23), (0, .nameAndType 24 21), (0, u "system"), (0, .fieldref 17 26), (0, .nameAndType 27 21), (0, u "correct"), (26, u "(III)V"), (0, .double 4611686018427387904), (22, u "()D"), (1, u "f1")] 31

def k4c0 : Code := { maxStack := 5, maxLocals := 4, code := prog_51_method_1_code, exceptionTable := #[], attributes := #[] }
def k4m0 : Method := { name := "<init>", desc := "(III)V", sig := { parameters := [.int, .int, .int], returnType := none }, accessFlags := 1, code := some k4c0 }
def k4c1 : Code := { maxStack := 6, maxLocals := 1, code := prog_51_method_5_code, exceptionTable := #[], attributes := #[] }
def k4m1 : Method := { name := "f1", desc := "()D", sig := { parameters := [], returnType := some .double }, accessFlags := 1, code := some k4c1 }
/-- com/example/tally/tally/score/QuestionScore -/
def k4 : Class := { plain "com/example/tally/tally/score/QuestionScore" (some 3) with
  accessFlags := 49
  interfaces := #[]
  cf := some (fileOf pool4 17 #[] #[{ accessFlags := 1, nameIndex := 5, descriptorIndex := 54, attributes := #[] }, { accessFlags := 1, nameIndex := 80, descriptorIndex := 78, attributes := #[] }] 49 2 #[] #[{ accessFlags := 18, nameIndex := 20, descriptorIndex := 21, attributes := #[] }, { accessFlags := 18, nameIndex := 24, descriptorIndex := 21, attributes := #[] }, { accessFlags := 18, nameIndex := 27, descriptorIndex := 21, attributes := #[] }])
  fields := #[{ name := "gold", type := .int, accessFlags := 18, slot := 0, constantValue := 0 }, { name := "system", type := .int, accessFlags := 18, slot := 1, constantValue := 0 }, { name := "correct", type := .int, accessFlags := 18, slot := 2, constantValue := 0 }]
  methods := #[k4m0, k4m1]
  instanceTypes := #[.int, .int, .int]
  staticTypes := #[]
  resolved := Array.replicate 112 none
  statics := none }

def pool5 : Array CpInfo := pool [(1, u "java/lang/Cloneable"), (0, .class_ 1), (0, u "java/lang/Object"), (0, .class_ 3)] 3

/-- java/lang/Cloneable -/
def k5 : Class := { plain "java/lang/Cloneable" (some 0) with
  accessFlags := 1537
  interfaces := #[]
  cf := some (fileOf pool5 2 #[] #[] 1537 4 #[] #[])
  fields := #[]
  methods := #[]
  instanceTypes := #[]
  staticTypes := #[]
  resolved := Array.replicate 8 none
  statics := none }

def pool6 : Array CpInfo := pool [(1, u "java/io/Serializable"), (0, .class_ 1), (0, u "java/lang/Object"), (0, .class_ 3)] 3

/-- java/io/Serializable -/
def k6 : Class := { plain "java/io/Serializable" (some 0) with
  accessFlags := 1537
  interfaces := #[]
  cf := some (fileOf pool6 2 #[] #[] 1537 4 #[] #[])
  fields := #[]
  methods := #[]
  instanceTypes := #[]
  staticTypes := #[]
  resolved := Array.replicate 8 none
  statics := none }

/-- the primitive byte -/
def k7 : Class := { plain "byte" none with kind := .primitive 'B', accessFlags := 0x411 }
/-- [B -/
def k8 : Class := { plain "[B" (some 0) with kind := .array 7 .byte, interfaces := #[5, 6], accessFlags := 1041 }

/-- the primitive int -/
def k9 : Class := { plain "int" none with kind := .primitive 'I', accessFlags := 0x411 }
/-- [I -/
def k10 : Class := { plain "[I" (some 0) with kind := .array 9 .int, interfaces := #[5, 6], accessFlags := 1041 }

def heap : Heap := #[]
def classes : Array Class := #[k0, k1, k2, k3, k4, k5, k6, k7, k8, k9, k10]
def interned : List (Array UInt16 × Addr) := []
def slotsUsed : Nat := 0
def theMethod : MethodId := ⟨1, 1⟩
def args0 : Array Value := #[.int 5, .int 5, .int 5, .int 5]
def aboutOver (below : List Frame) : State where
  vm := { classes := classes, interned := interned.toArray }
  heap := heap
  slotsUsed := slotsUsed
  threads := #[{ frames := .invoking theMethod args0 :: below }]
def below0 : List Frame := [.native { method := ⟨0, 0⟩, args := #[] }]
def about1 : State := aboutOver below0
def p0 : Program := .bare "" "" ""
def e0 : Env := launch0.env 0 0 0
theorem w_frames : about1.frames = Frame.invoking theMethod args0 :: below0 := rfl
set_option maxRecDepth 65536 in
theorem w_args : argsFit about1.vm theMethod args0 = true := by decide +kernel
set_option maxRecDepth 65536 in
theorem w_heap : heapFits about1 = true := by decide +kernel
set_option maxRecDepth 65536 in
theorem w_runnable : about1.curStatus? = some .runnable := by decide +kernel
set_option maxRecDepth 65536 in
theorem w_alone : about1.alone = true := by decide +kernel
set_option maxRecDepth 65536 in
theorem w_named : about1.methodNamed? x = some theMethod := by decide +kernel
set_option maxRecDepth 65536 in
theorem w_hears : about1.hears theMethod below0 = true := by decide +kernel
set_option maxRecDepth 65536 in
theorem w_ripe : about1.ripe theMethod args0 below0 = true := by decide +kernel
theorem w_running : about1.status = .running := rfl
set_option maxRecDepth 65536 in
theorem w_room : about1.hasRoom e0.platform room_1 = true :=
  launch0.hasRoom_least _ room_1 (by decide +kernel) (by decide +kernel) (by decide +kernel) (by decide +kernel) (by decide +kernel) (by decide +kernel)
theorem allAtoms_all (ts : List Jvm.Cond) (a : Array Jvm.Value) (st : Jvm.State) : (allAtoms ts).before a st = ts.all (fun c => c.before a st) := by
  induction ts with
  | nil => rfl
  | cons c t ih =>
    show (Jvm.Cond.and c (allAtoms t)).before a st = _
    rw [Jvm.Cond.before_and, ih, List.all_cons]
def words1 : List Jvm.Cond := Jvm.Cond.code x code maxLocals ret :: tables_1
/-- a 'code' word, met by the world's own term for the bytes: nothing is compared byte by byte -/
theorem code_word {y : MethodName} {bytes : ByteArray} {mx : Nat} {rt : Option FieldType} {a : Array Value} {s : State} {m : MethodId} {meth : Method} {c : Code} (h1 : s.methodNamed? y = some m) (h2 : s.vm.method? m = some meth) (h3 : meth.code = some c) (h4 : c.code = bytes)
    (h5 : (c.maxLocals == mx && c.exceptionTable.isEmpty && decide (c.maxStack ≤ mostOperands) && decide (meth.sig.returnType = rt) && !meth.locks && decide (parseMethodDescriptor y.desc = some meth.sig)) = true) : (Jvm.Cond.code y bytes mx rt).before a s = true := by
  simp only [Bool.and_eq_true, beq_iff_eq, Bool.not_eq_true', decide_eq_true_eq] at h5
  obtain ⟨⟨⟨⟨⟨g1, g2⟩, g3⟩, g4⟩, g5⟩, g6⟩ := h5
  simp [Cond.before, Cond.holds, Cond.value, h1, h2, h3, h4, g1, g2, g3, g4, g5, g6]
def isCode : Jvm.Cond → Bool
  | .code _ _ _ _ => true
  | _ => false
theorem all_split {L : List Jvm.Cond} {P : Jvm.Cond → Bool} (h1 : L.all (fun c => isCode c || P c) = true) (h2 : ∀ c ∈ L.filter isCode, P c = true) : L.all P = true := by
  refine List.all_eq_true.mpr fun c hc => ?_
  have h := List.all_eq_true.mp h1 c hc
  rcases Bool.eq_false_or_eq_true (isCode c) with hi | hi
  · exact h2 c (List.mem_filter.mpr ⟨hc, hi⟩)
  · simpa [hi] using h
set_option maxRecDepth 65536 in
theorem w_c0 : (Jvm.Cond.code x code maxLocals ret).before args0 about1 = true := code_word (m := ⟨1, 1⟩) (meth := k1m1) (c := k1c1) (by decide +kernel) rfl rfl rfl (by decide +kernel)
set_option maxRecDepth 65536 in
theorem w_c1 : (Jvm.Cond.code ({ cls := "java/lang/Math", name := "min", desc := "(II)I" } : Jvm.MethodName) jdk_29_method_69_code (2 : Nat) (Option.some Jvm.ClassFile.FieldType.int)).before args0 about1 = true := code_word (m := ⟨2, 1⟩) (meth := k2m1) (c := k2c1) (by decide +kernel) rfl rfl rfl (by decide +kernel)
set_option maxRecDepth 65536 in
theorem w_c2 : (Jvm.Cond.code ({ cls := "com/example/tally/tally/score/QuestionScore", name := "<init>", desc := "(III)V" } : Jvm.MethodName) prog_51_method_1_code (4 : Nat) (Option.none : Option Jvm.ClassFile.FieldType)).before args0 about1 = true := code_word (m := ⟨4, 0⟩) (meth := k4m0) (c := k4c0) (by decide +kernel) rfl rfl rfl (by decide +kernel)
set_option maxRecDepth 65536 in
theorem w_c3 : (Jvm.Cond.code ({ cls := "java/lang/Record", name := "<init>", desc := "()V" } : Jvm.MethodName) jdk_30_method_1_code (1 : Nat) (Option.none : Option Jvm.ClassFile.FieldType)).before args0 about1 = true := code_word (m := ⟨3, 0⟩) (meth := k3m0) (c := k3c0) (by decide +kernel) rfl rfl rfl (by decide +kernel)
set_option maxRecDepth 65536 in
theorem w_c4 : (Jvm.Cond.code ({ cls := "java/lang/Object", name := "<init>", desc := "()V" } : Jvm.MethodName) object_method_1_code (1 : Nat) (Option.none : Option Jvm.ClassFile.FieldType)).before args0 about1 = true := code_word (m := ⟨0, 0⟩) (meth := k0m0) (c := k0c0) (by decide +kernel) rfl rfl rfl (by decide +kernel)
set_option maxRecDepth 65536 in
theorem w_c5 : (Jvm.Cond.code ({ cls := "com/example/tally/tally/score/QuestionScore", name := "f1", desc := "()D" } : Jvm.MethodName) prog_51_method_5_code (1 : Nat) (Option.some Jvm.ClassFile.FieldType.double)).before args0 about1 = true := code_word (m := ⟨4, 1⟩) (meth := k4m1) (c := k4c1) (by decide +kernel) rfl rfl rfl (by decide +kernel)
def codes1 : List Jvm.Cond := [Jvm.Cond.code x code maxLocals ret, Jvm.Cond.code ({ cls := "java/lang/Math", name := "min", desc := "(II)I" } : Jvm.MethodName) jdk_29_method_69_code (2 : Nat) (Option.some Jvm.ClassFile.FieldType.int), Jvm.Cond.code ({ cls := "com/example/tally/tally/score/QuestionScore", name := "<init>", desc := "(III)V" } : Jvm.MethodName) prog_51_method_1_code (4 : Nat) (Option.none : Option Jvm.ClassFile.FieldType), Jvm.Cond.code ({ cls := "java/lang/Record", name := "<init>", desc := "()V" } : Jvm.MethodName) jdk_30_method_1_code (1 : Nat) (Option.none : Option Jvm.ClassFile.FieldType), Jvm.Cond.code ({ cls := "java/lang/Object", name := "<init>", desc := "()V" } : Jvm.MethodName) object_method_1_code (1 : Nat) (Option.none : Option Jvm.ClassFile.FieldType), Jvm.Cond.code ({ cls := "com/example/tally/tally/score/QuestionScore", name := "f1", desc := "()D" } : Jvm.MethodName) prog_51_method_5_code (1 : Nat) (Option.some Jvm.ClassFile.FieldType.double)]
set_option maxRecDepth 65536 in
theorem codes_eq : words1.filter isCode = codes1 := rfl
theorem w_codes : ∀ c ∈ words1.filter isCode, c.before args0 about1 = true := by
  rw [codes_eq]
  intro c hc
  simp only [codes1, List.mem_cons, List.not_mem_nil, or_false] at hc
  rcases hc with rfl | rfl | rfl | rfl | rfl | rfl
  · exact w_c0
  · exact w_c1
  · exact w_c2
  · exact w_c3
  · exact w_c4
  · exact w_c5
set_option maxRecDepth 65536 in
theorem w_t1 : (words1.take 24).all (fun c => isCode c || c.before args0 about1) = true := by decide +kernel
set_option maxRecDepth 65536 in
theorem w_t2 : (words1.drop 24).all (fun c => isCode c || c.before args0 about1) = true := by decide +kernel
theorem w_tables : (allAtoms (Jvm.Cond.code x code maxLocals ret :: tables_1)).before args0 about1 = true := by
  rw [allAtoms_all]
  show words1.all (fun c => c.before args0 about1) = true
  refine all_split ?_ w_codes
  rw [← List.take_append_drop 24 words1, List.all_append, w_t1, w_t2]
  rfl
set_option maxRecDepth 65536 in
theorem w_case : (Jvm.Cond.and given_1 narrow_1).before args0 about1 = true := by decide +kernel
theorem w_applies : (headSpec (Jvm.Cond.code x code maxLocals ret :: tables_1) room_1).applies x e0.platform about1 = true :=
  (Spec.applies_iff w_frames).mpr ⟨w_running, w_runnable, w_alone, w_named, w_hears, w_ripe, w_room, w_tables⟩
theorem atStart : AtStart classFile x code maxLocals ret World_1 tables_1 room_1 Calls_1 rest_1 Pre_1 launch0 p0 e0 about1 theMethod args0 below0 :=
  ⟨lists_1, trivial, launch0.admits_env _ _ _, launch0.least_env, fairChoices_fair.cas, fairChoices_fair.clock, w_frames, w_args, w_heap, w_applies, trivial, trivial, w_case⟩
end start1
theorem witness_1 : WitnessClaimed_1 := ⟨start1.p0, start1.e0, start1.about1, start1.theMethod, start1.args0, start1.below0, start1.atStart⟩
end Jvm.Pilot.@@N@@
