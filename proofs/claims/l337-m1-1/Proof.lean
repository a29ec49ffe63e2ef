import JvmDerived
import JvmDerived.Pilot.@@N@@Statement
import JvmDerived.Pilot.@@N@@Code
set_option linter.unusedVariables false
set_option linter.unusedSimpArgs false
@@BLOCK:NumsL.lean.txt@@
namespace Jvm.RoadKit
open Sem ClassFile Op Lib Jvm.Stand Jvm.Free Jvm.LawKit
section OwnSteps
variable {tb : Tables} [Ours tb] {e : Env} {below : List Frame} {T target : State} {m : MethodId} {c : Code} {g : JFrame}
theorem own_dloadN (h : At T m c below) (hx : tb.exec = Jvm.exec) (hg : g.method = m) {k : Fin 4} {v : UInt64} (hd : decode c.code g.pc = .ok (.dload_n k, 1)) (hl : g.locals[k.val]? = some (.val (.double v)))
    (hr : Steps tb e below (T.setTop { g with pc := g.pc + 1, stack := .double v :: g.stack }) target) : Steps tb e below (T.setTop g) target := by
  subst hg
  jvm_step h [h.top, hx, hd, hl]
  exact hr
theorem own_dload (h : At T m c below) (hx : tb.exec = Jvm.exec) (hg : g.method = m) {k : Nat} {v : UInt64} (hd : decode c.code g.pc = .ok (.dload k, 2)) (hl : g.locals[k]? = some (.val (.double v)))
    (hr : Steps tb e below (T.setTop { g with pc := g.pc + 2, stack := .double v :: g.stack }) target) : Steps tb e below (T.setTop g) target := by
  subst hg
  jvm_step h [h.top, hx, hd, hl]
  exact hr
theorem own_dstoreN (h : At T m c below) (hx : tb.exec = Jvm.exec) (hg : g.method = m) {k : Fin 4} {x : UInt64} {rest : List Value} {l' : Array Slot} (hd : decode c.code g.pc = .ok (.dstore_n k, 1)) (hs : g.stack = .double x :: rest) (hl : storeLocals g.locals k.val (.double x) = some l')
    (hr : Steps tb e below (T.setTop { g with pc := g.pc + 1, stack := rest, locals := l' }) target) : Steps tb e below (T.setTop g) target := by
  subst hg
  jvm_step h [h.top, hx, hd, hs, hl]
  exact hr
theorem own_dstore (h : At T m c below) (hx : tb.exec = Jvm.exec) (hg : g.method = m) {k : Nat} {x : UInt64} {rest : List Value} {l' : Array Slot} (hd : decode c.code g.pc = .ok (.dstore k, 2)) (hs : g.stack = .double x :: rest) (hl : storeLocals g.locals k (.double x) = some l')
    (hr : Steps tb e below (T.setTop { g with pc := g.pc + 2, stack := rest, locals := l' }) target) : Steps tb e below (T.setTop g) target := by
  subst hg
  jvm_step h [h.top, hx, hd, hs, hl]
  exact hr
theorem own_i2d (h : At T m c below) (hx : tb.exec = Jvm.exec) (hg : g.method = m) {x : Int32} {rest : List Value} (hd : decode c.code g.pc = .ok (.i2d, 1)) (hs : g.stack = .int x :: rest)
    (hr : Steps tb e below (T.setTop { g with pc := g.pc + 1, stack := .double (FP.i2d x) :: rest }) target) : Steps tb e below (T.setTop g) target := by
  subst hg
  jvm_step h [h.top, hx, hd, hs]
  exact hr
theorem own_l2d (h : At T m c below) (hx : tb.exec = Jvm.exec) (hg : g.method = m) {x : Int64} {rest : List Value} (hd : decode c.code g.pc = .ok (.l2d, 1)) (hs : g.stack = .long x :: rest)
    (hr : Steps tb e below (T.setTop { g with pc := g.pc + 1, stack := .double (FP.l2d x) :: rest }) target) : Steps tb e below (T.setTop g) target := by
  subst hg
  jvm_step h [h.top, hx, hd, hs]
  exact hr
theorem own_d2l (h : At T m c below) (hx : tb.exec = Jvm.exec) (hg : g.method = m) {x : UInt64} {rest : List Value} (hd : decode c.code g.pc = .ok (.d2l, 1)) (hs : g.stack = .double x :: rest)
    (hr : Steps tb e below (T.setTop { g with pc := g.pc + 1, stack := .long (FP.d2l x) :: rest }) target) : Steps tb e below (T.setTop g) target := by
  subst hg
  jvm_step h [h.top, hx, hd, hs]
  exact hr
theorem own_d2i (h : At T m c below) (hx : tb.exec = Jvm.exec) (hg : g.method = m) {x : UInt64} {rest : List Value} (hd : decode c.code g.pc = .ok (.d2i, 1)) (hs : g.stack = .double x :: rest)
    (hr : Steps tb e below (T.setTop { g with pc := g.pc + 1, stack := .int (FP.d2i x) :: rest }) target) : Steps tb e below (T.setTop g) target := by
  subst hg
  jvm_step h [h.top, hx, hd, hs]
  exact hr
theorem own_dneg (h : At T m c below) (hx : tb.exec = Jvm.exec) (hg : g.method = m) {x : UInt64} {rest : List Value} (hd : decode c.code g.pc = .ok (.dneg, 1)) (hs : g.stack = .double x :: rest)
    (hr : Steps tb e below (T.setTop { g with pc := g.pc + 1, stack := .double (FP.dneg x) :: rest }) target) : Steps tb e below (T.setTop g) target := by
  subst hg
  jvm_step h [h.top, hx, hd, hs]
  exact hr
theorem own_dcmp (h : At T m c below) (hx : tb.exec = Jvm.exec) (hg : g.method = m) {op : CmpOp} {x y : UInt64} {rest : List Value} (hd : decode c.code g.pc = .ok (.dcmp op, 1)) (hs : g.stack = .double y :: .double x :: rest)
    (hr : Steps tb e below (T.setTop { g with pc := g.pc + 1, stack := .int (cmpValue (FP.dcmp x y) op) :: rest }) target) : Steps tb e below (T.setTop g) target := by
  subst hg
  jvm_step h [h.top, hx, hd, hs]
  exact hr
theorem own_dconst0 (h : At T m c below) (hx : tb.exec = Jvm.exec) (hg : g.method = m) (hd : decode c.code g.pc = .ok (.dconst 0, 1))
    (hr : Steps tb e below (T.setTop { g with pc := g.pc + 1, stack := .double (0 : UInt64) :: g.stack }) target) : Steps tb e below (T.setTop g) target := by
  subst hg
  jvm_step h [h.top, hx, hd]
  exact hr
theorem own_dconst1 (h : At T m c below) (hx : tb.exec = Jvm.exec) (hg : g.method = m) (hd : decode c.code g.pc = .ok (.dconst 1, 1))
    (hr : Steps tb e below (T.setTop { g with pc := g.pc + 1, stack := .double (4607182418800017408 : UInt64) :: g.stack }) target) : Steps tb e below (T.setTop g) target := by
  subst hg
  jvm_step h [h.top, hx, hd]
  exact hr
/-- no NaN, as the steps' law asks it -/
abbrev OwnNum (x : UInt64) : Prop := x &&& 0x7fffffffffffffff ≤ 0x7ff0000000000000
theorem own_dadd (h : At T m c below) (hx : tb.exec = Jvm.exec) (hg : g.method = m) {x y : UInt64} {rest : List Value} (hd : decode c.code g.pc = .ok (.dadd, 1)) (hs : g.stack = .double y :: .double x :: rest) (hn : OwnNum (FP.dadd x y))
    (hr : Steps tb e below (T.setTop { g with pc := g.pc + 1, stack := .double (FP.dadd x y) :: rest }) target) : Steps tb e below (T.setTop g) target := by
  subst hg
  obtain ⟨gm, gpc, gl, gs, gk, ge, gr⟩ := g
  cases hs
  jvm_step h [h.top, hx, hd, Op.dadd.at_number h.top hn]
  exact hr
theorem own_dsub (h : At T m c below) (hx : tb.exec = Jvm.exec) (hg : g.method = m) {x y : UInt64} {rest : List Value} (hd : decode c.code g.pc = .ok (.dsub, 1)) (hs : g.stack = .double y :: .double x :: rest) (hn : OwnNum (FP.dsub x y))
    (hr : Steps tb e below (T.setTop { g with pc := g.pc + 1, stack := .double (FP.dsub x y) :: rest }) target) : Steps tb e below (T.setTop g) target := by
  subst hg
  obtain ⟨gm, gpc, gl, gs, gk, ge, gr⟩ := g
  cases hs
  jvm_step h [h.top, hx, hd, Op.dsub.at_number h.top hn]
  exact hr
theorem own_dmul (h : At T m c below) (hx : tb.exec = Jvm.exec) (hg : g.method = m) {x y : UInt64} {rest : List Value} (hd : decode c.code g.pc = .ok (.dmul, 1)) (hs : g.stack = .double y :: .double x :: rest) (hn : OwnNum (FP.dmul x y))
    (hr : Steps tb e below (T.setTop { g with pc := g.pc + 1, stack := .double (FP.dmul x y) :: rest }) target) : Steps tb e below (T.setTop g) target := by
  subst hg
  obtain ⟨gm, gpc, gl, gs, gk, ge, gr⟩ := g
  cases hs
  jvm_step h [h.top, hx, hd, Op.dmul.at_number h.top hn]
  exact hr
theorem own_ddiv (h : At T m c below) (hx : tb.exec = Jvm.exec) (hg : g.method = m) {x y : UInt64} {rest : List Value} (hd : decode c.code g.pc = .ok (.ddiv, 1)) (hs : g.stack = .double y :: .double x :: rest) (hn : OwnNum (FP.ddiv x y))
    (hr : Steps tb e below (T.setTop { g with pc := g.pc + 1, stack := .double (FP.ddiv x y) :: rest }) target) : Steps tb e below (T.setTop g) target := by
  subst hg
  obtain ⟨gm, gpc, gl, gs, gk, ge, gr⟩ := g
  cases hs
  jvm_step h [h.top, hx, hd, Op.ddiv.at_number h.top hn]
  exact hr
end OwnSteps
/-- the run from S ends by a return, with what Q says of its value, the heap and the places written -/
def Go (tb : Tables) (e : Env) (below : List Frame) (s : State) (k n : Nat) (Q : Option Value → Heap → List Loc → Prop) (S : State) : Prop :=
  ∃ s₂ o, Steps tb e below S s₂ ∧ s₂.status = .running ∧ Ended s₂ below o ∧ ∃ v L, o = .returned v ∧ Q v s₂.heap L ∧ FrameEnd s o s₂ L k n
theorem Go.adv {tb : Tables} {e : Env} {below : List Frame} {s : State} {k n : Nat} {Q : Option Value → Heap → List Loc → Prop} {S S' : State} (h : ∀ t, Steps tb e below S' t → Steps tb e below S t) (g : Go tb e below s k n Q S') : Go tb e below s k n Q S := by
  obtain ⟨s₂, o, h1, h2⟩ := g
  exact ⟨s₂, o, h _ h1, h2⟩
theorem Go.tr {tb : Tables} {e : Env} {below : List Frame} {s : State} {k n : Nat} {Q : Option Value → Heap → List Loc → Prop} {S S' : State} (h : Steps tb e below S S') (g : Go tb e below s k n Q S') : Go tb e below s k n Q S := by
  obtain ⟨s₂, o, h1, h2⟩ := g
  exact ⟨s₂, o, h.trans h1, h2⟩
theorem Go.start {tb : Tables} {e : Env} {below : List Frame} {s : State} {k n : Nat} {Q : Option Value → Heap → List Loc → Prop} {T : State} {g g' : JFrame} (q : g = g') (h : Go tb e below s k n Q (T.setTop g')) :
    ∃ s₂ o, Steps tb e below (T.setTop g) s₂ ∧ s₂.status = .running ∧ Ended s₂ below o ∧ ∃ v L, o = .returned v ∧ Q v s₂.heap L ∧ FrameEnd s o s₂ L k n := by
  subst q; exact h
theorem own_lrem {tb : Tables} [Ours tb] {e : Env} {below : List Frame} {T target : State} {m : MethodId} {c : Code} {g : JFrame} (h : At T m c below) (hx : tb.exec = Jvm.exec) (hg : g.method = m) {x y : Int64} {rest : List Value} (hd : decode c.code g.pc = .ok (.lrem, 1)) (hs : g.stack = .long y :: .long x :: rest) (hy : ¬ y = 0)
    (hr : Steps tb e below (T.setTop { g with pc := g.pc + 1, stack := .long (x - (x / y) * y) :: rest }) target) : Steps tb e below (T.setTop g) target := by
  subst hg
  jvm_step h [h.top, hx, hd, hs, hy]
  exact hr
theorem own_hide {p : Program} {l : Launch} {e : Env} {R : Room} {s : State} {m : MethodId} {args : Array Value} {below : List Frame} {meth : Method} {c : Code} {T : State} {L : List Loc} {k n a : Nat} (X : Stand p l e R s m args below meth c T L k n) (N : Fr a L) : ∃ L', Stand p l e R s m args below meth c T L' k n ∧ Fr a L' := ⟨L, X, N⟩
theorem own_staKeep0 {Z : State} {h h' : Heap} {C n d : String} {w : Value} (F : Sta Z h C n d w) (K : Keep h h' []) : Sta Z h' C n d w := by
  obtain ⟨cf, i, k, f, st, cell, h1, h2, h3, h4, h5, h6, h7⟩ := F
  exact ⟨cf, i, k, f, st, cell, h1, h2, h3, h4, K.2.1 st cell h5 nin0, h6, h7⟩
theorem own_staKeep {Z : State} {h h' : Heap} {C n d D : String} {w : Value} {a : Addr} (F : Sta Z h C n d w) (K : Keep h h' [a]) (E : Exa Z h a D) : Sta Z h' C n d w := by
  obtain ⟨cf, i, k, f, st, cell, h1, h2, h3, h4, h5, h6, h7⟩ := F
  obtain ⟨c2, k2, e1, -, -, e4, -⟩ := E
  refine ⟨cf, i, k, f, st, cell, h1, h2, h3, h4, K.2.1 st cell h5 fun hm => ?_, h6, h7⟩
  cases List.mem_singleton.mp hm
  cases h5.symm.trans e1
  rw [h6] at e4; cases e4
section OwnRet
variable {p : Program} {l : Launch} {e : Env} {R : Room} {s : State} {m : MethodId} {args : Array Value} {below : List Frame} {meth : Method} {c : Code} {T : State} {locs : List Loc} {cells slots : Nat}
theorem Go.ret (X : Stand p l e R s m args below meth c T locs cells slots) {v : Option Value} (hv : meth.sig.returnType = none → v = none) (hlk : meth.locks = false) {k n : Nat} {Q : Option Value → Heap → List Loc → Prop} {S : State}
    (hs : ∀ fs, (∀ (f : JFrame) (acts : List Action), f.method = m → f.locked = none → f.entered = [] → (doReturn e (T.setTop f) acts v).1 = T.setFrames fs) → Steps p.tables e below S (T.setFrames fs))
    (hQ : Q v T.heap locs) (hk : cells ≤ k) (hn : slots ≤ n) : Go p.tables e below s k n Q S := by
  obtain ⟨fs, hr, hrun, hended, hW, hsame⟩ := X.leave (v := v) hv hlk
  exact ⟨_, _, hs fs hr, hrun, hended, _, _, rfl, hQ, ⟨_, rfl⟩, hW, hsame.mono hk hn⟩
/-- the same, where String constants may have been made: the wide frame -/
def GoW (tb : Tables) (e : Env) (below : List Frame) (s : State) (k n : Nat) (Q : Option Value → Heap → List Loc → Prop) (S : State) : Prop :=
  ∃ s₂ o, Steps tb e below S s₂ ∧ s₂.status = .running ∧ Ended s₂ below o ∧ ∃ v L, o = .returned v ∧ Q v s₂.heap L ∧ ReturnedEndW s o s₂ L k n
theorem GoW.adv {tb : Tables} {e : Env} {below : List Frame} {s : State} {k n : Nat} {Q : Option Value → Heap → List Loc → Prop} {S S' : State} (h : ∀ t, Steps tb e below S' t → Steps tb e below S t) (g : GoW tb e below s k n Q S') : GoW tb e below s k n Q S := by
  obtain ⟨s₂, o, h1, h2⟩ := g
  exact ⟨s₂, o, h _ h1, h2⟩
theorem GoW.tr {tb : Tables} {e : Env} {below : List Frame} {s : State} {k n : Nat} {Q : Option Value → Heap → List Loc → Prop} {S S' : State} (h : Steps tb e below S S') (g : GoW tb e below s k n Q S') : GoW tb e below s k n Q S := by
  obtain ⟨s₂, o, h1, h2⟩ := g
  exact ⟨s₂, o, h.trans h1, h2⟩
theorem GoW.start {tb : Tables} {e : Env} {below : List Frame} {s : State} {k n : Nat} {Q : Option Value → Heap → List Loc → Prop} {T : State} {g g' : JFrame} (q : g = g') (h : GoW tb e below s k n Q (T.setTop g')) :
    ∃ s₂ o, Steps tb e below (T.setTop g) s₂ ∧ s₂.status = .running ∧ Ended s₂ below o ∧ ∃ v L, o = .returned v ∧ Q v s₂.heap L ∧ ReturnedEndW s o s₂ L k n := by
  subst q; exact h
theorem GoW.ret {vm : Vm} (X : Stand p l e R (s.setVm vm) m args below meth c T locs cells slots) {kk : Nat} (hS : s.Since vm kk) (hkk : kk ≤ T.heap.size) {v : Option Value} (hv : meth.sig.returnType = none → v = none) (hlk : meth.locks = false) {k n : Nat} {Q : Option Value → Heap → List Loc → Prop} {S : State}
    (hs : ∀ fs, (∀ (f : JFrame) (acts : List Action), f.method = m → f.locked = none → f.entered = [] → (doReturn e (T.setTop f) acts v).1 = T.setFrames fs) → Steps p.tables e below S (T.setFrames fs))
    (hQ : Q v T.heap locs) (hk : cells ≤ k) (hn : slots ≤ n) : GoW p.tables e below s k n Q S := by
  obtain ⟨fs, hr, hrun, hended, h1, h2, h3, h4⟩ := X.leaveW hS hkk (v := v) hv hlk
  exact ⟨_, _, hs fs hr, hrun, hended, _, _, rfl, hQ, h1, h2, h3, h4.mono hk hn⟩
end OwnRet
end Jvm.RoadKit
namespace Jvm.Own
open Jvm.FP.Core
/-- a datum times 2^k -/
def sh (k : Int) : Datum → Datum
  | .nan => .nan
  | .inf s => .inf s
  | .fin s c q => .fin s c (q + k)
/-- the double a is i / 2^k -/
def Dy (k : Nat) (i : Int) (a : UInt64) : Prop := Whole i (sh k (val64 a))
theorem whole_shape {i : Int} {d : Datum} (h : Whole i d) : ∃ s c q, d = .fin s c q := by
  cases d with
  | nan => exact h.elim
  | inf => exact h.elim
  | fin s c q => exact ⟨s, c, q, rfl⟩
theorem sh_shape {k : Int} {i : Int} {d : Datum} (h : Whole i (sh k d)) : ∃ s c q, d = .fin s c q := by
  cases d with
  | nan => exact h.elim
  | inf => exact h.elim
  | fin s c q => exact ⟨s, c, q, rfl⟩
theorem units_sh (c : Nat) (q e k : Int) : inUnits c (q + k) (e + k) = inUnits c q e := by
  show c * 2 ^ (q + k - (e + k)).toNat = c * 2 ^ (q - e).toNat
  rw [show q + k - (e + k) = q - e by omega]
theorem sum_sh (k : Int) (s : Bool) (c : Nat) (q : Int) (t : Bool) (d : Nat) (r : Int) : exactSum (.fin s c (q + k)) (.fin t d (r + k)) = sh k (exactSum (.fin s c q) (.fin t d r)) := by
  have hm : min (q + k) (r + k) = min q r + k := by omega
  have hu : sumUnits s c (q + k) t d (r + k) (min q r + k) = sumUnits s c q t d r (min q r) := by
    show signed s (inUnits c (q + k) (min q r + k)) + signed t (inUnits d (r + k) (min q r + k)) = signed s (inUnits c q (min q r)) + signed t (inUnits d r (min q r))
    rw [units_sh, units_sh]
  show Datum.fin (sumSign s t (sumUnits s c (q + k) t d (r + k) (min (q + k) (r + k)))) (sumUnits s c (q + k) t d (r + k) (min (q + k) (r + k))).natAbs (min (q + k) (r + k)) = Datum.fin (sumSign s t (sumUnits s c q t d r (min q r))) (sumUnits s c q t d r (min q r)).natAbs (min q r + k)
  rw [hm, hu]
theorem round_sh {k : Nat} (hk : k ≤ 900) {i : Int} (hi : i.natAbs ≤ 2 ^ 53) {d : Datum} (h : Whole i (sh k d)) : Whole i (sh k (round b64 d)) := by
  obtain ⟨s, c, q, rfl⟩ := sh_shape h
  have h' : Whole i (.fin s c (q + k)) := h
  by_cases h0 : i = 0
  · have hc : c = 0 := (whole_zero h').mpr h0
    subst hc
    subst h0
    have e1 : round b64 (.fin s 0 q) = .fin s 0 b64.qmin := (if_pos rfl : roundRatio b64 s 0 1 q = _)
    rw [e1]
    show signed s (0 * 2 ^ (b64.qmin + k).toNat) = 0 * _
    rw [Nat.zero_mul, Int.zero_mul]
    exact signed_zero s
  · obtain ⟨c0, q0, hfit, hv⟩ := natFit good_b64 wide_b64 s (n := i.natAbs) (show _ ≤ 2 ^ 53 from hi)
    have hs := whole_sign h' h0
    have hn := whole_natAbs h'
    have hW : Whole i (.fin s i.natAbs 0) := by rw [hs]; exact whole_ofInt i
    have e1 : round b64 (.fin s i.natAbs 0) = .fin s c0 q0 := roundRatio_exact good_b64 (by decide) hfit hv
    have hW2 := whole_round good_b64 wide_b64 (show _ ≤ 2 ^ 53 from hi) hW
    rw [e1] at hW2
    have hq : -100 ≤ q0 := by
      refine Int.not_lt.mp fun hlt => ?_
      have p1 : (q0 - 0).toNat = 0 := by omega
      have p2 : 2 ^ 101 ≤ 2 ^ (0 - q0).toNat := Nat.pow_le_pow_right (by decide) (by omega)
      have p3 : 1 * 2 ^ (0 - q0).toNat ≤ i.natAbs * 2 ^ (0 - q0).toNat := Nat.mul_le_mul_right _ (by omega)
      have p4 : c0 < 2 ^ 53 := hfit.1
      rw [hv, p1, Nat.pow_zero, Nat.mul_one, Nat.mul_one, Nat.one_mul] at p3
      have p5 : (2 : Nat) ^ 53 ≤ 2 ^ 101 := Nat.pow_le_pow_right (by decide) (by decide)
      exact absurd (Nat.lt_of_le_of_lt (Nat.le_trans p2 p3) p4) (Nat.not_lt.mpr p5)
    have hfit' : Jvm.FP.Core.fits b64 (.fin s c0 (q0 - k)) := by
      obtain ⟨f1, f2, f3, f4⟩ := hfit
      refine ⟨f1, ?_, by omega, Or.inr ?_⟩
      · rw [qmin_b64]; omega
      · rcases f4 with f4 | f4
        · rw [qmin_b64] at f4; omega
        · exact f4
    have e2 : round b64 (.fin s c q) = .fin s c0 (q0 - k) := by
      show roundRatio b64 s c 1 q = _
      rw [roundRatio_congr (A' := i.natAbs) (B' := 1) (e' := -(k : Int)) (by decide) (by decide) (by
        rw [show q - -(k : Int) = q + k by omega, show -(k : Int) - q = -(q + k) by omega, Nat.mul_one, Nat.mul_one]; exact hn)]
      exact roundRatio_exact good_b64 (by decide) hfit' (by
        rw [show -(k : Int) - (q0 - k) = 0 - q0 by omega, show q0 - k - -(k : Int) = q0 - 0 by omega]; exact hv)
    rw [e2]
    show Whole i (.fin s c0 (q0 - k + k))
    rw [Int.sub_add_cancel]
    exact hW2
theorem Dy.of {i : Int} {a : UInt64} (h : DInt i a) : Dy 0 i a := by
  have h1 : Whole i (val64 a) := h
  obtain ⟨s, c, q, e⟩ := whole_shape h1
  show Whole i (sh 0 (val64 a))
  rw [e] at h1 ⊢
  show Whole i (.fin s c (q + 0))
  rw [Int.add_zero]; exact h1
theorem Dy.int {i : Int} {a : UInt64} (h : Dy 0 i a) : DInt i a := by
  have h1 : Whole i (sh 0 (val64 a)) := h
  obtain ⟨s, c, q, e⟩ := sh_shape h1
  show Whole i (val64 a)
  rw [e] at h1 ⊢
  have h2 : Whole i (.fin s c (q + 0)) := h1
  rw [Int.add_zero] at h2; exact h2
theorem Dy.fin {k : Nat} {i : Int} {a : UInt64} (h : Dy k i a) : DFin a := sh_shape h
theorem Dy.add {k : Nat} {i j : Int} {a b : UInt64} (ha : Dy k i a) (hb : Dy k j b) (hk : k ≤ 900) (h : (i + j).natAbs ≤ 2 ^ 53) : Dy k (i + j) (dadd a b) := by
  show Whole _ (sh k (val64 (dadd a b)))
  rw [val64_dadd]
  refine round_sh hk h ?_
  have ha' : Whole i (sh k (val64 a)) := ha
  have hb' : Whole j (sh k (val64 b)) := hb
  obtain ⟨s, c, q, e1⟩ := sh_shape ha'
  obtain ⟨t, d, r, e2⟩ := sh_shape hb'
  rw [e1] at ha' ⊢
  rw [e2] at hb' ⊢
  rw [← sum_sh]
  exact whole_sum ha' hb'
theorem Dy.sub {k : Nat} {i j : Int} {a b : UInt64} (ha : Dy k i a) (hb : Dy k j b) (hk : k ≤ 900) (h : (i - j).natAbs ≤ 2 ^ 53) : Dy k (i - j) (dsub a b) := by
  show Whole _ (sh k (val64 (dsub a b)))
  rw [val64_dsub]
  refine round_sh hk h ?_
  have ha' : Whole i (sh k (val64 a)) := ha
  have hb' : Whole j (sh k (val64 b)) := hb
  obtain ⟨s, c, q, e1⟩ := sh_shape ha'
  obtain ⟨t, d, r, e2⟩ := sh_shape hb'
  rw [e1] at ha' ⊢
  rw [e2] at hb' ⊢
  show Whole (i - j) (sh k (exactSum (.fin s c q) (.fin (!t) d r)))
  rw [← sum_sh]
  exact whole_sum ha' (whole_negate hb')
theorem Dy.mul {k n : Nat} {i j : Int} {a b : UInt64} (ha : Dy k i a) (hb : Dy n j b) (hk : k + n ≤ 900) (h : (i * j).natAbs ≤ 2 ^ 53) : Dy (k + n) (i * j) (dmul a b) := by
  show Whole _ (sh ((k + n : Nat) : Int) (val64 (dmul a b)))
  rw [val64_dmul]
  refine round_sh hk h ?_
  have ha' : Whole i (sh k (val64 a)) := ha
  have hb' : Whole j (sh n (val64 b)) := hb
  obtain ⟨s, c, q, e1⟩ := sh_shape ha'
  obtain ⟨t, d, r, e2⟩ := sh_shape hb'
  rw [e1] at ha' ⊢
  rw [e2] at hb' ⊢
  have hp : Whole (i * j) (.fin (s != t) (c * d) ((q + k) + (r + n))) := whole_product ha' hb'
  show Whole (i * j) (.fin (s != t) (c * d) (q + r + ((k + n : Nat) : Int)))
  rw [show q + r + ((k + n : Nat) : Int) = (q + k) + (r + n) by omega]
  exact hp
theorem Dy.cmp {k : Nat} {i j : Int} {a b : UInt64} (ha : Dy k i a) (hb : Dy k j b) : dcmp a b = some (compare i j) := by
  have ha' : Whole i (sh k (val64 a)) := ha
  have hb' : Whole j (sh k (val64 b)) := hb
  show order (val64 a) (val64 b) = _
  obtain ⟨s, c, q, e1⟩ := sh_shape ha'
  obtain ⟨t, d, r, e2⟩ := sh_shape hb'
  rw [e1] at ha' ⊢
  rw [e2] at hb' ⊢
  rw [← order_whole ha' hb']
  show some (compare (signed s (inUnits c q (min q r))) (signed t (inUnits d r (min q r)))) = some (compare (signed s (inUnits c (q + k) (min (q + k) (r + k)))) (signed t (inUnits d (r + k) (min (q + k) (r + k)))))
  rw [show min (q + (k : Int)) (r + k) = min q r + k by omega, units_sh, units_sh]
theorem whole_up {i : Int} {s : Bool} {c : Nat} {q : Int} (n : Nat) (h : Whole i (.fin s c q)) : Whole (i * ((2 ^ n : Nat) : Int)) (.fin s c (q + n)) := by
  have h1 : signed s (c * 2 ^ q.toNat) = i * ((2 ^ (-q).toNat : Nat) : Int) := h
  show signed s (c * 2 ^ (q + n).toNat) = i * ((2 ^ n : Nat) : Int) * ((2 ^ (-(q + n)).toNat : Nat) : Int)
  have p2 : ((2 ^ (-q).toNat : Nat) : Int) ≠ 0 := by
    have := Nat.two_pow_pos (-q).toNat; omega
  refine Int.eq_of_mul_eq_mul_right p2 ?_
  have hx : (q + n).toNat + (-q).toNat = q.toNat + (n + (-(q + n)).toNat) := by omega
  rw [← signed_mul, Nat.mul_assoc, ← Nat.pow_add, hx, Nat.pow_add, ← Nat.mul_assoc, signed_mul, h1, Nat.pow_add, Int.natCast_mul]
  ac_rfl
theorem Dy.up {k : Nat} {i : Int} {a : UInt64} (n : Nat) (h : Dy k i a) : Dy (k + n) (i * ((2 ^ n : Nat) : Int)) a := by
  have h1 : Whole i (sh k (val64 a)) := h
  obtain ⟨s, c, q, e⟩ := sh_shape h1
  show Whole _ (sh ((k + n : Nat) : Int) (val64 a))
  rw [e] at h1 ⊢
  have h2 : Whole i (.fin s c (q + k)) := h1
  have h3 := whole_up n h2
  show Whole _ (.fin s c (q + ((k + n : Nat) : Int)))
  rw [show q + ((k + n : Nat) : Int) = q + k + n by omega]
  exact h3
/-- divided by 2^n -/
theorem Dy.div2 {k n : Nat} {i : Int} {a b : UInt64} {mm : Nat} {r : Int} (h : Dy k i a) (hb : val64 b = .fin false (2 ^ mm) r) (hr : r + mm = n) (hk : k + n ≤ 900) (hi : i.natAbs ≤ 2 ^ 53) : Dy (k + n) i (ddiv a b) := by
  have h1 : Whole i (sh k (val64 a)) := h
  obtain ⟨s, c, q, e⟩ := sh_shape h1
  show Whole _ (sh ((k + n : Nat) : Int) (val64 (ddiv a b)))
  rw [val64_ddiv, hb]
  rw [e] at h1 ⊢
  have hp : 0 < 2 ^ mm := Nat.two_pow_pos mm
  have e1 : quotient b64 (.fin s c q) (.fin false (2 ^ mm) r) = round b64 (.fin s c (q - n)) := by
    show (if 2 ^ mm = 0 then _ else roundRatio b64 (s != false) c (2 ^ mm) (q - r)) = roundRatio b64 s c 1 (q - n)
    rw [if_neg (by omega), show (s != false) = s by cases s <;> rfl]
    refine roundRatio_congr hp (by decide) ?_
    rw [show (q - r - (q - (n : Int))).toNat = mm by omega, show (q - (n : Int) - (q - r)).toNat = 0 by omega, Nat.pow_zero, Nat.mul_one, Nat.mul_one]
  rw [e1]
  refine round_sh hk hi ?_
  have h2 : Whole i (.fin s c (q + k)) := h1
  show Whole i (.fin s c (q - n + ((k + n : Nat) : Int)))
  rw [show q - (n : Int) + ((k + n : Nat) : Int) = q + k by omega]
  exact h2
/-- the quotient of two whole numbers, as a rounded ratio -/
theorem div_ratio {i j : Int} {a b : UInt64} (ha : DInt i a) (hb : DInt j b) (hi : 0 ≤ i) (hj : 0 < j) : ∃ s, val64 (ddiv a b) = roundRatio b64 s i.natAbs j.natAbs 0 ∧ (0 < i → s = false) := by
  have ha' : Whole i (val64 a) := ha
  have hb' : Whole j (val64 b) := hb
  obtain ⟨s, c, q, e1⟩ := whole_shape ha'
  obtain ⟨t, d, r, e2⟩ := whole_shape hb'
  rw [val64_ddiv]
  rw [e1] at ha' ⊢
  rw [e2] at hb' ⊢
  have hd : d ≠ 0 := fun h => by have := (whole_zero hb').mp h; omega
  have ht : t = false := by rw [whole_sign hb' (by omega)]; exact decide_eq_false (by omega)
  have h1 := whole_natAbs ha'
  have h2 := whole_natAbs hb'
  refine ⟨s, ?_, fun h => by rw [whole_sign ha' (by omega)]; exact decide_eq_false (by omega)⟩
  subst ht
  show (if d = 0 then _ else roundRatio b64 (s != false) c d (q - r)) = _
  rw [if_neg hd, show (s != false) = s by cases s <;> rfl]
  refine roundRatio_congr (by omega) (by omega) ?_
  have hx : (q - r - 0).toNat + (-q).toNat + r.toNat = (0 - (q - r)).toNat + q.toNat + (-r).toNat := by omega
  generalize (q - r - 0).toNat = u at hx ⊢
  generalize (0 - (q - r)).toNat = v at hx ⊢
  generalize q.toNat = a1 at hx h1
  generalize (-q).toNat = a2 at hx h1
  generalize r.toNat = b1 at hx h2
  generalize (-r).toNat = b2 at hx h2
  generalize i.natAbs = I at h1 ⊢
  generalize j.natAbs = J at h2 ⊢
  refine Nat.eq_of_mul_eq_mul_right (Nat.two_pow_pos (a1 + b2)) ?_
  calc c * J * 2 ^ u * 2 ^ (a1 + b2) = (c * 2 ^ a1) * (J * 2 ^ b2) * 2 ^ u := by rw [Nat.pow_add]; ac_rfl
    _ = (I * 2 ^ a2) * (d * 2 ^ b1) * 2 ^ u := by rw [h1, ← h2]
    _ = I * d * 2 ^ (u + a2 + b1) := by simp only [Nat.pow_add]; ac_rfl
    _ = I * d * 2 ^ (v + a1 + b2) := by rw [hx]
    _ = I * d * 2 ^ v * 2 ^ (a1 + b2) := by simp only [Nat.pow_add]; ac_rfl
theorem units0 (A : Nat) : inUnits A 0 b64.qmin = A * one64 := by
  show A * 2 ^ (0 - b64.qmin).toNat = A * 2 ^ 1074
  have h1 : (0 - b64.qmin).toNat = 1074 := by decide
  rw [h1]
theorem ratio_le {s : Bool} {A B : Nat} (hB : 0 < B) {V : UInt64} (hV : DFin V) (h : A * one64 ≤ zmag b64 (val64 V) * B) : zmag b64 (roundRatio b64 s A B 0) ≤ zmag b64 (val64 V) := by
  refine zmag_roundRatio_le good_b64 hB (val64_fits V) hV.ne_nan (Int.le_refl _) (by rw [qmin_b64]; decide) ?_
  rw [units0, Int.sub_self]
  show A * one64 ≤ zmag b64 (val64 V) * 1 * B
  rw [Nat.mul_one]; exact h
theorem ratio_ge {s : Bool} {A B : Nat} (hB : 0 < B) {V : UInt64} (h : zmag b64 (val64 V) * B ≤ A * one64) : zmag b64 (val64 V) ≤ zmag b64 (roundRatio b64 s A B 0) := by
  refine zmag_roundRatio_ge good_b64 hB (val64_fits V) (Int.le_refl _) (by rw [qmin_b64]; decide) ?_
  rw [units0, Int.sub_self]
  show zmag b64 (val64 V) * 1 * B ≤ A * one64
  rw [Nat.mul_one]; exact h
/-- 1, the number next below it, and 2^-53, in units -/
theorem z_one : zmag b64 (val64 4607182418800017408) = 2 ^ 53 * 2 ^ 1021 := by decide +kernel
theorem z_pred : zmag b64 (val64 4607182418800017407) = (2 ^ 53 - 1) * 2 ^ 1021 := by decide +kernel
theorem z_tiny : zmag b64 (val64 4368491638549381120) = 2 ^ 1021 := by decide +kernel
theorem f_one : DFin 4607182418800017408 := (fin_bits _).mpr (by decide +kernel)
theorem f_pred : DFin 4607182418800017407 := (fin_bits _).mpr (by decide +kernel)
theorem one_split : one64 = 2 ^ 53 * 2 ^ 1021 := by
  show 2 ^ 1074 = _
  rw [← Nat.pow_add]
theorem zv_one : zval b64 (val64 4607182418800017408) = ((2 ^ 53 * 2 ^ 1021 : Nat) : Int) := by decide +kernel
theorem ratio_one {s : Bool} {A B : Nat} (hB : 0 < B) (h : A ≤ B) : zmag b64 (roundRatio b64 s A B 0) ≤ 2 ^ 53 * 2 ^ 1021 := by
  rw [← z_one]
  refine ratio_le hB f_one ?_
  rw [z_one, ← one_split, Nat.mul_comm]
  exact Nat.mul_le_mul_left _ h
theorem ratio_eq {s : Bool} {B : Nat} (hB : 0 < B) : zmag b64 (roundRatio b64 s B B 0) = 2 ^ 53 * 2 ^ 1021 := by
  refine Nat.le_antisymm (ratio_one hB (Nat.le_refl _)) ?_
  rw [← z_one]
  refine ratio_ge hB ?_
  rw [z_one, ← one_split, Nat.mul_comm]
  exact Nat.le_refl _
theorem ratio_lt {s : Bool} {A B : Nat} (h : A < B) (hB : B ≤ 2 ^ 53) : zmag b64 (roundRatio b64 s A B 0) < 2 ^ 53 * 2 ^ 1021 := by
  have h1 : zmag b64 (roundRatio b64 s A B 0) ≤ zmag b64 (val64 4607182418800017407) := by
    refine ratio_le (by omega) f_pred ?_
    rw [z_pred, one_split]
    have h2 : A * 2 ^ 53 ≤ (2 ^ 53 - 1) * B := by omega
    calc A * (2 ^ 53 * 2 ^ 1021) = A * 2 ^ 53 * 2 ^ 1021 := by rw [Nat.mul_assoc]
      _ ≤ (2 ^ 53 - 1) * B * 2 ^ 1021 := Nat.mul_le_mul_right _ h2
      _ = (2 ^ 53 - 1) * 2 ^ 1021 * B := Nat.mul_right_comm _ _ _
  rw [z_pred] at h1
  refine Nat.lt_of_le_of_lt h1 ?_
  exact Nat.mul_lt_mul_of_pos_right (by decide) (Nat.two_pow_pos _)
theorem ratio_pos {s : Bool} {A B : Nat} (hA : 0 < A) (hB : 0 < B) (h : B ≤ 2 ^ 53) : 0 < zmag b64 (roundRatio b64 s A B 0) := by
  have h1 : zmag b64 (val64 4368491638549381120) ≤ zmag b64 (roundRatio b64 s A B 0) := by
    refine ratio_ge hB ?_
    rw [z_tiny, one_split]
    have h2 : B ≤ A * 2 ^ 53 := Nat.le_trans h (Nat.le_mul_of_pos_left _ hA)
    calc 2 ^ 1021 * B = B * 2 ^ 1021 := Nat.mul_comm _ _
      _ ≤ A * 2 ^ 53 * 2 ^ 1021 := Nat.mul_le_mul_right _ h2
      _ = A * (2 ^ 53 * 2 ^ 1021) := by rw [Nat.mul_assoc]
  rw [z_tiny] at h1
  exact Nat.lt_of_lt_of_le (Nat.two_pow_pos _) h1
theorem ratio_zero {s : Bool} {B : Nat} : zmag b64 (roundRatio b64 s 0 B 0) = 0 := by
  have e1 : roundRatio b64 s 0 B 0 = .fin s 0 b64.qmin := if_pos rfl
  rw [e1]
  show 0 * _ = 0
  exact Nat.zero_mul _
theorem ratio_ne_nan {s : Bool} {A B : Nat} {e : Int} : roundRatio b64 s A B e ≠ .nan := roundRatio_ne_nan _ _ _ _ _
theorem zv0 : zval b64 (val64 0) = 0 := zval64_zero
theorem nn0 : val64 0 ≠ .nan := by rw [val64_zero]; exact Datum.noConfusion
theorem nn1 : val64 4607182418800017408 ≠ .nan := f_one.ne_nan
/-- a quotient of two whole numbers i ≤ j stands to 1 and to 0 as i stands to j and to 0 -/
theorem div_cmp {i j : Int} {a b : UInt64} (ha : DInt i a) (hb : DInt j b) (hi : 0 ≤ i) (hij : i ≤ j) (hj : 0 < j) (hJ : j ≤ 2 ^ 53) :
    dcmp (ddiv a b) 4607182418800017408 = some (if i = j then .eq else .lt) ∧ dcmp (ddiv a b) 0 = some (if i = 0 then .eq else .gt) ∧ dcmp 0 (ddiv a b) = some (if i = 0 then .eq else .lt) := by
  obtain ⟨s, hv, hs⟩ := div_ratio ha hb hi hj
  have nn : val64 (ddiv a b) ≠ .nan := by rw [hv]; exact ratio_ne_nan
  have hB : 0 < j.natAbs := by omega
  have hz : zval b64 (val64 (ddiv a b)) = ((zmag b64 (roundRatio b64 s i.natAbs j.natAbs 0) : Nat) : Int) := by
    rw [hv]
    show signed (sgn (roundRatio b64 s i.natAbs j.natAbs 0)) _ = _
    rw [sgn_roundRatio]
    by_cases h0 : 0 < i
    · rw [hs h0]; rfl
    · rw [show i.natAbs = 0 by omega, ratio_zero]; exact signed_zero s
  have hlt : ¬ i = j → zmag b64 (roundRatio b64 s i.natAbs j.natAbs 0) < 2 ^ 53 * 2 ^ 1021 := fun h => ratio_lt (by omega) (by omega)
  have heq : i = j → zmag b64 (roundRatio b64 s i.natAbs j.natAbs 0) = 2 ^ 53 * 2 ^ 1021 := fun h => by rw [h]; exact ratio_eq hB
  have hp : ¬ i = 0 → 0 < zmag b64 (roundRatio b64 s i.natAbs j.natAbs 0) := fun h => ratio_pos (by omega) hB (by omega)
  have hzero : i = 0 → zmag b64 (roundRatio b64 s i.natAbs j.natAbs 0) = 0 := fun h => by rw [show i.natAbs = 0 by omega]; exact ratio_zero
  generalize zmag b64 (roundRatio b64 s i.natAbs j.natAbs 0) = w at *
  have z1 := zv_one
  generalize 2 ^ 53 * 2 ^ 1021 = o1 at *
  refine ⟨?_, ?_, ?_⟩
  · by_cases h : i = j
    · rw [if_pos h]; exact dcmp_eq.mpr ⟨nn, nn1, by rw [hz, z1, heq h]⟩
    · rw [if_neg h]; exact dcmp_lt.mpr ⟨nn, nn1, by rw [hz, z1]; have := hlt h; omega⟩
  · by_cases h : i = 0
    · rw [if_pos h]; exact dcmp_eq.mpr ⟨nn, nn0, by rw [hz, zv0, hzero h]; rfl⟩
    · rw [if_neg h]; exact dcmp_gt.mpr ⟨nn, nn0, by rw [hz, zv0]; have := hp h; omega⟩
  · by_cases h : i = 0
    · rw [if_pos h]; exact dcmp_eq.mpr ⟨nn0, nn, by rw [hz, zv0, hzero h]; rfl⟩
    · rw [if_neg h]; exact dcmp_lt.mpr ⟨nn0, nn, by rw [hz, zv0]; have := hp h; omega⟩
/-- two quotients of one ratio compare as equal -/
theorem div_same {i j i' j' : Int} {a b a' b' : UInt64} (ha : DInt i a) (hb : DInt j b) (ha' : DInt i' a') (hb' : DInt j' b') (hi : 0 ≤ i) (hj : 0 < j) (hi' : 0 ≤ i') (hj' : 0 < j') (h : i * j' = i' * j) :
    dcmp (ddiv a b) (ddiv a' b') = some .eq := by
  obtain ⟨s, hv, hs⟩ := div_ratio ha hb hi hj
  obtain ⟨s', hv', hs'⟩ := div_ratio ha' hb' hi' hj'
  have nn : val64 (ddiv a b) ≠ .nan := by rw [hv]; exact ratio_ne_nan
  have nn' : val64 (ddiv a' b') ≠ .nan := by rw [hv']; exact ratio_ne_nan
  refine dcmp_eq.mpr ⟨nn, nn', ?_⟩
  rw [hv, hv']
  by_cases h0 : i = 0
  · have h1 : i' = 0 := by
      rw [h0, Int.zero_mul] at h
      rcases Int.mul_eq_zero.mp h.symm with h | h
      · exact h
      · omega
    rw [h0, h1]
    have e1 : ∀ (t : Bool) (B : Nat), zval b64 (roundRatio b64 t 0 B 0) = 0 := fun t B => by
      show signed _ (zmag b64 (roundRatio b64 t 0 B 0)) = 0
      rw [ratio_zero]; exact signed_zero _
    exact (e1 _ _).trans (e1 _ _).symm
  · have h1 : 0 < i' := by
      rcases Int.lt_or_eq_of_le hi' with h2 | h2
      · exact h2
      · exfalso
        rw [← h2, Int.zero_mul] at h
        rcases Int.mul_eq_zero.mp h with h | h <;> omega
    rw [hs (by omega), hs' h1]
    congr 1
    refine roundRatio_congr (by omega) (by omega) ?_
    have := congrArg Int.natAbs h
    rw [Int.natAbs_mul, Int.natAbs_mul] at this
    rw [this]
/-- a quotient that is whole -/
theorem div_int {i j k : Int} {a b : UInt64} (ha : DInt i a) (hb : DInt j b) (hi : 0 < i) (hj : 0 < j) (h : i = k * j) (hk : k.natAbs ≤ 2 ^ 53) : DInt k (ddiv a b) := by
  obtain ⟨s, hv, hs⟩ := div_ratio ha hb (by omega) hj
  obtain rfl := hs hi
  have hk0 : 0 < k := by
    refine Int.not_le.mp fun hn => ?_
    have := Int.mul_nonneg (show 0 ≤ -k by omega) (Int.le_of_lt hj)
    rw [Int.neg_mul] at this
    omega
  obtain ⟨c, q, hfit, hq⟩ := natFit good_b64 wide_b64 false (n := k.natAbs) (show _ ≤ 2 ^ 53 from hk)
  show Whole k (val64 (ddiv a b))
  rw [hv]
  have hn : i.natAbs = k.natAbs * j.natAbs := by rw [h, Int.natAbs_mul]
  have e1 : roundRatio b64 false i.natAbs j.natAbs 0 = .fin false c q := roundRatio_exact good_b64 (by omega) hfit (by
    rw [hn, Nat.mul_right_comm, hq]; rw [Nat.mul_one]; ac_rfl)
  have e2 : round b64 (.fin false k.natAbs 0) = .fin false c q := roundRatio_exact good_b64 (by decide) hfit hq
  have hW : Whole k (.fin false k.natAbs 0) := by
    have := whole_ofInt k
    have e3 : ofInt k = .fin false k.natAbs 0 := by
      show Datum.fin (decide (k < 0)) k.natAbs 0 = _
      rw [decide_eq_false (by omega)]
    rw [e3] at this; exact this
  have := whole_round good_b64 wide_b64 (show _ ≤ 2 ^ 53 from hk) hW
  rw [e2] at this
  rw [e1]; exact this
/-- no NaN, as the steps ask it -/
theorem num_of {x : UInt64} (h : DFin x) : x &&& 0x7fffffffffffffff ≤ 0x7ff0000000000000 := by
  have h1 := (fin_bits x).mp h
  rw [UInt64.le_iff_toNat_le, mask_toNat]
  show x.toNat % 2 ^ 63 ≤ 9218868437227405312
  omega
theorem num_nan {x : UInt64} (h : dIsNaN x = false) : x &&& 0x7fffffffffffffff ≤ 0x7ff0000000000000 := by
  have h1 := (ne_nan x).mp ((notNaN_iff x).mp h)
  rw [UInt64.le_iff_toNat_le, mask_toNat]
  show x.toNat % 2 ^ 63 ≤ 9218868437227405312
  exact h1
theorem cv_eq {x y : UInt64} {op : ClassFile.CmpOp} (h : dcmp x y = some .eq) : Jvm.Op.cmpValue (Jvm.FP.dcmp x y) op = 0 := by
  show Jvm.Op.cmpValue (dcmp x y) op = 0
  rw [h]; rfl
theorem cv_lt {x y : UInt64} {op : ClassFile.CmpOp} (h : dcmp x y = some .lt) : Jvm.Op.cmpValue (Jvm.FP.dcmp x y) op = -1 := by
  show Jvm.Op.cmpValue (dcmp x y) op = -1
  rw [h]; rfl
theorem cv_gt {x y : UInt64} {op : ClassFile.CmpOp} (h : dcmp x y = some .gt) : Jvm.Op.cmpValue (Jvm.FP.dcmp x y) op = 1 := by
  show Jvm.Op.cmpValue (dcmp x y) op = 1
  rw [h]; rfl
end Jvm.Own
namespace Jvm.Own
open Jvm.FP.Core
theorem fin_q {a : UInt64} {s : Bool} {c : Nat} {q : Int} (h : val64 a = .fin s c q) : -1074 ≤ q := by
  have f := val64_fits a
  rw [h] at f
  have := f.2.1
  rw [qmin_b64] at this
  exact this
theorem zm_fin {a : UInt64} {s : Bool} {c : Nat} {q : Int} (h : val64 a = .fin s c q) : zmag b64 (val64 a) = c * 2 ^ (q + 1074).toNat := by
  rw [h]
  show c * 2 ^ (q - b64.qmin).toNat = _
  rw [qmin_b64, show q - -1074 = q + 1074 by omega]
theorem div_norm {a b : UInt64} {s t : Bool} {c d : Nat} {q r : Int} (ha : val64 a = .fin s c q) (hb : val64 b = .fin t d r) (hd : d ≠ 0) :
    val64 (ddiv a b) = roundRatio b64 (s != t) (zmag b64 (val64 a)) (zmag b64 (val64 b)) 0 := by
  have qa := fin_q ha
  have qb := fin_q hb
  rw [zm_fin ha, zm_fin hb, val64_ddiv, ha, hb]
  show (if d = 0 then _ else roundRatio b64 (s != t) c d (q - r)) = _
  rw [if_neg hd]
  refine roundRatio_congr (by omega) (Nat.mul_pos (by omega) (Nat.two_pow_pos _)) ?_
  have hx : (r + 1074).toNat + (q - r - 0).toNat = (q + 1074).toNat + (0 - (q - r)).toNat := by omega
  calc c * (d * 2 ^ (r + 1074).toNat) * 2 ^ (q - r - 0).toNat = c * d * 2 ^ ((r + 1074).toNat + (q - r - 0).toNat) := by rw [Nat.pow_add]; ac_rfl
    _ = c * d * 2 ^ ((q + 1074).toNat + (0 - (q - r)).toNat) := by rw [hx]
    _ = c * 2 ^ (q + 1074).toNat * d * 2 ^ (0 - (q - r)).toNat := by rw [Nat.pow_add]; ac_rfl
theorem mul_norm {a b : UInt64} {s t : Bool} {c d : Nat} {q r : Int} (ha : val64 a = .fin s c q) (hb : val64 b = .fin t d r) :
    val64 (dmul a b) = roundRatio b64 (s != t) (zmag b64 (val64 a) * zmag b64 (val64 b)) (one64 * one64) 0 := by
  have qa := fin_q ha
  have qb := fin_q hb
  rw [zm_fin ha, zm_fin hb, val64_dmul, ha, hb]
  show roundRatio b64 (s != t) (c * d) 1 (q + r) = _
  refine roundRatio_congr (by decide) (Nat.mul_pos one64_pos one64_pos) ?_
  have h1 : one64 * one64 = 2 ^ 2148 := by decide +kernel
  have hx : 2148 + (q + r - 0).toNat = (q + 1074).toNat + (r + 1074).toNat + (0 - (q + r)).toNat := by omega
  rw [h1]
  calc c * d * 2 ^ 2148 * 2 ^ (q + r - 0).toNat = c * d * 2 ^ (2148 + (q + r - 0).toNat) := by rw [Nat.pow_add, Nat.mul_assoc]
    _ = c * d * 2 ^ ((q + 1074).toNat + (r + 1074).toNat + (0 - (q + r)).toNat) := by rw [hx]
    _ = c * 2 ^ (q + 1074).toNat * (d * 2 ^ (r + 1074).toNat) * 1 * 2 ^ (0 - (q + r)).toNat := by rw [Nat.pow_add, Nat.pow_add, Nat.mul_one]; ac_rfl
theorem den_ne {b : UInt64} {t : Bool} {d : Nat} {r : Int} (hb : val64 b = .fin t d r) (hz : 0 < zmag b64 (val64 b)) : d ≠ 0 := fun h => by
  rw [zm_fin hb, h, Nat.zero_mul] at hz; omega
theorem div_le {a b V : UInt64} (ha : DFin a) (hb : DFin b) (hz : 0 < zmag b64 (val64 b)) (hV : DFin V) (h : zmag b64 (val64 a) * one64 ≤ zmag b64 (val64 V) * zmag b64 (val64 b)) : zmag b64 (val64 (ddiv a b)) ≤ zmag b64 (val64 V) := by
  obtain ⟨s, c, q, ha⟩ := ha
  obtain ⟨t, d, r, hb⟩ := hb
  rw [div_norm ha hb (den_ne hb hz)]
  exact ratio_le hz hV h
theorem div_ge {a b V : UInt64} (ha : DFin a) (hb : DFin b) (hz : 0 < zmag b64 (val64 b)) (h : zmag b64 (val64 V) * zmag b64 (val64 b) ≤ zmag b64 (val64 a) * one64) : zmag b64 (val64 V) ≤ zmag b64 (val64 (ddiv a b)) := by
  obtain ⟨s, c, q, ha⟩ := ha
  obtain ⟨t, d, r, hb⟩ := hb
  rw [div_norm ha hb (den_ne hb hz)]
  exact ratio_ge hz h
theorem mul_le {a b V : UInt64} (ha : DFin a) (hb : DFin b) (hV : DFin V) (h : zmag b64 (val64 a) * zmag b64 (val64 b) ≤ zmag b64 (val64 V) * one64) : zmag b64 (val64 (dmul a b)) ≤ zmag b64 (val64 V) := by
  obtain ⟨s, c, q, ha⟩ := ha
  obtain ⟨t, d, r, hb⟩ := hb
  rw [mul_norm ha hb]
  refine ratio_le (Nat.mul_pos one64_pos one64_pos) hV ?_
  rw [← Nat.mul_assoc]
  exact Nat.mul_le_mul_right _ h
theorem mul_ge {a b V : UInt64} (ha : DFin a) (hb : DFin b) (h : zmag b64 (val64 V) * one64 ≤ zmag b64 (val64 a) * zmag b64 (val64 b)) : zmag b64 (val64 V) ≤ zmag b64 (val64 (dmul a b)) := by
  obtain ⟨s, c, q, ha⟩ := ha
  obtain ⟨t, d, r, hb⟩ := hb
  rw [mul_norm ha hb]
  refine ratio_ge (Nat.mul_pos one64_pos one64_pos) ?_
  rw [← Nat.mul_assoc]
  exact Nat.mul_le_mul_right _ h
theorem Dy.zmag {k : Nat} {i : Int} {a : UInt64} (h : Dy k i a) (hk : k ≤ 1074) : zmag b64 (val64 a) = i.natAbs * 2 ^ (1074 - k) := by
  have h1 : Whole i (sh k (val64 a)) := h
  obtain ⟨s, c, q, e⟩ := sh_shape h1
  have qa := fin_q e
  rw [zm_fin e]
  rw [e] at h1
  have h2 : Whole i (.fin s c (q + k)) := h1
  have h3 := whole_natAbs h2
  refine Nat.eq_of_mul_eq_mul_right (Nat.two_pow_pos (q + k).toNat) ?_
  have hx : (-(q + k)).toNat + (q + 1074).toNat = (1074 - k) + (q + k).toNat := by omega
  calc c * 2 ^ (q + 1074).toNat * 2 ^ (q + k).toNat = c * 2 ^ (q + k).toNat * 2 ^ (q + 1074).toNat := by rw [Nat.mul_right_comm]
    _ = i.natAbs * 2 ^ (-(q + k)).toNat * 2 ^ (q + 1074).toNat := by rw [h3]
    _ = i.natAbs * 2 ^ ((-(q + k)).toNat + (q + 1074).toNat) := by rw [Nat.pow_add, Nat.mul_assoc]
    _ = i.natAbs * 2 ^ ((1074 - k) + (q + k).toNat) := by rw [hx]
    _ = i.natAbs * 2 ^ (1074 - k) * 2 ^ (q + k).toNat := by rw [Nat.pow_add, Nat.mul_assoc]
theorem DInt.zmag {i : Int} {a : UInt64} (h : DInt i a) : FP.Core.zmag b64 (val64 a) = i.natAbs * one64 := by
  have h1 := Dy.zmag (Dy.of h) (Nat.zero_le _)
  show _ = i.natAbs * 2 ^ 1074
  rw [h1, Nat.sub_zero]
theorem l2d_sgn {n : Int64} (h : 0 ≤ n.toInt) : ∃ c q, val64 (l2d n) = .fin false c q := by
  obtain ⟨c, q, e⟩ := l2d_shape n
  rw [decide_eq_false (by omega)] at e
  exact ⟨c, q, e⟩
/-- what is below 2^63 and not negative is cut to its whole part -/
theorem d2l_cut {a : UInt64} (hn : val64 a ≠ .nan) (hs : sgn (val64 a) = false) (h : zmag b64 (val64 a) / one64 < 2 ^ 62) : (d2l a).toInt = ((zmag b64 (val64 a) / one64 : Nat) : Int) := by
  rw [d2l_val hn, hs]
  show max (-2 ^ 63) (min (2 ^ 63 - 1) ((zmag b64 (val64 a) / one64 : Nat) : Int)) = _
  generalize zmag b64 (val64 a) / one64 = w at h ⊢
  omega
theorem z_inf (s : Bool) : FP.Core.zmag b64 (.inf s) = 2 ^ 2098 := by cases s <;> decide +kernel
theorem fin_small {a : UInt64} {s : Bool} {A B : Nat} (h : val64 a = roundRatio b64 s A B 0) (hz : FP.Core.zmag b64 (val64 a) ≤ 2 ^ 1200) : DFin a := by
  rcases roundRatio_cases b64 s A B 0 with ⟨c, q, e⟩ | e
  · exact ⟨s, c, q, h.trans e⟩
  · exfalso
    rw [h, e, z_inf] at hz
    exact absurd hz (Nat.not_le.mpr (Nat.pow_lt_pow_right (by decide) (by decide)))
/-- every n / 2^20 is a double, n ≤ 2^53 -/
theorem grid (n : Nat) (h : n ≤ 2 ^ 53) : ∃ V : UInt64, DFin V ∧ FP.Core.zmag b64 (val64 V) = n * 2 ^ 1054 := by
  have e1 : (Int64.ofNat n).toInt = (n : Int) := Int64.toInt_ofNat_of_lt (by omega)
  have D0 := l2d_int (a := Int64.ofNat n) (by rw [e1]; omega)
  rw [e1] at D0
  have hv : val64 4697254411347427328 = .fin false (2 ^ 52) (-32) := by decide +kernel
  have D1 : Dy 20 (n : Int) (ddiv (l2d (Int64.ofNat n)) 4697254411347427328) := Dy.div2 (k := 0) (n := 20) (Dy.of D0) hv (by decide) (by decide) (by omega)
  refine ⟨_, D1.fin, ?_⟩
  have := Dy.zmag D1 (by decide)
  rw [this, Int.natAbs_natCast]
end Jvm.Own
namespace Jvm.Pilot.@@N@@
open Jvm Jvm.ClassFile Sem Op Lib Jvm.Free Jvm.Stand Jvm.LawKit Jvm.RoadKit Bundle Jvm.Pilot.@@N@@.Jvm.D

theorem own_lc_gt {x y : Int64} (h : y < x) : (0 : Int32) < lcmpW x y := by
  show (0 : Int32) < if x > y then 1 else if x = y then 0 else -1
  rw [if_pos h]; decide
theorem own_lc_ngt {x y : Int64} (h : ¬ y < x) : ¬ ((0 : Int32) < lcmpW x y) := by
  show ¬ ((0 : Int32) < if x > y then 1 else if x = y then 0 else -1)
  rw [if_neg h]
  by_cases q : x = y
  · rw [if_pos q]; decide
  · rw [if_neg q]; decide
theorem own_lc_eq {x y : Int64} (h : x = y) : lcmpW x y = (0 : Int32) := by
  subst h
  show (if x > x then (1 : Int32) else if x = x then 0 else -1) = 0
  rw [if_neg (by rw [gt_iff_lt, Int64.lt_iff_toInt_lt]; omega), if_pos rfl]
def own_shift (x : Int64) : Int64 := if (20000000 : Int64) < x then x - 20000000 else 0
theorem own_shift_a {x : Int64} (h : (20000000 : Int64) < x) : own_shift x = x - 20000000 := if_pos h
theorem own_shift_b {x : Int64} (h : ¬ (20000000 : Int64) < x) : own_shift x = 0 := if_neg h
theorem own_back (x t : Int64) : (x + t) - x = t := by rw [Int64.add_comm, Int64.add_sub_cancel]
theorem own_e9 : FP.Core.DInt 1000000000 4741671816366391296 := by
  have h : FP.Core.val64 4741671816366391296 = .fin false 8388608000000000 (-23) := by decide +kernel
  show FP.Core.Whole 1000000000 (FP.Core.val64 4741671816366391296)
  rw [h]
  show FP.Core.signed false (8388608000000000 * 2 ^ (-23 : Int).toNat) = 1000000000 * ((2 ^ (-(-23 : Int)).toNat : Nat) : Int)
  decide +kernel
theorem own_i64 (n : Int64) (h : n.toInt.natAbs ≤ 2 ^ 53) : FP.Core.DInt n.toInt (FP.l2d n) := FP.Core.l2d_int h
/-- the whole schedule: n = 10^9 / r, exactly -/
theorem own_npr {r n : Int64} (h : r.toInt * n.toInt = 1000000000) (hr : 0 < r.toInt) : OwnNum (FP.ddiv (4741671816366391296 : UInt64) (FP.l2d r)) ∧ FP.Core.DInt n.toInt (FP.ddiv (4741671816366391296 : UInt64) (FP.l2d r)) ∧ 0 < n.toInt ∧ n.toInt ≤ 1000000000 := by
  have hn : 0 < n.toInt := by
    refine Int.not_le.mp fun q => ?_
    have := Int.mul_nonneg (Int.le_of_lt hr) (show 0 ≤ -n.toInt by omega)
    rw [Int.mul_neg] at this; omega
  have hn2 : n.toInt ≤ 1000000000 := by
    rw [← h]
    have := Int.mul_le_mul_of_nonneg_right (show 1 ≤ r.toInt by omega) (Int.le_of_lt hn)
    rw [Int.one_mul] at this; exact this
  have hr2 : r.toInt ≤ 1000000000 := by
    rw [← h]
    have := Int.mul_le_mul_of_nonneg_left (show 1 ≤ n.toInt by omega) (Int.le_of_lt hr)
    rw [Int.mul_one] at this; exact this
  have D := Own.div_int own_e9 (own_i64 r (by omega)) (by decide) hr (k := n.toInt) (by rw [Int.mul_comm]; exact h.symm) (by omega)
  exact ⟨Own.num_of (Own.Dy.of D).fin, D, hn, hn2⟩
theorem own_turn {n : Int64} {x : UInt64} (t : Int64) (D : FP.Core.DInt n.toInt x) (h0 : 0 < n.toInt) (h1 : n.toInt ≤ 1000000000) (ht : 0 ≤ t.toInt ∧ t.toInt ≤ 3) : OwnNum (FP.dmul (FP.l2d t) x) ∧ FP.d2l (FP.dmul (FP.l2d t) x) = t * n := by
  have hb : 0 ≤ t.toInt * n.toInt ∧ t.toInt * n.toInt ≤ 3000000000 := by
    generalize t.toInt = tv at *
    have : tv = 0 ∨ tv = 1 ∨ tv = 2 ∨ tv = 3 := by omega
    rcases this with rfl | rfl | rfl | rfl <;> omega
  have D2 := FP.Core.dmul_int (own_i64 t (by omega)) D (by omega)
  have e : (t * n).toInt = t.toInt * n.toInt := Kit.i64_mul (by omega) (by omega)
  rw [← e] at D2
  exact ⟨Own.num_of (Own.Dy.of D2).fin, FP.Core.d2l_int D2⟩

def own_maxL (x y : Int64) : Int64 := if x < y then y else x
theorem own_maxL_a {x y : Int64} (h : x < y) : own_maxL x y = y := if_pos h
theorem own_maxL_b {x y : Int64} (h : ¬ x < y) : own_maxL x y = x := if_neg h
theorem own_maxL_pos (y : Int64) : 0 < (own_maxL 1 y).toInt := by
  by_cases h : (1 : Int64) < y
  · rw [own_maxL_a h]; rw [Int64.lt_iff_toInt_lt] at h; have z : (1 : Int64).toInt = 1 := rfl; omega
  · rw [own_maxL_b h]; decide
theorem own_lc_lt {x y : Int64} (h : x < y) : lcmpW x y < (0 : Int32) := by
  have h1 : ¬ y < x := by rw [Int64.lt_iff_toInt_lt] at h ⊢; omega
  have h2 : ¬ x = y := fun q => by rw [q, Int64.lt_iff_toInt_lt] at h; omega
  show (if x > y then (1 : Int32) else if x = y then 0 else -1) < 0
  rw [if_neg h1, if_neg h2]; decide
theorem own_lc_nlt {x y : Int64} (h : ¬ x < y) : ¬ (lcmpW x y < (0 : Int32)) := by
  show ¬ ((if x > y then (1 : Int32) else if x = y then 0 else -1) < 0)
  by_cases h1 : y < x
  · rw [if_pos h1]; decide
  · have h2 : x = y := Int64.toInt.inj (by rw [Int64.lt_iff_toInt_lt] at h h1; omega)
    rw [if_neg h1, if_pos h2]; decide
theorem own_lc_ne {x y : Int64} (h : ¬ x = y) : ¬ (lcmpW x y = (0 : Int32)) := by
  show ¬ ((if x > y then (1 : Int32) else if x = y then 0 else -1) = 0)
  by_cases h1 : y < x
  · rw [if_pos h1]; decide
  · rw [if_neg h1, if_neg h]; decide
theorem d1_0 : decode jdk_29_method_66_code 0 = .ok (.lload_n 0, 1) := by decide +kernel
theorem d1_1 : decode jdk_29_method_66_code 1 = .ok (.lload_n 2, 1) := by decide +kernel
theorem d1_2 : decode jdk_29_method_66_code 2 = .ok (.lcmp, 1) := by decide +kernel
theorem d1_3 : decode jdk_29_method_66_code 3 = .ok (.ifCond .lt 7, 3) := by decide +kernel
theorem d1_10 : decode jdk_29_method_66_code 10 = .ok (.lload_n 2, 1) := by decide +kernel
theorem d1_11 : decode jdk_29_method_66_code 11 = .ok (.lreturn, 1) := by decide +kernel
theorem d1_6 : decode jdk_29_method_66_code 6 = .ok (.lload_n 0, 1) := by decide +kernel
theorem d1_7 : decode jdk_29_method_66_code 7 = .ok (.goto 4, 3) := by decide +kernel
theorem ef_rm_max (m : MethodId) (x0 : Int64) (x1 : Int64) : entryFrame m #[(.long x0), (.long x1)] 4 = mkF m 0 #[.val (.long x0), .second, .val (.long x1), .second] [] := by first | (simp [entryFrame, mkF, argsToLocals, Value.category]; done) | rfl
def Q_rm_max (Z : State) (q1 : Int64) (q2 : Int64) (h0 : Heap) (n0 : Nat) (v : Option Value) (h : Heap) (L : List Loc) : Prop := v = some (.long (own_maxL q1 q2)) ∧ Fr n0 L ∧ h = h0
set_option maxRecDepth 65536 in
set_option maxHeartbeats 40000000 in
theorem rm_max (l : Launch) (Z : State) (a0 : Array Value) (hw : ∀ d ∈ tables_1, d.before a0 Z = true) (ws : List Jvm.Cond) (q1 : Int64) (q2 : Int64) (h0 : Heap) (n0 : Nat) (Z0 : n0 ≤ h0.size)  :
    MetFree l (⟨"java/lang/Math", "max", "(JJ)J"⟩ : MethodName) (head1 (Jvm.Cond.code (⟨"java/lang/Math", "max", "(JJ)J"⟩ : MethodName) jdk_29_method_66_code 4 (some .long) :: ws) ({ frames := 0, cells := 0, slots := 0, locals := 0 } : Room)) (fun a U => a = #[(.long q1), (.long q2)] ∧ Z.Warmed39 U.vm ∧ U.heap = h0) (fun _ _ _ _ _ => True) (fun _ U o U' => ∃ v L, o = .returned v ∧ Q_rm_max Z q1 q2 h0 n0 v U'.heap L ∧ FrameEnd U o U' L ({ frames := 0, cells := 0, slots := 0, locals := 0 } : Room).cells ({ frames := 0, cells := 0, slots := 0, locals := 0 } : Room).slots) := by
  refine MetFree.of_bodySF (Jvm.Free.JP.mathPlain rfl (by decide +kernel)) hisR ?_
  intro p e s m args below meth c s₁ Bd hml0 hP hK
  obtain ⟨rfl, hZ, hh⟩ := hP
  have hx := Bd.exec
  have hby := Bd.bytes
  have hml : c.maxLocals = 4 := hml0
  have hown : s.vm.findClass "java/lang/Math" = some m.cls := findClass_of_methodNamed Bd.named
  have hnm := (name_of_methodNamed Bd.named Bd.method).1
  have X0 : Stand p l e ({ frames := 0, cells := 0, slots := 0, locals := 0 } : Room) s m #[(.long q1), (.long q2)] below meth c s₁ [] 0 0 := Stand.of_body Bd
  have e0 : s₁.heap = h0 := by rw [← hh, Bd.state]; rfl
  have N0 := Fr.nil n0
  refine Go.start (Q := Q_rm_max Z q1 q2 h0 n0) (ef_rm_max m q1 q2) ?_
  by_cases hc : q1 < q2
  · have sg1 : ∀ t, Steps p.tables e below (s₁.setTop (mkF m 11 #[.val (.long q1), .second, .val (.long q2), .second] [(.long q2)])) t → Steps p.tables e below (s₁.setTop (mkF m 0 #[.val (.long q1), .second, .val (.long q2), .second] [])) t := by
      intro t kt
      show Steps p.tables e below (s₁.setTop (mkF m 0 #[.val (.long q1), .second, .val (.long q2), .second] [])) _
      refine XS.lloadN X0.here hx rfl (hb hby d1_0) rfl ?_
      show Steps p.tables e below (s₁.setTop (mkF m 1 #[.val (.long q1), .second, .val (.long q2), .second] [(.long q1)])) _
      refine XS.lloadN X0.here hx rfl (hb hby d1_1) rfl ?_
      show Steps p.tables e below (s₁.setTop (mkF m 2 #[.val (.long q1), .second, .val (.long q2), .second] [(.long q2), (.long q1)])) _
      refine XS.lcmp X0.here hx rfl (hb hby d1_2) rfl ?_
      show Steps p.tables e below (s₁.setTop (mkF m 3 #[.val (.long q1), .second, .val (.long q2), .second] [(.int (lcmpW q1 q2))])) _
      refine XS.ifYes X0.here hx rfl (pc0 := 3) (pc' := 10) rfl (hb hby d1_3) rfl ((if0 _ _).trans (tlt (own_lc_lt hc : (lcmpW q1 q2) < (0 : Int32))).1) (by decide) (by decide) ?_
      show Steps p.tables e below (s₁.setTop (mkF m 10 #[.val (.long q1), .second, .val (.long q2), .second] [])) _
      refine XS.lloadN X0.here hx rfl (hb hby d1_10) rfl ?_
      exact kt
    refine Go.adv sg1 ?_
    refine Go.ret (v := (some (.long q2))) X0 (fun h => by rw [Bd.returns] at h; cases h) Bd.notSynchronized (fun fs hr => retOut X0 hx Bd.returns rfl (Or.inr (Or.inl ⟨rfl, rfl, _, rfl⟩)) (hb hby d1_11) hr) ?_ (by decide) (by decide)
    show Q_rm_max Z q1 q2 h0 n0 (some (.long q2)) s₁.heap _
    rw [e0]
    exact ⟨congrArg (fun z => some (Value.long z)) (own_maxL_a hc).symm, N0, rfl⟩
  · have sg2 : ∀ t, Steps p.tables e below (s₁.setTop (mkF m 11 #[.val (.long q1), .second, .val (.long q2), .second] [(.long q1)])) t → Steps p.tables e below (s₁.setTop (mkF m 0 #[.val (.long q1), .second, .val (.long q2), .second] [])) t := by
      intro t kt
      show Steps p.tables e below (s₁.setTop (mkF m 0 #[.val (.long q1), .second, .val (.long q2), .second] [])) _
      refine XS.lloadN X0.here hx rfl (hb hby d1_0) rfl ?_
      show Steps p.tables e below (s₁.setTop (mkF m 1 #[.val (.long q1), .second, .val (.long q2), .second] [(.long q1)])) _
      refine XS.lloadN X0.here hx rfl (hb hby d1_1) rfl ?_
      show Steps p.tables e below (s₁.setTop (mkF m 2 #[.val (.long q1), .second, .val (.long q2), .second] [(.long q2), (.long q1)])) _
      refine XS.lcmp X0.here hx rfl (hb hby d1_2) rfl ?_
      show Steps p.tables e below (s₁.setTop (mkF m 3 #[.val (.long q1), .second, .val (.long q2), .second] [(.int (lcmpW q1 q2))])) _
      refine XS.ifNo X0.here hx rfl (hb hby d1_3) rfl ((if0 _ _).trans (flt (own_lc_nlt hc : ¬ ((lcmpW q1 q2) < (0 : Int32)))).1) ?_
      show Steps p.tables e below (s₁.setTop (mkF m 6 #[.val (.long q1), .second, .val (.long q2), .second] [])) _
      refine XS.lloadN X0.here hx rfl (hb hby d1_6) rfl ?_
      show Steps p.tables e below (s₁.setTop (mkF m 7 #[.val (.long q1), .second, .val (.long q2), .second] [(.long q1)])) _
      refine XS.goto X0.here hx rfl (pc0 := 7) (pc' := 11) rfl (hb hby d1_7) (by decide) (by decide) ?_
      exact kt
    refine Go.adv sg2 ?_
    refine Go.ret (v := (some (.long q1))) X0 (fun h => by rw [Bd.returns] at h; cases h) Bd.notSynchronized (fun fs hr => retOut X0 hx Bd.returns rfl (Or.inr (Or.inl ⟨rfl, rfl, _, rfl⟩)) (hb hby d1_11) hr) ?_ (by decide) (by decide)
    show Q_rm_max Z q1 q2 h0 n0 (some (.long q1)) s₁.heap _
    rw [e0]
    exact ⟨congrArg (fun z => some (Value.long z)) (own_maxL_b hc).symm, N0, rfl⟩
theorem pn2 : plainName "com/example/ballast/ballast/Pacer" = true := by first | (simp [plainName, overriddenIn]; done) | decide +kernel
theorem d2_0 : decode prog_11_method_1_code 0 = .ok (.aload_n 0, 1) := by decide +kernel
theorem d2_1 : decode prog_11_method_1_code 1 = .ok (.invokespecial 1, 3) := by decide +kernel
theorem d2_4 : decode prog_11_method_1_code 4 = .ok (.aload_n 0, 1) := by decide +kernel
theorem d2_5 : decode prog_11_method_1_code 5 = .ok (.lload_n 1, 1) := by decide +kernel
theorem d2_6 : decode prog_11_method_1_code 6 = .ok (.putfield 7, 3) := by decide +kernel
theorem d2_9 : decode prog_11_method_1_code 9 = .ok (.aload_n 0, 1) := by decide +kernel
theorem d2_10 : decode prog_11_method_1_code 10 = .ok (.ldc2_w 13, 3) := by decide +kernel
theorem d2_13 : decode prog_11_method_1_code 13 = .ok (.lload_n 1, 1) := by decide +kernel
theorem d2_14 : decode prog_11_method_1_code 14 = .ok (.l2d, 1) := by decide +kernel
theorem d2_15 : decode prog_11_method_1_code 15 = .ok (.ddiv, 1) := by decide +kernel
theorem d2_16 : decode prog_11_method_1_code 16 = .ok (.putfield 15, 3) := by decide +kernel
theorem d2_19 : decode prog_11_method_1_code 19 = .ok (.aload_n 0, 1) := by decide +kernel
theorem d2_20 : decode prog_11_method_1_code 20 = .ok (.lload_n 3, 1) := by decide +kernel
theorem d2_21 : decode prog_11_method_1_code 21 = .ok (.putfield 19, 3) := by decide +kernel
theorem d2_24 : decode prog_11_method_1_code 24 = .ok (.aload_n 0, 1) := by decide +kernel
theorem d2_25 : decode prog_11_method_1_code 25 = .ok (.lload_n 3, 1) := by decide +kernel
theorem d2_26 : decode prog_11_method_1_code 26 = .ok (.putfield 22, 3) := by decide +kernel
theorem d2_29 : decode prog_11_method_1_code 29 = .ok (.return_, 1) := by decide +kernel
theorem ef_rm_init (m : MethodId) (x0 : Addr) (x1 : Int64) (x2 : Int64) : entryFrame m #[(.ref x0), (.long x1), (.long x2)] 5 = mkF m 0 #[.val (.ref x0), .val (.long x1), .second, .val (.long x2), .second] [] := by first | (simp [entryFrame, mkF, argsToLocals, Value.category]; done) | rfl
def Q_rm_init (Z : State) (a1 : Addr) (q1 : Int64) (q2 : Int64) (u_perSecond : Value) (u_nanosPerRecord : Value) (u_origin : Value) (u_windowStart : Value) (u_taken : Value) (u_windowTaken : Value) (h0 : Heap) (n0 : Nat) (v : Option Value) (h : Heap) (L : List Loc) : Prop := v = none ∧ Fr n0 L ∧ Keep h0 h [a1] ∧ Exa Z h a1 "com/example/ballast/ballast/Pacer" ∧ Fld Z h a1 "com/example/ballast/ballast/Pacer" "perSecond" "J" (.long q1) ∧ Fld Z h a1 "com/example/ballast/ballast/Pacer" "nanosPerRecord" "D" (.double (FP.ddiv (4741671816366391296 : UInt64) (FP.l2d q1))) ∧ Fld Z h a1 "com/example/ballast/ballast/Pacer" "origin" "J" (.long q2) ∧ Fld Z h a1 "com/example/ballast/ballast/Pacer" "windowStart" "J" (.long q2) ∧ Fld Z h a1 "com/example/ballast/ballast/Pacer" "taken" "J" u_taken ∧ Fld Z h a1 "com/example/ballast/ballast/Pacer" "windowTaken" "J" u_windowTaken
set_option maxRecDepth 65536 in
set_option maxHeartbeats 40000000 in
theorem rm_init (l : Launch) (Z : State) (a0 : Array Value) (hw : ∀ d ∈ tables_1, d.before a0 Z = true) (ws : List Jvm.Cond) (a1 : Addr) (q1 : Int64) (q2 : Int64) (u_perSecond : Value) (u_nanosPerRecord : Value) (u_origin : Value) (u_windowStart : Value) (u_taken : Value) (u_windowTaken : Value) (h0 : Heap) (n0 : Nat) (Z0 : n0 ≤ h0.size) (E_a1 : Exa Z h0 a1 "com/example/ballast/ballast/Pacer") (g_a1 : n0 ≤ a1) (F_perSecond_a1 : Fld Z h0 a1 "com/example/ballast/ballast/Pacer" "perSecond" "J" u_perSecond) (F_nanosPerRecord_a1 : Fld Z h0 a1 "com/example/ballast/ballast/Pacer" "nanosPerRecord" "D" u_nanosPerRecord) (F_origin_a1 : Fld Z h0 a1 "com/example/ballast/ballast/Pacer" "origin" "J" u_origin) (F_windowStart_a1 : Fld Z h0 a1 "com/example/ballast/ballast/Pacer" "windowStart" "J" u_windowStart) (F_taken_a1 : Fld Z h0 a1 "com/example/ballast/ballast/Pacer" "taken" "J" u_taken) (F_windowTaken_a1 : Fld Z h0 a1 "com/example/ballast/ballast/Pacer" "windowTaken" "J" u_windowTaken) (hN : OwnNum (FP.ddiv (4741671816366391296 : UInt64) (FP.l2d q1))) :
    MetFree l (⟨"com/example/ballast/ballast/Pacer", "<init>", "(JJ)V"⟩ : MethodName) (head1 (Jvm.Cond.code (⟨"com/example/ballast/ballast/Pacer", "<init>", "(JJ)V"⟩ : MethodName) prog_11_method_1_code 5 none :: ws) ({ frames := 1, cells := 0, slots := 0, locals := 12 } : Room)) (fun a U => a = #[(.ref a1), (.long q1), (.long q2)] ∧ Z.Warmed39 U.vm ∧ U.heap = h0) (fun _ _ _ _ _ => True) (fun _ U o U' => ∃ v L, o = .returned v ∧ Q_rm_init Z a1 q1 q2 u_perSecond u_nanosPerRecord u_origin u_windowStart u_taken u_windowTaken h0 n0 v U'.heap L ∧ FrameEnd U o U' L ({ frames := 1, cells := 0, slots := 0, locals := 12 } : Room).cells ({ frames := 1, cells := 0, slots := 0, locals := 12 } : Room).slots) := by
  refine MetFree.of_bodySF (plainFor_of_name pn2) hisR ?_
  intro p e s m args below meth c s₁ Bd hml0 hP hK
  obtain ⟨rfl, hZ, hh⟩ := hP
  have hx := Bd.exec
  have hby := Bd.bytes
  have hml : c.maxLocals = 5 := hml0
  have hown : s.vm.findClass "com/example/ballast/ballast/Pacer" = some m.cls := findClass_of_methodNamed Bd.named
  have hnm := (name_of_methodNamed Bd.named Bd.method).1
  have X0 : Stand p l e ({ frames := 1, cells := 0, slots := 0, locals := 12 } : Room) s m #[(.ref a1), (.long q1), (.long q2)] below meth c s₁ [] 0 0 := Stand.of_body Bd
  have e0 : s₁.heap = h0 := by rw [← hh, Bd.state]; rfl
  have N0 := Fr.nil n0
  refine Go.start (Q := Q_rm_init Z a1 q1 q2 u_perSecond u_nanosPerRecord u_origin u_windowStart u_taken u_windowTaken h0 n0) (ef_rm_init m a1 q1 q2) ?_
  have sg1 : ∀ t, Steps p.tables e below (s₁.setTop (mkF m 1 #[.val (.ref a1), .val (.long q1), .second, .val (.long q2), .second] [(.ref a1)])) t → Steps p.tables e below (s₁.setTop (mkF m 0 #[.val (.ref a1), .val (.long q1), .second, .val (.long q2), .second] [])) t := by
    intro t kt
    show Steps p.tables e below (s₁.setTop (mkF m 0 #[.val (.ref a1), .val (.long q1), .second, .val (.long q2), .second] [])) _
    refine XS.aloadN X0.here hx rfl (hb hby d2_0) rfl rfl ?_
    exact kt
  refine Go.adv sg1 ?_
  obtain ⟨T2, X2, e2, st2⟩ := initO X0 hx hZ hown (hw _ (List.mem_of_getElem? (i := 22) rfl)) (hw _ (List.mem_of_getElem? (i := 23) rfl)) (hw _ (List.mem_of_getElem? (i := 24) rfl)) e0 (g := (mkF m 1 #[.val (.ref a1), .val (.long q1), .second, .val (.long q2), .second] [(.ref a1)])) rfl (by rw [hml]; rfl) rfl (hb hby d2_1) (by decide) (W := 0) (by show 2 * 0 + _ ≤ _; exact Nat.le_of_eq rfl) (by decide)
  refine Go.adv st2 ?_
  show Go p.tables e below s _ _ _ (T2.setTop (mkF m 4 #[.val (.ref a1), .val (.long q1), .second, .val (.long q2), .second] []))
  have sg3 : ∀ t, Steps p.tables e below (T2.setTop (mkF m 6 #[.val (.ref a1), .val (.long q1), .second, .val (.long q2), .second] [(.long q1), (.ref a1)])) t → Steps p.tables e below (T2.setTop (mkF m 4 #[.val (.ref a1), .val (.long q1), .second, .val (.long q2), .second] [])) t := by
    intro t kt
    show Steps p.tables e below (T2.setTop (mkF m 4 #[.val (.ref a1), .val (.long q1), .second, .val (.long q2), .second] [])) _
    refine XS.aloadN X2.here hx rfl (hb hby d2_4) rfl rfl ?_
    show Steps p.tables e below (T2.setTop (mkF m 5 #[.val (.ref a1), .val (.long q1), .second, .val (.long q2), .second] [(.ref a1)])) _
    refine XS.lloadN X2.here hx rfl (hb hby d2_5) rfl ?_
    exact kt
  refine Go.adv sg3 ?_
  obtain ⟨T4, h4, X4, e4, W4, st4⟩ := putF X2 hx hZ hown (host := "") (Or.inl (hw _ (List.mem_of_getElem? (i := 25) rfl))) Via.refl e2 F_perSecond_a1 E_a1 (Or.inr ⟨(hw _ (List.mem_of_getElem? (i := 26) rfl)), rfl, hnm⟩) (hw _ (List.mem_of_getElem? (i := 17) rfl)) (ty := .long) (by decide) rfl rfl (g := (mkF m 6 #[.val (.ref a1), .val (.long q1), .second, .val (.long q2), .second] [(.long q1), (.ref a1)])) rfl rfl (hb hby d2_6)
  have Fw4 := F_perSecond_a1.same W4
  have K4 : Keep h0 h4 [a1] := (Keep.refl h0 [a1]).wr W4 (Or.inl (List.mem_of_getElem? (i := 0) rfl))
  have Z4 : n0 ≤ h4.size := Nat.le_trans Z0 (Keep.of_wr W4).1
  have N4 := Fr.snoc X4 N0 g_a1
  refine Go.adv st4 ?_
  show Go p.tables e below s _ _ _ (T4.setTop (mkF m 9 #[.val (.ref a1), .val (.long q1), .second, .val (.long q2), .second] []))
  have sg5 : ∀ t, Steps p.tables e below (T4.setTop (mkF m 16 #[.val (.ref a1), .val (.long q1), .second, .val (.long q2), .second] [(.double (FP.ddiv (4741671816366391296 : UInt64) (FP.l2d q1))), (.ref a1)])) t → Steps p.tables e below (T4.setTop (mkF m 9 #[.val (.ref a1), .val (.long q1), .second, .val (.long q2), .second] [])) t := by
    intro t kt
    show Steps p.tables e below (T4.setTop (mkF m 9 #[.val (.ref a1), .val (.long q1), .second, .val (.long q2), .second] [])) _
    refine XS.aloadN X4.here hx rfl (hb hby d2_9) rfl rfl ?_
    show Steps p.tables e below (T4.setTop (mkF m 10 #[.val (.ref a1), .val (.long q1), .second, .val (.long q2), .second] [(.ref a1)])) _
    refine X4.ldc2DoubleC hx hown (mvT hZ (hw _ (List.mem_of_getElem? (i := 27) rfl))) (g := (mkF m 10 #[.val (.ref a1), .val (.long q1), .second, .val (.long q2), .second] [(.ref a1)])) rfl (hb hby d2_10) _ ?_
    show Steps p.tables e below (T4.setTop (mkF m 13 #[.val (.ref a1), .val (.long q1), .second, .val (.long q2), .second] [(.double (4741671816366391296 : UInt64)), (.ref a1)])) _
    refine XS.lloadN X4.here hx rfl (hb hby d2_13) rfl ?_
    show Steps p.tables e below (T4.setTop (mkF m 14 #[.val (.ref a1), .val (.long q1), .second, .val (.long q2), .second] [(.long q1), (.double (4741671816366391296 : UInt64)), (.ref a1)])) _
    refine own_l2d X4.here hx rfl (hb hby d2_14) rfl ?_
    show Steps p.tables e below (T4.setTop (mkF m 15 #[.val (.ref a1), .val (.long q1), .second, .val (.long q2), .second] [(.double (FP.l2d q1)), (.double (4741671816366391296 : UInt64)), (.ref a1)])) _
    refine own_ddiv X4.here hx rfl (hb hby d2_15) rfl hN ?_
    exact kt
  refine Go.adv sg5 ?_
  have f6 := (F_nanosPerRecord_a1.other W4 (Or.inr (slot_ne (Or.inr (hw _ (List.mem_of_getElem? (i := 29) rfl))) (Or.inr (hw _ (List.mem_of_getElem? (i := 26) rfl))) (by decide) (t := .double) (t' := .long) (by decide) (by decide))))
  have f7 := (E_a1.wr W4)
  obtain ⟨T8, h8, X8, e8, W8, st8⟩ := putF X4 hx hZ hown (host := "") (Or.inl (hw _ (List.mem_of_getElem? (i := 28) rfl))) Via.refl e4 f6 f7 (Or.inr ⟨(hw _ (List.mem_of_getElem? (i := 29) rfl)), rfl, hnm⟩) (hw _ (List.mem_of_getElem? (i := 17) rfl)) (ty := .double) (by decide) rfl rfl (g := (mkF m 16 #[.val (.ref a1), .val (.long q1), .second, .val (.long q2), .second] [(.double (FP.ddiv (4741671816366391296 : UInt64) (FP.l2d q1))), (.ref a1)])) rfl rfl (hb hby d2_16)
  have Fw8 := f6.same W8
  have K8 : Keep h0 h8 [a1] := K4.wr W8 (Or.inl (List.mem_of_getElem? (i := 0) rfl))
  have Z8 : n0 ≤ h8.size := Nat.le_trans Z4 (Keep.of_wr W8).1
  have N8 := Fr.snoc X8 N4 g_a1
  refine Go.adv st8 ?_
  show Go p.tables e below s _ _ _ (T8.setTop (mkF m 19 #[.val (.ref a1), .val (.long q1), .second, .val (.long q2), .second] []))
  have sg9 : ∀ t, Steps p.tables e below (T8.setTop (mkF m 21 #[.val (.ref a1), .val (.long q1), .second, .val (.long q2), .second] [(.long q2), (.ref a1)])) t → Steps p.tables e below (T8.setTop (mkF m 19 #[.val (.ref a1), .val (.long q1), .second, .val (.long q2), .second] [])) t := by
    intro t kt
    show Steps p.tables e below (T8.setTop (mkF m 19 #[.val (.ref a1), .val (.long q1), .second, .val (.long q2), .second] [])) _
    refine XS.aloadN X8.here hx rfl (hb hby d2_19) rfl rfl ?_
    show Steps p.tables e below (T8.setTop (mkF m 20 #[.val (.ref a1), .val (.long q1), .second, .val (.long q2), .second] [(.ref a1)])) _
    refine XS.lloadN X8.here hx rfl (hb hby d2_20) rfl ?_
    exact kt
  refine Go.adv sg9 ?_
  have f10 := ((F_origin_a1.other W4 (Or.inr (slot_ne (Or.inl (hw _ (List.mem_of_getElem? (i := 31) rfl))) (Or.inr (hw _ (List.mem_of_getElem? (i := 26) rfl))) (by decide) (t := .long) (t' := .long) (by decide) (by decide)))).other W8 (Or.inr (slot_ne (Or.inl (hw _ (List.mem_of_getElem? (i := 31) rfl))) (Or.inr (hw _ (List.mem_of_getElem? (i := 29) rfl))) (by decide) (t := .long) (t' := .double) (by decide) (by decide))))
  have f11 := (f7.wr W8)
  obtain ⟨T12, h12, X12, e12, W12, st12⟩ := putF X8 hx hZ hown (host := "") (Or.inl (hw _ (List.mem_of_getElem? (i := 30) rfl))) Via.refl e8 f10 f11 (Or.inl (hw _ (List.mem_of_getElem? (i := 31) rfl))) (hw _ (List.mem_of_getElem? (i := 17) rfl)) (ty := .long) (by decide) rfl rfl (g := (mkF m 21 #[.val (.ref a1), .val (.long q1), .second, .val (.long q2), .second] [(.long q2), (.ref a1)])) rfl rfl (hb hby d2_21)
  have Fw12 := f10.same W12
  have K12 : Keep h0 h12 [a1] := K8.wr W12 (Or.inl (List.mem_of_getElem? (i := 0) rfl))
  have Z12 : n0 ≤ h12.size := Nat.le_trans Z8 (Keep.of_wr W12).1
  have N12 := Fr.snoc X12 N8 g_a1
  refine Go.adv st12 ?_
  show Go p.tables e below s _ _ _ (T12.setTop (mkF m 24 #[.val (.ref a1), .val (.long q1), .second, .val (.long q2), .second] []))
  have sg13 : ∀ t, Steps p.tables e below (T12.setTop (mkF m 26 #[.val (.ref a1), .val (.long q1), .second, .val (.long q2), .second] [(.long q2), (.ref a1)])) t → Steps p.tables e below (T12.setTop (mkF m 24 #[.val (.ref a1), .val (.long q1), .second, .val (.long q2), .second] [])) t := by
    intro t kt
    show Steps p.tables e below (T12.setTop (mkF m 24 #[.val (.ref a1), .val (.long q1), .second, .val (.long q2), .second] [])) _
    refine XS.aloadN X12.here hx rfl (hb hby d2_24) rfl rfl ?_
    show Steps p.tables e below (T12.setTop (mkF m 25 #[.val (.ref a1), .val (.long q1), .second, .val (.long q2), .second] [(.ref a1)])) _
    refine XS.lloadN X12.here hx rfl (hb hby d2_25) rfl ?_
    exact kt
  refine Go.adv sg13 ?_
  have f14 := (((F_windowStart_a1.other W4 (Or.inr (slot_ne (Or.inl (hw _ (List.mem_of_getElem? (i := 33) rfl))) (Or.inr (hw _ (List.mem_of_getElem? (i := 26) rfl))) (by decide) (t := .long) (t' := .long) (by decide) (by decide)))).other W8 (Or.inr (slot_ne (Or.inl (hw _ (List.mem_of_getElem? (i := 33) rfl))) (Or.inr (hw _ (List.mem_of_getElem? (i := 29) rfl))) (by decide) (t := .long) (t' := .double) (by decide) (by decide)))).other W12 (Or.inr (slot_ne (Or.inl (hw _ (List.mem_of_getElem? (i := 33) rfl))) (Or.inl (hw _ (List.mem_of_getElem? (i := 31) rfl))) (by decide) (t := .long) (t' := .long) (by decide) (by decide))))
  have f15 := (f11.wr W12)
  obtain ⟨T16, h16, X16, e16, W16, st16⟩ := putF X12 hx hZ hown (host := "") (Or.inl (hw _ (List.mem_of_getElem? (i := 32) rfl))) Via.refl e12 f14 f15 (Or.inl (hw _ (List.mem_of_getElem? (i := 33) rfl))) (hw _ (List.mem_of_getElem? (i := 17) rfl)) (ty := .long) (by decide) rfl rfl (g := (mkF m 26 #[.val (.ref a1), .val (.long q1), .second, .val (.long q2), .second] [(.long q2), (.ref a1)])) rfl rfl (hb hby d2_26)
  have Fw16 := f14.same W16
  have K16 : Keep h0 h16 [a1] := K12.wr W16 (Or.inl (List.mem_of_getElem? (i := 0) rfl))
  have Z16 : n0 ≤ h16.size := Nat.le_trans Z12 (Keep.of_wr W16).1
  have N16 := Fr.snoc X16 N12 g_a1
  refine Go.adv st16 ?_
  show Go p.tables e below s _ _ _ (T16.setTop (mkF m 29 #[.val (.ref a1), .val (.long q1), .second, .val (.long q2), .second] []))
  refine Go.ret (v := none) X16 (fun _ => rfl) Bd.notSynchronized (fun fs hr => X16.returnOut hx Bd.returns (hb hby d2_29) hr) ?_ (by decide) (by decide)
  show Q_rm_init Z a1 q1 q2 u_perSecond u_nanosPerRecord u_origin u_windowStart u_taken u_windowTaken h0 n0 none T16.heap _
  rw [e16]
  have f17 := (f15.wr W16)
  have f18 := (((Fw4.other W8 (Or.inr (slot_ne (Or.inr (hw _ (List.mem_of_getElem? (i := 26) rfl))) (Or.inr (hw _ (List.mem_of_getElem? (i := 29) rfl))) (by decide) (t := .long) (t' := .double) (by decide) (by decide)))).other W12 (Or.inr (slot_ne (Or.inr (hw _ (List.mem_of_getElem? (i := 26) rfl))) (Or.inl (hw _ (List.mem_of_getElem? (i := 31) rfl))) (by decide) (t := .long) (t' := .long) (by decide) (by decide)))).other W16 (Or.inr (slot_ne (Or.inr (hw _ (List.mem_of_getElem? (i := 26) rfl))) (Or.inl (hw _ (List.mem_of_getElem? (i := 33) rfl))) (by decide) (t := .long) (t' := .long) (by decide) (by decide))))
  have f19 := ((Fw8.other W12 (Or.inr (slot_ne (Or.inr (hw _ (List.mem_of_getElem? (i := 29) rfl))) (Or.inl (hw _ (List.mem_of_getElem? (i := 31) rfl))) (by decide) (t := .double) (t' := .long) (by decide) (by decide)))).other W16 (Or.inr (slot_ne (Or.inr (hw _ (List.mem_of_getElem? (i := 29) rfl))) (Or.inl (hw _ (List.mem_of_getElem? (i := 33) rfl))) (by decide) (t := .double) (t' := .long) (by decide) (by decide))))
  have f20 := (Fw12.other W16 (Or.inr (slot_ne (Or.inl (hw _ (List.mem_of_getElem? (i := 31) rfl))) (Or.inl (hw _ (List.mem_of_getElem? (i := 33) rfl))) (by decide) (t := .long) (t' := .long) (by decide) (by decide))))
  have f21 := ((((F_taken_a1.other W4 (Or.inr (slot_ne (Or.inl (hw _ (List.mem_of_getElem? (i := 40) rfl))) (Or.inr (hw _ (List.mem_of_getElem? (i := 26) rfl))) (by decide) (t := .long) (t' := .long) (by decide) (by decide)))).other W8 (Or.inr (slot_ne (Or.inl (hw _ (List.mem_of_getElem? (i := 40) rfl))) (Or.inr (hw _ (List.mem_of_getElem? (i := 29) rfl))) (by decide) (t := .long) (t' := .double) (by decide) (by decide)))).other W12 (Or.inr (slot_ne (Or.inl (hw _ (List.mem_of_getElem? (i := 40) rfl))) (Or.inl (hw _ (List.mem_of_getElem? (i := 31) rfl))) (by decide) (t := .long) (t' := .long) (by decide) (by decide)))).other W16 (Or.inr (slot_ne (Or.inl (hw _ (List.mem_of_getElem? (i := 40) rfl))) (Or.inl (hw _ (List.mem_of_getElem? (i := 33) rfl))) (by decide) (t := .long) (t' := .long) (by decide) (by decide))))
  have f22 := ((((F_windowTaken_a1.other W4 (Or.inr (slot_ne (Or.inl (hw _ (List.mem_of_getElem? (i := 50) rfl))) (Or.inr (hw _ (List.mem_of_getElem? (i := 26) rfl))) (by decide) (t := .long) (t' := .long) (by decide) (by decide)))).other W8 (Or.inr (slot_ne (Or.inl (hw _ (List.mem_of_getElem? (i := 50) rfl))) (Or.inr (hw _ (List.mem_of_getElem? (i := 29) rfl))) (by decide) (t := .long) (t' := .double) (by decide) (by decide)))).other W12 (Or.inr (slot_ne (Or.inl (hw _ (List.mem_of_getElem? (i := 50) rfl))) (Or.inl (hw _ (List.mem_of_getElem? (i := 31) rfl))) (by decide) (t := .long) (t' := .long) (by decide) (by decide)))).other W16 (Or.inr (slot_ne (Or.inl (hw _ (List.mem_of_getElem? (i := 50) rfl))) (Or.inl (hw _ (List.mem_of_getElem? (i := 33) rfl))) (by decide) (t := .long) (t' := .long) (by decide) (by decide))))
  exact ⟨rfl, N16, K16, f17, f18, f19, f20, Fw16, f21, f22⟩
theorem pn4 : plainName "com/example/ballast/ballast/Pacer" = true := by first | (simp [plainName, overriddenIn]; done) | decide +kernel
theorem d4_0 : decode prog_11_method_2_code 0 = .ok (.aload_n 0, 1) := by decide +kernel
theorem d4_1 : decode prog_11_method_2_code 1 = .ok (.getfield 19, 3) := by decide +kernel
theorem d4_4 : decode prog_11_method_2_code 4 = .ok (.aload_n 0, 1) := by decide +kernel
theorem d4_5 : decode prog_11_method_2_code 5 = .ok (.getfield 25, 3) := by decide +kernel
theorem d4_8 : decode prog_11_method_2_code 8 = .ok (.l2d, 1) := by decide +kernel
theorem d4_9 : decode prog_11_method_2_code 9 = .ok (.aload_n 0, 1) := by decide +kernel
theorem d4_10 : decode prog_11_method_2_code 10 = .ok (.getfield 15, 3) := by decide +kernel
theorem d4_13 : decode prog_11_method_2_code 13 = .ok (.dmul, 1) := by decide +kernel
theorem d4_14 : decode prog_11_method_2_code 14 = .ok (.d2l, 1) := by decide +kernel
theorem d4_15 : decode prog_11_method_2_code 15 = .ok (.ladd, 1) := by decide +kernel
theorem d4_16 : decode prog_11_method_2_code 16 = .ok (.lreturn, 1) := by decide +kernel
theorem ef_rm_due (m : MethodId) (x0 : Addr) : entryFrame m #[(.ref x0)] 1 = mkF m 0 #[.val (.ref x0)] [] := by first | (simp [entryFrame, mkF, argsToLocals, Value.category]; done) | rfl
def Q_rm_due (Z : State) (a1 : Addr) (org : Int64) (tk : Int64) (npr : UInt64) (dd : Int64) (h0 : Heap) (n0 : Nat) (v : Option Value) (h : Heap) (L : List Loc) : Prop := v = some (.long (org + dd)) ∧ Fr n0 L ∧ h = h0
set_option maxRecDepth 65536 in
set_option maxHeartbeats 40000000 in
theorem rm_due (l : Launch) (Z : State) (a0 : Array Value) (hw : ∀ d ∈ tables_1, d.before a0 Z = true) (ws : List Jvm.Cond) (a1 : Addr) (org : Int64) (tk : Int64) (npr : UInt64) (dd : Int64) (h0 : Heap) (n0 : Nat) (Z0 : n0 ≤ h0.size) (F_origin_a1 : Fld Z h0 a1 "com/example/ballast/ballast/Pacer" "origin" "J" (.long org)) (F_taken_a1 : Fld Z h0 a1 "com/example/ballast/ballast/Pacer" "taken" "J" (.long tk)) (F_nanosPerRecord_a1 : Fld Z h0 a1 "com/example/ballast/ballast/Pacer" "nanosPerRecord" "D" (.double npr)) (hN : OwnNum (FP.dmul (FP.l2d tk) npr)) (hD : FP.d2l (FP.dmul (FP.l2d tk) npr) = dd) :
    MetFree l (⟨"com/example/ballast/ballast/Pacer", "due", "()J"⟩ : MethodName) (head1 (Jvm.Cond.code (⟨"com/example/ballast/ballast/Pacer", "due", "()J"⟩ : MethodName) prog_11_method_2_code 1 (some .long) :: ws) ({ frames := 0, cells := 0, slots := 0, locals := 0 } : Room)) (fun a U => a = #[(.ref a1)] ∧ Z.Warmed39 U.vm ∧ U.heap = h0) (fun _ _ _ _ _ => True) (fun _ U o U' => ∃ v L, o = .returned v ∧ Q_rm_due Z a1 org tk npr dd h0 n0 v U'.heap L ∧ FrameEnd U o U' L ({ frames := 0, cells := 0, slots := 0, locals := 0 } : Room).cells ({ frames := 0, cells := 0, slots := 0, locals := 0 } : Room).slots) := by
  refine MetFree.of_bodySF (plainFor_of_name pn4) hisR ?_
  intro p e s m args below meth c s₁ Bd hml0 hP hK
  obtain ⟨rfl, hZ, hh⟩ := hP
  have hx := Bd.exec
  have hby := Bd.bytes
  have hml : c.maxLocals = 1 := hml0
  have hown : s.vm.findClass "com/example/ballast/ballast/Pacer" = some m.cls := findClass_of_methodNamed Bd.named
  have hnm := (name_of_methodNamed Bd.named Bd.method).1
  have X0 : Stand p l e ({ frames := 0, cells := 0, slots := 0, locals := 0 } : Room) s m #[(.ref a1)] below meth c s₁ [] 0 0 := Stand.of_body Bd
  have e0 : s₁.heap = h0 := by rw [← hh, Bd.state]; rfl
  have N0 := Fr.nil n0
  refine Go.start (Q := Q_rm_due Z a1 org tk npr dd h0 n0) (ef_rm_due m a1) ?_
  have sg1 : ∀ t, Steps p.tables e below (s₁.setTop (mkF m 1 #[.val (.ref a1)] [(.ref a1)])) t → Steps p.tables e below (s₁.setTop (mkF m 0 #[.val (.ref a1)] [])) t := by
    intro t kt
    show Steps p.tables e below (s₁.setTop (mkF m 0 #[.val (.ref a1)] [])) _
    refine XS.aloadN X0.here hx rfl (hb hby d4_0) rfl rfl ?_
    exact kt
  refine Go.adv sg1 ?_
  obtain ⟨T2, X2, e2, st2⟩ := getF X0 hx hZ hown (host := "") (Or.inl (hw _ (List.mem_of_getElem? (i := 30) rfl))) Via.refl e0 F_origin_a1 (g := (mkF m 1 #[.val (.ref a1)] [(.ref a1)])) rfl rfl (hb hby d4_1)
  refine Go.adv st2 ?_
  show Go p.tables e below s _ _ _ (T2.setTop (mkF m 4 #[.val (.ref a1)] [(.long org)]))
  have sg3 : ∀ t, Steps p.tables e below (T2.setTop (mkF m 5 #[.val (.ref a1)] [(.ref a1), (.long org)])) t → Steps p.tables e below (T2.setTop (mkF m 4 #[.val (.ref a1)] [(.long org)])) t := by
    intro t kt
    show Steps p.tables e below (T2.setTop (mkF m 4 #[.val (.ref a1)] [(.long org)])) _
    refine XS.aloadN X2.here hx rfl (hb hby d4_4) rfl rfl ?_
    exact kt
  refine Go.adv sg3 ?_
  obtain ⟨T4, X4, e4, st4⟩ := getF X2 hx hZ hown (host := "") (Or.inl (hw _ (List.mem_of_getElem? (i := 39) rfl))) Via.refl e2 F_taken_a1 (g := (mkF m 5 #[.val (.ref a1)] [(.ref a1), (.long org)])) rfl rfl (hb hby d4_5)
  refine Go.adv st4 ?_
  show Go p.tables e below s _ _ _ (T4.setTop (mkF m 8 #[.val (.ref a1)] [(.long tk), (.long org)]))
  have sg5 : ∀ t, Steps p.tables e below (T4.setTop (mkF m 10 #[.val (.ref a1)] [(.ref a1), (.double (FP.l2d tk)), (.long org)])) t → Steps p.tables e below (T4.setTop (mkF m 8 #[.val (.ref a1)] [(.long tk), (.long org)])) t := by
    intro t kt
    show Steps p.tables e below (T4.setTop (mkF m 8 #[.val (.ref a1)] [(.long tk), (.long org)])) _
    refine own_l2d X4.here hx rfl (hb hby d4_8) rfl ?_
    show Steps p.tables e below (T4.setTop (mkF m 9 #[.val (.ref a1)] [(.double (FP.l2d tk)), (.long org)])) _
    refine XS.aloadN X4.here hx rfl (hb hby d4_9) rfl rfl ?_
    exact kt
  refine Go.adv sg5 ?_
  obtain ⟨T6, X6, e6, st6⟩ := getF X4 hx hZ hown (host := "") (Or.inl (hw _ (List.mem_of_getElem? (i := 28) rfl))) Via.refl e4 F_nanosPerRecord_a1 (g := (mkF m 10 #[.val (.ref a1)] [(.ref a1), (.double (FP.l2d tk)), (.long org)])) rfl rfl (hb hby d4_10)
  refine Go.adv st6 ?_
  show Go p.tables e below s _ _ _ (T6.setTop (mkF m 13 #[.val (.ref a1)] [(.double npr), (.double (FP.l2d tk)), (.long org)]))
  have sg7 : ∀ t, Steps p.tables e below (T6.setTop (mkF m 16 #[.val (.ref a1)] [(.long (org + (FP.d2l (FP.dmul (FP.l2d tk) npr))))])) t → Steps p.tables e below (T6.setTop (mkF m 13 #[.val (.ref a1)] [(.double npr), (.double (FP.l2d tk)), (.long org)])) t := by
    intro t kt
    show Steps p.tables e below (T6.setTop (mkF m 13 #[.val (.ref a1)] [(.double npr), (.double (FP.l2d tk)), (.long org)])) _
    refine own_dmul X6.here hx rfl (hb hby d4_13) rfl hN ?_
    show Steps p.tables e below (T6.setTop (mkF m 14 #[.val (.ref a1)] [(.double (FP.dmul (FP.l2d tk) npr)), (.long org)])) _
    refine own_d2l X6.here hx rfl (hb hby d4_14) rfl ?_
    show Steps p.tables e below (T6.setTop (mkF m 15 #[.val (.ref a1)] [(.long (FP.d2l (FP.dmul (FP.l2d tk) npr))), (.long org)])) _
    refine XS.ladd X6.here hx rfl (hb hby d4_15) rfl ?_
    exact kt
  refine Go.adv sg7 ?_
  refine Go.ret (v := (some (.long (org + (FP.d2l (FP.dmul (FP.l2d tk) npr)))))) X6 (fun h => by rw [Bd.returns] at h; cases h) Bd.notSynchronized (fun fs hr => retOut X6 hx Bd.returns rfl (Or.inr (Or.inl ⟨rfl, rfl, _, rfl⟩)) (hb hby d4_16) hr) ?_ (by decide) (by decide)
  show Q_rm_due Z a1 org tk npr dd h0 n0 (some (.long (org + (FP.d2l (FP.dmul (FP.l2d tk) npr))))) T6.heap _
  rw [e6]
  exact ⟨congrArg (fun z => some (Value.long (org + z))) hD, N0, rfl⟩
theorem pn5 : plainName "com/example/ballast/ballast/Pacer" = true := by first | (simp [plainName, overriddenIn]; done) | decide +kernel
theorem d5_0 : decode prog_11_method_3_code 0 = .ok (.lload_n 1, 1) := by decide +kernel
theorem d5_1 : decode prog_11_method_3_code 1 = .ok (.aload_n 0, 1) := by decide +kernel
theorem d5_2 : decode prog_11_method_3_code 2 = .ok (.invokevirtual 28, 3) := by decide +kernel
theorem pd_ocJ : parseMethodDescriptor "()J" = some ⟨[], some .long⟩ := by decide +kernel
theorem d5_5 : decode prog_11_method_3_code 5 = .ok (.lsub, 1) := by decide +kernel
theorem d5_6 : decode prog_11_method_3_code 6 = .ok (.lstore_n 3, 1) := by decide +kernel
theorem d5_7 : decode prog_11_method_3_code 7 = .ok (.lload_n 3, 1) := by decide +kernel
theorem d5_8 : decode prog_11_method_3_code 8 = .ok (.ldc2_w 32, 3) := by decide +kernel
theorem d5_11 : decode prog_11_method_3_code 11 = .ok (.lcmp, 1) := by decide +kernel
theorem d5_12 : decode prog_11_method_3_code 12 = .ok (.ifCond .le 17, 3) := by decide +kernel
theorem d5_15 : decode prog_11_method_3_code 15 = .ok (.aload_n 0, 1) := by decide +kernel
theorem d5_16 : decode prog_11_method_3_code 16 = .ok (.dup, 1) := by decide +kernel
theorem d5_17 : decode prog_11_method_3_code 17 = .ok (.getfield 19, 3) := by decide +kernel
theorem d5_20 : decode prog_11_method_3_code 20 = .ok (.lload_n 3, 1) := by decide +kernel
theorem d5_21 : decode prog_11_method_3_code 21 = .ok (.ldc2_w 32, 3) := by decide +kernel
theorem d5_24 : decode prog_11_method_3_code 24 = .ok (.lsub, 1) := by decide +kernel
theorem d5_25 : decode prog_11_method_3_code 25 = .ok (.ladd, 1) := by decide +kernel
theorem d5_26 : decode prog_11_method_3_code 26 = .ok (.putfield 19, 3) := by decide +kernel
theorem d5_29 : decode prog_11_method_3_code 29 = .ok (.aload_n 0, 1) := by decide +kernel
theorem d5_30 : decode prog_11_method_3_code 30 = .ok (.dup, 1) := by decide +kernel
theorem d5_31 : decode prog_11_method_3_code 31 = .ok (.getfield 25, 3) := by decide +kernel
theorem d5_34 : decode prog_11_method_3_code 34 = .ok (.lconst 1, 1) := by decide +kernel
theorem d5_35 : decode prog_11_method_3_code 35 = .ok (.ladd, 1) := by decide +kernel
theorem d5_36 : decode prog_11_method_3_code 36 = .ok (.putfield 25, 3) := by decide +kernel
theorem d5_39 : decode prog_11_method_3_code 39 = .ok (.aload_n 0, 1) := by decide +kernel
theorem d5_40 : decode prog_11_method_3_code 40 = .ok (.dup, 1) := by decide +kernel
theorem d5_41 : decode prog_11_method_3_code 41 = .ok (.getfield 34, 3) := by decide +kernel
theorem d5_44 : decode prog_11_method_3_code 44 = .ok (.lconst 1, 1) := by decide +kernel
theorem d5_45 : decode prog_11_method_3_code 45 = .ok (.ladd, 1) := by decide +kernel
theorem d5_46 : decode prog_11_method_3_code 46 = .ok (.putfield 34, 3) := by decide +kernel
theorem d5_49 : decode prog_11_method_3_code 49 = .ok (.return_, 1) := by decide +kernel
theorem ef_rm_take (m : MethodId) (x0 : Addr) (x1 : Int64) : entryFrame m #[(.ref x0), (.long x1)] 5 = mkF m 0 #[.val (.ref x0), .val (.long x1), .second, .unset, .unset] [] := by first | (simp [entryFrame, mkF, argsToLocals, Value.category]; done) | rfl
def Q_rm_take (Z : State) (a1 : Addr) (q1 : Int64) (org : Int64) (tk : Int64) (wt : Int64) (npr : UInt64) (dd : Int64) (lg : Int64) (h0 : Heap) (n0 : Nat) (v : Option Value) (h : Heap) (L : List Loc) : Prop := v = none ∧ Fr n0 L ∧ Keep h0 h [a1] ∧ Exa Z h a1 "com/example/ballast/ballast/Pacer" ∧ Fld Z h a1 "com/example/ballast/ballast/Pacer" "origin" "J" (.long (org + (own_shift lg))) ∧ Fld Z h a1 "com/example/ballast/ballast/Pacer" "taken" "J" (.long (tk + (1 : Int64))) ∧ Fld Z h a1 "com/example/ballast/ballast/Pacer" "windowTaken" "J" (.long (wt + (1 : Int64))) ∧ Fld Z h a1 "com/example/ballast/ballast/Pacer" "nanosPerRecord" "D" (.double npr)
set_option maxRecDepth 65536 in
set_option maxHeartbeats 40000000 in
theorem rm_take (l : Launch) (Z : State) (a0 : Array Value) (hw : ∀ d ∈ tables_1, d.before a0 Z = true) (ws : List Jvm.Cond) (a1 : Addr) (q1 : Int64) (org : Int64) (tk : Int64) (wt : Int64) (npr : UInt64) (dd : Int64) (lg : Int64) (h0 : Heap) (n0 : Nat) (Z0 : n0 ≤ h0.size) (E_a1 : Exa Z h0 a1 "com/example/ballast/ballast/Pacer") (g_a1 : n0 ≤ a1) (F_origin_a1 : Fld Z h0 a1 "com/example/ballast/ballast/Pacer" "origin" "J" (.long org)) (F_taken_a1 : Fld Z h0 a1 "com/example/ballast/ballast/Pacer" "taken" "J" (.long tk)) (F_windowTaken_a1 : Fld Z h0 a1 "com/example/ballast/ballast/Pacer" "windowTaken" "J" (.long wt)) (F_nanosPerRecord_a1 : Fld Z h0 a1 "com/example/ballast/ballast/Pacer" "nanosPerRecord" "D" (.double npr)) (hN : OwnNum (FP.dmul (FP.l2d tk) npr)) (hD : FP.d2l (FP.dmul (FP.l2d tk) npr) = dd) (hL : (q1 - (org + dd)) = lg) :
    MetFree l (⟨"com/example/ballast/ballast/Pacer", "take", "(J)V"⟩ : MethodName) (head1 (Jvm.Cond.code (⟨"com/example/ballast/ballast/Pacer", "take", "(J)V"⟩ : MethodName) prog_11_method_3_code 5 none :: ws) ({ frames := 1, cells := 0, slots := 0, locals := 14 } : Room)) (fun a U => a = #[(.ref a1), (.long q1)] ∧ Z.Warmed39 U.vm ∧ U.heap = h0) (fun _ _ _ _ _ => True) (fun _ U o U' => ∃ v L, o = .returned v ∧ Q_rm_take Z a1 q1 org tk wt npr dd lg h0 n0 v U'.heap L ∧ FrameEnd U o U' L ({ frames := 1, cells := 0, slots := 0, locals := 14 } : Room).cells ({ frames := 1, cells := 0, slots := 0, locals := 14 } : Room).slots) := by
  refine MetFree.of_bodySF (plainFor_of_name pn5) hisR ?_
  intro p e s m args below meth c s₁ Bd hml0 hP hK
  obtain ⟨rfl, hZ, hh⟩ := hP
  have hx := Bd.exec
  have hby := Bd.bytes
  have hml : c.maxLocals = 5 := hml0
  have hown : s.vm.findClass "com/example/ballast/ballast/Pacer" = some m.cls := findClass_of_methodNamed Bd.named
  have hnm := (name_of_methodNamed Bd.named Bd.method).1
  have X0 : Stand p l e ({ frames := 1, cells := 0, slots := 0, locals := 14 } : Room) s m #[(.ref a1), (.long q1)] below meth c s₁ [] 0 0 := Stand.of_body Bd
  have e0 : s₁.heap = h0 := by rw [← hh, Bd.state]; rfl
  have N0 := Fr.nil n0
  refine Go.start (Q := Q_rm_take Z a1 q1 org tk wt npr dd lg h0 n0) (ef_rm_take m a1 q1) ?_
  have sg1 : ∀ t, Steps p.tables e below (s₁.setTop (mkF m 2 #[.val (.ref a1), .val (.long q1), .second, .unset, .unset] [(.ref a1), (.long q1)])) t → Steps p.tables e below (s₁.setTop (mkF m 0 #[.val (.ref a1), .val (.long q1), .second, .unset, .unset] [])) t := by
    intro t kt
    show Steps p.tables e below (s₁.setTop (mkF m 0 #[.val (.ref a1), .val (.long q1), .second, .unset, .unset] [])) _
    refine XS.lloadN X0.here hx rfl (hb hby d5_0) rfl ?_
    show Steps p.tables e below (s₁.setTop (mkF m 1 #[.val (.ref a1), .val (.long q1), .second, .unset, .unset] [(.long q1)])) _
    refine XS.aloadN X0.here hx rfl (hb hby d5_1) rfl rfl ?_
    exact kt
  refine Go.adv sg1 ?_
  obtain ⟨cq2, kq2, q2a, q2b, q2c⟩ := isOf hZ e0 E_a1
  obtain ⟨_, _, ⟨T2, L2, k2, n2⟩, -, X2, ⟨Lc2, hQ2, l2, y2, z2⟩, st2⟩ := X0.virtualBack hx (y := (⟨"com/example/ballast/ballast/Pacer", "due", "()J"⟩ : MethodName)) (z := (⟨"com/example/ballast/ballast/Pacer", "due", "()J"⟩ : MethodName)) hown (mvT hZ (hw _ (List.mem_of_getElem? (i := 47) rfl))) (mvT hZ (hw _ (List.mem_of_getElem? (i := 35) rfl))) (notFace_of_selects (args := #[]) (mvT hZ (hw _ (List.mem_of_getElem? (i := 37) rfl)))) (mvT hZ (hw _ (List.mem_of_getElem? (i := 37) rfl))) (mvT hZ (hw _ (List.mem_of_getElem? (i := 36) rfl))) (by decide) (backOf (W := 2) (rm_due l Z a0 hw [] a1 org tk npr dd h0 n0 Z0 F_origin_a1 F_taken_a1 F_nanosPerRecord_a1 hN hD) hZ (hw _ (List.mem_of_getElem? (i := 38) rfl)) (hw _ (List.mem_of_getElem? (i := 18) rfl)) (by decide) (by decide)) q2a q2c (g := (mkF m 2 #[.val (.ref a1), .val (.long q1), .second, .unset, .unset] [(.ref a1), (.long q1)])) rfl (by rw [hml]; rfl) (Steps.refl _) (argsL := []) (rest := [(.long q1)]) (lenOf pd_ocJ rfl) rfl (by show 2 * 0 + _ ≤ _; exact Nat.le_of_eq rfl) (hb hby d5_2) (fun _ _ => ⟨rfl, e0, (by decide : 0 + 0 ≤ _), (by decide : 0 + 0 ≤ _)⟩)
  dsimp only [Pt.U, Pt.locs, Pt.cells, Pt.slots] at X2 l2 y2 z2 st2 hQ2
  subst l2 y2 z2
  obtain ⟨rfl, N2q, e2⟩ := hQ2
  have N2 := Fr.app N0 N2q
  refine Go.tr st2 ?_
  show Go p.tables e below s _ _ _ (T2.setTop (mkF m 5 #[.val (.ref a1), .val (.long q1), .second, .unset, .unset] [(.long (org + dd)), (.long q1)]))
  have sg3 : ∀ t, Steps p.tables e below (T2.setTop (mkF m 6 #[.val (.ref a1), .val (.long q1), .second, .unset, .unset] [(.long (q1 - (org + dd)))])) t → Steps p.tables e below (T2.setTop (mkF m 5 #[.val (.ref a1), .val (.long q1), .second, .unset, .unset] [(.long (org + dd)), (.long q1)])) t := by
    intro t kt
    show Steps p.tables e below (T2.setTop (mkF m 5 #[.val (.ref a1), .val (.long q1), .second, .unset, .unset] [(.long (org + dd)), (.long q1)])) _
    refine XS.lsub X2.here hx rfl (hb hby d5_5) rfl ?_
    exact kt
  refine Go.adv sg3 ?_
  rw [hL]
  show Go p.tables e below s _ _ _ (T2.setTop (mkF m 6 #[.val (.ref a1), .val (.long q1), .second, .unset, .unset] [(.long lg)]))
  by_cases hc : (20000000 : Int64) < lg
  · have sg4 : ∀ t, Steps p.tables e below (T2.setTop (mkF m 17 #[.val (.ref a1), .val (.long q1), .second, .val (.long lg), .second] [(.ref a1), (.ref a1)])) t → Steps p.tables e below (T2.setTop (mkF m 6 #[.val (.ref a1), .val (.long q1), .second, .unset, .unset] [(.long lg)])) t := by
      intro t kt
      show Steps p.tables e below (T2.setTop (mkF m 6 #[.val (.ref a1), .val (.long q1), .second, .unset, .unset] [(.long lg)])) _
      refine XS.lstoreN X2.here hx rfl (hb hby d5_6) rfl (l' := #[.val (.ref a1), .val (.long q1), .second, .val (.long lg), .second]) rfl ?_
      show Steps p.tables e below (T2.setTop (mkF m 7 #[.val (.ref a1), .val (.long q1), .second, .val (.long lg), .second] [])) _
      refine XS.lloadN X2.here hx rfl (hb hby d5_7) rfl ?_
      show Steps p.tables e below (T2.setTop (mkF m 8 #[.val (.ref a1), .val (.long q1), .second, .val (.long lg), .second] [(.long lg)])) _
      refine X2.ldc2Long hx hown (mvT hZ (hw _ (List.mem_of_getElem? (i := 48) rfl))) (g := (mkF m 8 #[.val (.ref a1), .val (.long q1), .second, .val (.long lg), .second] [(.long lg)])) rfl (hb hby d5_8) _ ?_
      show Steps p.tables e below (T2.setTop (mkF m 11 #[.val (.ref a1), .val (.long q1), .second, .val (.long lg), .second] [(.long (20000000 : Int64)), (.long lg)])) _
      refine XS.lcmp X2.here hx rfl (hb hby d5_11) rfl ?_
      show Steps p.tables e below (T2.setTop (mkF m 12 #[.val (.ref a1), .val (.long q1), .second, .val (.long lg), .second] [(.int (lcmpW lg (20000000 : Int64)))])) _
      refine XS.ifNo X2.here hx rfl (hb hby d5_12) rfl ((if0 _ _).trans (tlt (own_lc_gt hc : (0 : Int32) < (lcmpW lg (20000000 : Int64)))).2.2.2) ?_
      show Steps p.tables e below (T2.setTop (mkF m 15 #[.val (.ref a1), .val (.long q1), .second, .val (.long lg), .second] [])) _
      refine XS.aloadN X2.here hx rfl (hb hby d5_15) rfl rfl ?_
      show Steps p.tables e below (T2.setTop (mkF m 16 #[.val (.ref a1), .val (.long q1), .second, .val (.long lg), .second] [(.ref a1)])) _
      refine XS.dup X2.here hx rfl (hb hby d5_16) rfl rfl ?_
      exact kt
    refine Go.adv sg4 ?_
    obtain ⟨T5, X5, e5, st5⟩ := getF X2 hx hZ hown (host := "") (Or.inl (hw _ (List.mem_of_getElem? (i := 30) rfl))) Via.refl e2 F_origin_a1 (g := (mkF m 17 #[.val (.ref a1), .val (.long q1), .second, .val (.long lg), .second] [(.ref a1), (.ref a1)])) rfl rfl (hb hby d5_17)
    refine Go.adv st5 ?_
    show Go p.tables e below s _ _ _ (T5.setTop (mkF m 20 #[.val (.ref a1), .val (.long q1), .second, .val (.long lg), .second] [(.long org), (.ref a1)]))
    have sg6 : ∀ t, Steps p.tables e below (T5.setTop (mkF m 26 #[.val (.ref a1), .val (.long q1), .second, .val (.long lg), .second] [(.long (org + (lg - (20000000 : Int64)))), (.ref a1)])) t → Steps p.tables e below (T5.setTop (mkF m 20 #[.val (.ref a1), .val (.long q1), .second, .val (.long lg), .second] [(.long org), (.ref a1)])) t := by
      intro t kt
      show Steps p.tables e below (T5.setTop (mkF m 20 #[.val (.ref a1), .val (.long q1), .second, .val (.long lg), .second] [(.long org), (.ref a1)])) _
      refine XS.lloadN X5.here hx rfl (hb hby d5_20) rfl ?_
      show Steps p.tables e below (T5.setTop (mkF m 21 #[.val (.ref a1), .val (.long q1), .second, .val (.long lg), .second] [(.long lg), (.long org), (.ref a1)])) _
      refine X5.ldc2Long hx hown (mvT hZ (hw _ (List.mem_of_getElem? (i := 48) rfl))) (g := (mkF m 21 #[.val (.ref a1), .val (.long q1), .second, .val (.long lg), .second] [(.long lg), (.long org), (.ref a1)])) rfl (hb hby d5_21) _ ?_
      show Steps p.tables e below (T5.setTop (mkF m 24 #[.val (.ref a1), .val (.long q1), .second, .val (.long lg), .second] [(.long (20000000 : Int64)), (.long lg), (.long org), (.ref a1)])) _
      refine XS.lsub X5.here hx rfl (hb hby d5_24) rfl ?_
      show Steps p.tables e below (T5.setTop (mkF m 25 #[.val (.ref a1), .val (.long q1), .second, .val (.long lg), .second] [(.long (lg - (20000000 : Int64))), (.long org), (.ref a1)])) _
      refine XS.ladd X5.here hx rfl (hb hby d5_25) rfl ?_
      exact kt
    refine Go.adv sg6 ?_
    obtain ⟨T7, h7, X7, e7, W7, st7⟩ := putF X5 hx hZ hown (host := "") (Or.inl (hw _ (List.mem_of_getElem? (i := 30) rfl))) Via.refl e5 F_origin_a1 E_a1 (Or.inl (hw _ (List.mem_of_getElem? (i := 31) rfl))) (hw _ (List.mem_of_getElem? (i := 17) rfl)) (ty := .long) (by decide) rfl rfl (g := (mkF m 26 #[.val (.ref a1), .val (.long q1), .second, .val (.long lg), .second] [(.long (org + (lg - (20000000 : Int64)))), (.ref a1)])) rfl rfl (hb hby d5_26)
    have Fw7 := F_origin_a1.same W7
    have K7 : Keep h0 h7 [a1] := (Keep.refl h0 [a1]).wr W7 (Or.inl (List.mem_of_getElem? (i := 0) rfl))
    have Z7 : n0 ≤ h7.size := Nat.le_trans Z0 (Keep.of_wr W7).1
    have N7 := Fr.snoc X7 N2 g_a1
    refine Go.adv st7 ?_
    show Go p.tables e below s _ _ _ (T7.setTop (mkF m 29 #[.val (.ref a1), .val (.long q1), .second, .val (.long lg), .second] []))
    have sg8 : ∀ t, Steps p.tables e below (T7.setTop (mkF m 31 #[.val (.ref a1), .val (.long q1), .second, .val (.long lg), .second] [(.ref a1), (.ref a1)])) t → Steps p.tables e below (T7.setTop (mkF m 29 #[.val (.ref a1), .val (.long q1), .second, .val (.long lg), .second] [])) t := by
      intro t kt
      show Steps p.tables e below (T7.setTop (mkF m 29 #[.val (.ref a1), .val (.long q1), .second, .val (.long lg), .second] [])) _
      refine XS.aloadN X7.here hx rfl (hb hby d5_29) rfl rfl ?_
      show Steps p.tables e below (T7.setTop (mkF m 30 #[.val (.ref a1), .val (.long q1), .second, .val (.long lg), .second] [(.ref a1)])) _
      refine XS.dup X7.here hx rfl (hb hby d5_30) rfl rfl ?_
      exact kt
    refine Go.adv sg8 ?_
    have f9 := (F_taken_a1.other W7 (Or.inr (slot_ne (Or.inl (hw _ (List.mem_of_getElem? (i := 40) rfl))) (Or.inl (hw _ (List.mem_of_getElem? (i := 31) rfl))) (by decide) (t := .long) (t' := .long) (by decide) (by decide))))
    obtain ⟨T10, X10, e10, st10⟩ := getF X7 hx hZ hown (host := "") (Or.inl (hw _ (List.mem_of_getElem? (i := 39) rfl))) Via.refl e7 f9 (g := (mkF m 31 #[.val (.ref a1), .val (.long q1), .second, .val (.long lg), .second] [(.ref a1), (.ref a1)])) rfl rfl (hb hby d5_31)
    refine Go.adv st10 ?_
    show Go p.tables e below s _ _ _ (T10.setTop (mkF m 34 #[.val (.ref a1), .val (.long q1), .second, .val (.long lg), .second] [(.long tk), (.ref a1)]))
    have sg11 : ∀ t, Steps p.tables e below (T10.setTop (mkF m 36 #[.val (.ref a1), .val (.long q1), .second, .val (.long lg), .second] [(.long (tk + (1 : Int64))), (.ref a1)])) t → Steps p.tables e below (T10.setTop (mkF m 34 #[.val (.ref a1), .val (.long q1), .second, .val (.long lg), .second] [(.long tk), (.ref a1)])) t := by
      intro t kt
      show Steps p.tables e below (T10.setTop (mkF m 34 #[.val (.ref a1), .val (.long q1), .second, .val (.long lg), .second] [(.long tk), (.ref a1)])) _
      refine XS.lconst X10.here hx rfl (hb hby d5_34) ?_
      show Steps p.tables e below (T10.setTop (mkF m 35 #[.val (.ref a1), .val (.long q1), .second, .val (.long lg), .second] [(.long (1 : Int64)), (.long tk), (.ref a1)])) _
      refine XS.ladd X10.here hx rfl (hb hby d5_35) rfl ?_
      exact kt
    refine Go.adv sg11 ?_
    have f12 := (E_a1.wr W7)
    obtain ⟨T13, h13, X13, e13, W13, st13⟩ := putF X10 hx hZ hown (host := "") (Or.inl (hw _ (List.mem_of_getElem? (i := 39) rfl))) Via.refl e10 f9 f12 (Or.inl (hw _ (List.mem_of_getElem? (i := 40) rfl))) (hw _ (List.mem_of_getElem? (i := 17) rfl)) (ty := .long) (by decide) rfl rfl (g := (mkF m 36 #[.val (.ref a1), .val (.long q1), .second, .val (.long lg), .second] [(.long (tk + (1 : Int64))), (.ref a1)])) rfl rfl (hb hby d5_36)
    have Fw13 := f9.same W13
    have K13 : Keep h0 h13 [a1] := K7.wr W13 (Or.inl (List.mem_of_getElem? (i := 0) rfl))
    have Z13 : n0 ≤ h13.size := Nat.le_trans Z7 (Keep.of_wr W13).1
    have N13 := Fr.snoc X13 N7 g_a1
    refine Go.adv st13 ?_
    show Go p.tables e below s _ _ _ (T13.setTop (mkF m 39 #[.val (.ref a1), .val (.long q1), .second, .val (.long lg), .second] []))
    have sg14 : ∀ t, Steps p.tables e below (T13.setTop (mkF m 41 #[.val (.ref a1), .val (.long q1), .second, .val (.long lg), .second] [(.ref a1), (.ref a1)])) t → Steps p.tables e below (T13.setTop (mkF m 39 #[.val (.ref a1), .val (.long q1), .second, .val (.long lg), .second] [])) t := by
      intro t kt
      show Steps p.tables e below (T13.setTop (mkF m 39 #[.val (.ref a1), .val (.long q1), .second, .val (.long lg), .second] [])) _
      refine XS.aloadN X13.here hx rfl (hb hby d5_39) rfl rfl ?_
      show Steps p.tables e below (T13.setTop (mkF m 40 #[.val (.ref a1), .val (.long q1), .second, .val (.long lg), .second] [(.ref a1)])) _
      refine XS.dup X13.here hx rfl (hb hby d5_40) rfl rfl ?_
      exact kt
    refine Go.adv sg14 ?_
    have f15 := ((F_windowTaken_a1.other W7 (Or.inr (slot_ne (Or.inl (hw _ (List.mem_of_getElem? (i := 50) rfl))) (Or.inl (hw _ (List.mem_of_getElem? (i := 31) rfl))) (by decide) (t := .long) (t' := .long) (by decide) (by decide)))).other W13 (Or.inr (slot_ne (Or.inl (hw _ (List.mem_of_getElem? (i := 50) rfl))) (Or.inl (hw _ (List.mem_of_getElem? (i := 40) rfl))) (by decide) (t := .long) (t' := .long) (by decide) (by decide))))
    obtain ⟨T16, X16, e16, st16⟩ := getF X13 hx hZ hown (host := "") (Or.inl (hw _ (List.mem_of_getElem? (i := 49) rfl))) Via.refl e13 f15 (g := (mkF m 41 #[.val (.ref a1), .val (.long q1), .second, .val (.long lg), .second] [(.ref a1), (.ref a1)])) rfl rfl (hb hby d5_41)
    refine Go.adv st16 ?_
    show Go p.tables e below s _ _ _ (T16.setTop (mkF m 44 #[.val (.ref a1), .val (.long q1), .second, .val (.long lg), .second] [(.long wt), (.ref a1)]))
    have sg17 : ∀ t, Steps p.tables e below (T16.setTop (mkF m 46 #[.val (.ref a1), .val (.long q1), .second, .val (.long lg), .second] [(.long (wt + (1 : Int64))), (.ref a1)])) t → Steps p.tables e below (T16.setTop (mkF m 44 #[.val (.ref a1), .val (.long q1), .second, .val (.long lg), .second] [(.long wt), (.ref a1)])) t := by
      intro t kt
      show Steps p.tables e below (T16.setTop (mkF m 44 #[.val (.ref a1), .val (.long q1), .second, .val (.long lg), .second] [(.long wt), (.ref a1)])) _
      refine XS.lconst X16.here hx rfl (hb hby d5_44) ?_
      show Steps p.tables e below (T16.setTop (mkF m 45 #[.val (.ref a1), .val (.long q1), .second, .val (.long lg), .second] [(.long (1 : Int64)), (.long wt), (.ref a1)])) _
      refine XS.ladd X16.here hx rfl (hb hby d5_45) rfl ?_
      exact kt
    refine Go.adv sg17 ?_
    have f18 := (f12.wr W13)
    obtain ⟨T19, h19, X19, e19, W19, st19⟩ := putF X16 hx hZ hown (host := "") (Or.inl (hw _ (List.mem_of_getElem? (i := 49) rfl))) Via.refl e16 f15 f18 (Or.inl (hw _ (List.mem_of_getElem? (i := 50) rfl))) (hw _ (List.mem_of_getElem? (i := 17) rfl)) (ty := .long) (by decide) rfl rfl (g := (mkF m 46 #[.val (.ref a1), .val (.long q1), .second, .val (.long lg), .second] [(.long (wt + (1 : Int64))), (.ref a1)])) rfl rfl (hb hby d5_46)
    have Fw19 := f15.same W19
    have K19 : Keep h0 h19 [a1] := K13.wr W19 (Or.inl (List.mem_of_getElem? (i := 0) rfl))
    have Z19 : n0 ≤ h19.size := Nat.le_trans Z13 (Keep.of_wr W19).1
    have N19 := Fr.snoc X19 N13 g_a1
    refine Go.adv st19 ?_
    show Go p.tables e below s _ _ _ (T19.setTop (mkF m 49 #[.val (.ref a1), .val (.long q1), .second, .val (.long lg), .second] []))
    refine Go.ret (v := none) X19 (fun _ => rfl) Bd.notSynchronized (fun fs hr => X19.returnOut hx Bd.returns (hb hby d5_49) hr) ?_ (by decide) (by decide)
    show Q_rm_take Z a1 q1 org tk wt npr dd lg h0 n0 none T19.heap _
    rw [e19]
    have f20 := (f18.wr W19)
    have f21 := ((Fw7.other W13 (Or.inr (slot_ne (Or.inl (hw _ (List.mem_of_getElem? (i := 31) rfl))) (Or.inl (hw _ (List.mem_of_getElem? (i := 40) rfl))) (by decide) (t := .long) (t' := .long) (by decide) (by decide)))).other W19 (Or.inr (slot_ne (Or.inl (hw _ (List.mem_of_getElem? (i := 31) rfl))) (Or.inl (hw _ (List.mem_of_getElem? (i := 50) rfl))) (by decide) (t := .long) (t' := .long) (by decide) (by decide))))
    have f22 := (Fw13.other W19 (Or.inr (slot_ne (Or.inl (hw _ (List.mem_of_getElem? (i := 40) rfl))) (Or.inl (hw _ (List.mem_of_getElem? (i := 50) rfl))) (by decide) (t := .long) (t' := .long) (by decide) (by decide))))
    have f23 := (((F_nanosPerRecord_a1.other W7 (Or.inr (slot_ne (Or.inr (hw _ (List.mem_of_getElem? (i := 29) rfl))) (Or.inl (hw _ (List.mem_of_getElem? (i := 31) rfl))) (by decide) (t := .double) (t' := .long) (by decide) (by decide)))).other W13 (Or.inr (slot_ne (Or.inr (hw _ (List.mem_of_getElem? (i := 29) rfl))) (Or.inl (hw _ (List.mem_of_getElem? (i := 40) rfl))) (by decide) (t := .double) (t' := .long) (by decide) (by decide)))).other W19 (Or.inr (slot_ne (Or.inr (hw _ (List.mem_of_getElem? (i := 29) rfl))) (Or.inl (hw _ (List.mem_of_getElem? (i := 50) rfl))) (by decide) (t := .double) (t' := .long) (by decide) (by decide))))
    exact ⟨rfl, N19, K19, f20, (by rw [own_shift_a hc]; exact f21), f22, Fw19, f23⟩
  · have sg24 : ∀ t, Steps p.tables e below (T2.setTop (mkF m 31 #[.val (.ref a1), .val (.long q1), .second, .val (.long lg), .second] [(.ref a1), (.ref a1)])) t → Steps p.tables e below (T2.setTop (mkF m 6 #[.val (.ref a1), .val (.long q1), .second, .unset, .unset] [(.long lg)])) t := by
      intro t kt
      show Steps p.tables e below (T2.setTop (mkF m 6 #[.val (.ref a1), .val (.long q1), .second, .unset, .unset] [(.long lg)])) _
      refine XS.lstoreN X2.here hx rfl (hb hby d5_6) rfl (l' := #[.val (.ref a1), .val (.long q1), .second, .val (.long lg), .second]) rfl ?_
      show Steps p.tables e below (T2.setTop (mkF m 7 #[.val (.ref a1), .val (.long q1), .second, .val (.long lg), .second] [])) _
      refine XS.lloadN X2.here hx rfl (hb hby d5_7) rfl ?_
      show Steps p.tables e below (T2.setTop (mkF m 8 #[.val (.ref a1), .val (.long q1), .second, .val (.long lg), .second] [(.long lg)])) _
      refine X2.ldc2Long hx hown (mvT hZ (hw _ (List.mem_of_getElem? (i := 48) rfl))) (g := (mkF m 8 #[.val (.ref a1), .val (.long q1), .second, .val (.long lg), .second] [(.long lg)])) rfl (hb hby d5_8) _ ?_
      show Steps p.tables e below (T2.setTop (mkF m 11 #[.val (.ref a1), .val (.long q1), .second, .val (.long lg), .second] [(.long (20000000 : Int64)), (.long lg)])) _
      refine XS.lcmp X2.here hx rfl (hb hby d5_11) rfl ?_
      show Steps p.tables e below (T2.setTop (mkF m 12 #[.val (.ref a1), .val (.long q1), .second, .val (.long lg), .second] [(.int (lcmpW lg (20000000 : Int64)))])) _
      refine XS.ifYes X2.here hx rfl (pc0 := 12) (pc' := 29) rfl (hb hby d5_12) rfl ((if0 _ _).trans (flt (own_lc_ngt hc : ¬ ((0 : Int32) < (lcmpW lg (20000000 : Int64))))).2.2.2) (by decide) (by decide) ?_
      show Steps p.tables e below (T2.setTop (mkF m 29 #[.val (.ref a1), .val (.long q1), .second, .val (.long lg), .second] [])) _
      refine XS.aloadN X2.here hx rfl (hb hby d5_29) rfl rfl ?_
      show Steps p.tables e below (T2.setTop (mkF m 30 #[.val (.ref a1), .val (.long q1), .second, .val (.long lg), .second] [(.ref a1)])) _
      refine XS.dup X2.here hx rfl (hb hby d5_30) rfl rfl ?_
      exact kt
    refine Go.adv sg24 ?_
    obtain ⟨T25, X25, e25, st25⟩ := getF X2 hx hZ hown (host := "") (Or.inl (hw _ (List.mem_of_getElem? (i := 39) rfl))) Via.refl e2 F_taken_a1 (g := (mkF m 31 #[.val (.ref a1), .val (.long q1), .second, .val (.long lg), .second] [(.ref a1), (.ref a1)])) rfl rfl (hb hby d5_31)
    refine Go.adv st25 ?_
    show Go p.tables e below s _ _ _ (T25.setTop (mkF m 34 #[.val (.ref a1), .val (.long q1), .second, .val (.long lg), .second] [(.long tk), (.ref a1)]))
    have sg26 : ∀ t, Steps p.tables e below (T25.setTop (mkF m 36 #[.val (.ref a1), .val (.long q1), .second, .val (.long lg), .second] [(.long (tk + (1 : Int64))), (.ref a1)])) t → Steps p.tables e below (T25.setTop (mkF m 34 #[.val (.ref a1), .val (.long q1), .second, .val (.long lg), .second] [(.long tk), (.ref a1)])) t := by
      intro t kt
      show Steps p.tables e below (T25.setTop (mkF m 34 #[.val (.ref a1), .val (.long q1), .second, .val (.long lg), .second] [(.long tk), (.ref a1)])) _
      refine XS.lconst X25.here hx rfl (hb hby d5_34) ?_
      show Steps p.tables e below (T25.setTop (mkF m 35 #[.val (.ref a1), .val (.long q1), .second, .val (.long lg), .second] [(.long (1 : Int64)), (.long tk), (.ref a1)])) _
      refine XS.ladd X25.here hx rfl (hb hby d5_35) rfl ?_
      exact kt
    refine Go.adv sg26 ?_
    obtain ⟨T27, h27, X27, e27, W27, st27⟩ := putF X25 hx hZ hown (host := "") (Or.inl (hw _ (List.mem_of_getElem? (i := 39) rfl))) Via.refl e25 F_taken_a1 E_a1 (Or.inl (hw _ (List.mem_of_getElem? (i := 40) rfl))) (hw _ (List.mem_of_getElem? (i := 17) rfl)) (ty := .long) (by decide) rfl rfl (g := (mkF m 36 #[.val (.ref a1), .val (.long q1), .second, .val (.long lg), .second] [(.long (tk + (1 : Int64))), (.ref a1)])) rfl rfl (hb hby d5_36)
    have Fw27 := F_taken_a1.same W27
    have K27 : Keep h0 h27 [a1] := (Keep.refl h0 [a1]).wr W27 (Or.inl (List.mem_of_getElem? (i := 0) rfl))
    have Z27 : n0 ≤ h27.size := Nat.le_trans Z0 (Keep.of_wr W27).1
    have N27 := Fr.snoc X27 N2 g_a1
    refine Go.adv st27 ?_
    show Go p.tables e below s _ _ _ (T27.setTop (mkF m 39 #[.val (.ref a1), .val (.long q1), .second, .val (.long lg), .second] []))
    have sg28 : ∀ t, Steps p.tables e below (T27.setTop (mkF m 41 #[.val (.ref a1), .val (.long q1), .second, .val (.long lg), .second] [(.ref a1), (.ref a1)])) t → Steps p.tables e below (T27.setTop (mkF m 39 #[.val (.ref a1), .val (.long q1), .second, .val (.long lg), .second] [])) t := by
      intro t kt
      show Steps p.tables e below (T27.setTop (mkF m 39 #[.val (.ref a1), .val (.long q1), .second, .val (.long lg), .second] [])) _
      refine XS.aloadN X27.here hx rfl (hb hby d5_39) rfl rfl ?_
      show Steps p.tables e below (T27.setTop (mkF m 40 #[.val (.ref a1), .val (.long q1), .second, .val (.long lg), .second] [(.ref a1)])) _
      refine XS.dup X27.here hx rfl (hb hby d5_40) rfl rfl ?_
      exact kt
    refine Go.adv sg28 ?_
    have f29 := (F_windowTaken_a1.other W27 (Or.inr (slot_ne (Or.inl (hw _ (List.mem_of_getElem? (i := 50) rfl))) (Or.inl (hw _ (List.mem_of_getElem? (i := 40) rfl))) (by decide) (t := .long) (t' := .long) (by decide) (by decide))))
    obtain ⟨T30, X30, e30, st30⟩ := getF X27 hx hZ hown (host := "") (Or.inl (hw _ (List.mem_of_getElem? (i := 49) rfl))) Via.refl e27 f29 (g := (mkF m 41 #[.val (.ref a1), .val (.long q1), .second, .val (.long lg), .second] [(.ref a1), (.ref a1)])) rfl rfl (hb hby d5_41)
    refine Go.adv st30 ?_
    show Go p.tables e below s _ _ _ (T30.setTop (mkF m 44 #[.val (.ref a1), .val (.long q1), .second, .val (.long lg), .second] [(.long wt), (.ref a1)]))
    have sg31 : ∀ t, Steps p.tables e below (T30.setTop (mkF m 46 #[.val (.ref a1), .val (.long q1), .second, .val (.long lg), .second] [(.long (wt + (1 : Int64))), (.ref a1)])) t → Steps p.tables e below (T30.setTop (mkF m 44 #[.val (.ref a1), .val (.long q1), .second, .val (.long lg), .second] [(.long wt), (.ref a1)])) t := by
      intro t kt
      show Steps p.tables e below (T30.setTop (mkF m 44 #[.val (.ref a1), .val (.long q1), .second, .val (.long lg), .second] [(.long wt), (.ref a1)])) _
      refine XS.lconst X30.here hx rfl (hb hby d5_44) ?_
      show Steps p.tables e below (T30.setTop (mkF m 45 #[.val (.ref a1), .val (.long q1), .second, .val (.long lg), .second] [(.long (1 : Int64)), (.long wt), (.ref a1)])) _
      refine XS.ladd X30.here hx rfl (hb hby d5_45) rfl ?_
      exact kt
    refine Go.adv sg31 ?_
    have f32 := (E_a1.wr W27)
    obtain ⟨T33, h33, X33, e33, W33, st33⟩ := putF X30 hx hZ hown (host := "") (Or.inl (hw _ (List.mem_of_getElem? (i := 49) rfl))) Via.refl e30 f29 f32 (Or.inl (hw _ (List.mem_of_getElem? (i := 50) rfl))) (hw _ (List.mem_of_getElem? (i := 17) rfl)) (ty := .long) (by decide) rfl rfl (g := (mkF m 46 #[.val (.ref a1), .val (.long q1), .second, .val (.long lg), .second] [(.long (wt + (1 : Int64))), (.ref a1)])) rfl rfl (hb hby d5_46)
    have Fw33 := f29.same W33
    have K33 : Keep h0 h33 [a1] := K27.wr W33 (Or.inl (List.mem_of_getElem? (i := 0) rfl))
    have Z33 : n0 ≤ h33.size := Nat.le_trans Z27 (Keep.of_wr W33).1
    have N33 := Fr.snoc X33 N27 g_a1
    refine Go.adv st33 ?_
    show Go p.tables e below s _ _ _ (T33.setTop (mkF m 49 #[.val (.ref a1), .val (.long q1), .second, .val (.long lg), .second] []))
    refine Go.ret (v := none) X33 (fun _ => rfl) Bd.notSynchronized (fun fs hr => X33.returnOut hx Bd.returns (hb hby d5_49) hr) ?_ (by decide) (by decide)
    show Q_rm_take Z a1 q1 org tk wt npr dd lg h0 n0 none T33.heap _
    rw [e33]
    have f34 := (f32.wr W33)
    have f35 := ((F_origin_a1.other W27 (Or.inr (slot_ne (Or.inl (hw _ (List.mem_of_getElem? (i := 31) rfl))) (Or.inl (hw _ (List.mem_of_getElem? (i := 40) rfl))) (by decide) (t := .long) (t' := .long) (by decide) (by decide)))).other W33 (Or.inr (slot_ne (Or.inl (hw _ (List.mem_of_getElem? (i := 31) rfl))) (Or.inl (hw _ (List.mem_of_getElem? (i := 50) rfl))) (by decide) (t := .long) (t' := .long) (by decide) (by decide))))
    have f36 := (Fw27.other W33 (Or.inr (slot_ne (Or.inl (hw _ (List.mem_of_getElem? (i := 40) rfl))) (Or.inl (hw _ (List.mem_of_getElem? (i := 50) rfl))) (by decide) (t := .long) (t' := .long) (by decide) (by decide))))
    have f37 := ((F_nanosPerRecord_a1.other W27 (Or.inr (slot_ne (Or.inr (hw _ (List.mem_of_getElem? (i := 29) rfl))) (Or.inl (hw _ (List.mem_of_getElem? (i := 40) rfl))) (by decide) (t := .double) (t' := .long) (by decide) (by decide)))).other W33 (Or.inr (slot_ne (Or.inr (hw _ (List.mem_of_getElem? (i := 29) rfl))) (Or.inl (hw _ (List.mem_of_getElem? (i := 50) rfl))) (by decide) (t := .double) (t' := .long) (by decide) (by decide))))
    exact ⟨rfl, N33, K33, f34, (by rw [own_shift_b hc, Int64.add_zero]; exact f35), f36, Fw33, f37⟩
def own_t5 : Nat → Int64
  | 0 => 1
  | 1 => 5
  | 2 => 25
  | 3 => 125
  | 4 => 625
  | 5 => 3125
  | 6 => 15625
  | 7 => 78125
  | 8 => 390625
  | _ => 1953125
theorem own_t5_at {k : Nat} (h : k < 10) : [(Value.long (1 : Int64)), (Value.long (5 : Int64)), (Value.long (25 : Int64)), (Value.long (125 : Int64)), (Value.long (625 : Int64)), (Value.long (3125 : Int64)), (Value.long (15625 : Int64)), (Value.long (78125 : Int64)), (Value.long (390625 : Int64)), (Value.long (1953125 : Int64))].getD k (Value.long (0 : Int64)) = Value.long (own_t5 k) := by
  match k, h with
  | 0, _ => rfl
  | 1, _ => rfl
  | 2, _ => rfl
  | 3, _ => rfl
  | 4, _ => rfl
  | 5, _ => rfl
  | 6, _ => rfl
  | 7, _ => rfl
  | 8, _ => rfl
  | 9, _ => rfl
  | k + 10, h => omega
theorem own_rate : ∀ k, k < 10 → ∀ j, j < 10 → 0 < (((1 : Int64) <<< ((Int32.ofNat k) &&& 0x3f).toInt64) * own_t5 j).toInt := by decide +kernel
theorem own_idx (x : Int32) : ¬ ((x &&& (15 : Int32)) % (10 : Int32)) < 0 ∧ ((x &&& (15 : Int32)) % (10 : Int32)) < 10 := by
  have h1 : (x &&& (15 : Int32)).toInt = x.toInt % 2 ^ 4 := Kit.i32_mask x 15 (by decide) (by decide)
  have h2 := Kit.i32_rem_nonneg (x := x &&& (15 : Int32)) (y := 10) (by rw [h1]; omega)
  rw [Int32.lt_iff_toInt_lt, Int32.lt_iff_toInt_lt, h2, show (10 : Int32).toInt = 10 from rfl, show (0 : Int32).toInt = 0 from rfl]
  omega
theorem own_clamp {x : Int32} (h : ¬ x < 0 ∧ x < 10) : x.toNatClampNeg < 10 ∧ Int32.ofNat x.toNatClampNeg = x := by
  obtain ⟨h1, h2⟩ := h
  rw [Int32.lt_iff_toInt_lt, show (10 : Int32).toInt = 10 from rfl] at h2
  rw [Int32.lt_iff_toInt_lt, show (0 : Int32).toInt = 0 from rfl] at h1
  have e : x.toNatClampNeg = x.toInt.toNat := rfl
  refine ⟨by rw [e]; omega, Int32.toInt.inj ?_⟩
  rw [e, Int32.toInt_ofNat_of_lt (by omega)]
  omega
theorem own_rr {a b : Int32} (ha : ¬ a < 0 ∧ a < 10) (hb : ¬ b < 0 ∧ b < 10) : 0 < (((1 : Int64) <<< (a &&& 0x3f).toInt64) * own_t5 b.toNatClampNeg).toInt := by
  have h := own_rate _ (own_clamp ha).1 _ (own_clamp hb).1
  rw [(own_clamp ha).2] at h; exact h
theorem own_kk (x : Int32) : 0 ≤ (x &&& (3 : Int32)).toInt ∧ (x &&& (3 : Int32)).toInt ≤ 3 := by
  rw [Kit.i32_mask x 3 (k := 2) (by decide) (by decide)]; omega
/-- the grid about the quotient, and what is cut off it -/
theorem own_arith {r t m z : Nat} (hr : 0 < r) (ht : t ≤ 3) (h1 : m * r ≤ 1000000000 * 2 ^ 20) (h2 : 1000000000 * 2 ^ 20 < (m + 1) * r) (l : t * m * 2 ^ 1054 ≤ z) (u : z ≤ t * (m + 1) * 2 ^ 1054) :
    z / 2 ^ 1074 ≤ t * 1000000000 / r + 1 ∧ t * 1000000000 / r ≤ z / 2 ^ 1074 + 1 := by
  have hp : (2 : Nat) ^ 1074 = 2 ^ 20 * 2 ^ 1054 := by rw [← Nat.pow_add]
  have f1 : z / 2 ^ 1074 * 2 ^ 1074 ≤ z := Nat.div_mul_le_self ..
  have f2 : z < (z / 2 ^ 1074 + 1) * 2 ^ 1074 := by
    have := Nat.lt_mul_div_succ z (Nat.two_pow_pos 1074)
    rw [Nat.mul_comm] at this; exact this
  have F1 : t * 1000000000 / r * r ≤ t * 1000000000 := Nat.div_mul_le_self ..
  have F2 : t * 1000000000 < (t * 1000000000 / r + 1) * r := by
    have := Nat.lt_mul_div_succ (t * 1000000000) hr
    rw [Nat.mul_comm r] at this; exact this
  generalize z / 2 ^ 1074 = f at *
  generalize t * 1000000000 / r = F at *
  have a1 : f * 2 ^ 20 ≤ t * (m + 1) := by
    have : f * 2 ^ 20 * 2 ^ 1054 ≤ t * (m + 1) * 2 ^ 1054 := by rw [Nat.mul_assoc, ← hp]; exact Nat.le_trans f1 u
    exact Nat.le_of_mul_le_mul_right this (Nat.two_pow_pos _)
  have a2 : t * m < (f + 1) * 2 ^ 20 := by
    have : t * m * 2 ^ 1054 < (f + 1) * 2 ^ 20 * 2 ^ 1054 := by rw [Nat.mul_assoc (f + 1), ← hp]; exact Nat.lt_of_le_of_lt l f2
    exact Nat.lt_of_mul_lt_mul_right this
  have a3 : t * m < (F + 1) * 2 ^ 20 := by
    have : t * m * r < (F + 1) * 2 ^ 20 * r := by
      calc t * m * r = t * (m * r) := Nat.mul_assoc ..
        _ ≤ t * (1000000000 * 2 ^ 20) := Nat.mul_le_mul_left _ h1
        _ = t * 1000000000 * 2 ^ 20 := (Nat.mul_assoc ..).symm
        _ < (F + 1) * r * 2 ^ 20 := Nat.mul_lt_mul_of_pos_right F2 (Nat.two_pow_pos _)
        _ = (F + 1) * 2 ^ 20 * r := Nat.mul_right_comm ..
    exact Nat.lt_of_mul_lt_mul_right this
  have a4 : F * 2 ^ 20 ≤ t * (m + 1) := by
    have : F * 2 ^ 20 * r ≤ t * (m + 1) * r := by
      calc F * 2 ^ 20 * r = F * r * 2 ^ 20 := Nat.mul_right_comm ..
        _ ≤ t * 1000000000 * 2 ^ 20 := Nat.mul_le_mul_right _ F1
        _ = t * (1000000000 * 2 ^ 20) := Nat.mul_assoc ..
        _ ≤ t * ((m + 1) * r) := Nat.mul_le_mul_left _ (Nat.le_of_lt h2)
        _ = t * (m + 1) * r := (Nat.mul_assoc ..).symm
    exact Nat.le_of_mul_le_mul_right this hr
  rw [Nat.mul_add, Nat.mul_one] at a1 a4
  generalize t * m = A at *
  omega
theorem own_e9v : FP.Core.val64 4741671816366391296 = .fin false 8388608000000000 (-23) := by decide +kernel
theorem own_zq : FP.Core.zmag FP.Core.b64 (FP.Core.val64 4598175219545276416) = 2 ^ 1072 := by decide +kernel
theorem own_z3 : FP.Core.zmag FP.Core.b64 (FP.Core.val64 4604930618986332160) = 3 * 2 ^ 1072 := by decide +kernel
theorem own_zpos {r : Int64} {n : Int} (h : n ≤ r.toInt) {V : UInt64} (D : FP.Core.DInt n V) (hr : 0 < r.toInt) : n * (FP.Core.one64 : Int) ≤ ((FP.Core.zmag FP.Core.b64 (FP.Core.val64 (FP.l2d r)) : Nat) : Int) := by
  obtain ⟨c, q, e⟩ := Own.l2d_sgn (n := r) (by omega)
  have h1 := FP.Core.l2d_zval_ge (n := r) (V := V) (FP.Core.DInt_ne_nan D) (by
    rw [FP.Core.DInt_zval D]
    exact Int.mul_le_mul_of_nonneg_right h (by have := FP.Core.one64_pos; omega))
  rw [FP.Core.DInt_zval D] at h1
  have h2 : FP.Core.zval FP.Core.b64 (FP.Core.val64 (FP.Core.l2d r)) = ((FP.Core.zmag FP.Core.b64 (FP.Core.val64 (FP.Core.l2d r)) : Nat) : Int) := by
    rw [e]; rfl
  rw [h2] at h1; exact h1
theorem own_big : (1000000000 : Nat) * FP.Core.one64 ≤ 2 ^ 1200 := by decide +kernel
theorem own_ho : FP.Core.one64 = 4 * 2 ^ 1072 := by decide +kernel
theorem own_ho2 : FP.Core.one64 = 2 ^ 20 * 2 ^ 1054 := by decide +kernel
theorem own_zE : FP.Core.zmag FP.Core.b64 (FP.Core.val64 4741671816366391296) = 1000000000 * FP.Core.one64 := by decide +kernel
theorem own_divs (A r : Nat) (hr : 0 < r) : ∃ m, m * r ≤ A ∧ A < (m + 1) * r ∧ m ≤ A := by
  refine ⟨A / r, Nat.div_mul_le_self .., ?_, Nat.div_le_self ..⟩
  have := Nat.lt_mul_div_succ A hr
  rw [Nat.mul_comm r] at this; exact this
theorem own_g1 {o q : Nat} (h : o = 4 * q) : 1000000000 * o * o = q * (4000000000 * o) := by
  have h1 : 1000000000 * o = 4000000000 * q := by omega
  rw [h1, Nat.mul_comm 4000000000 q, Nat.mul_assoc]
theorem own_l1 {m r A o g q : Nat} (h : m * r ≤ A * g) (ho : o = g * q) : m * q * (r * o) ≤ A * o * o :=
  calc m * q * (r * o) = m * r * q * o := by ac_rfl
    _ ≤ A * g * q * o := Nat.mul_le_mul_right _ (Nat.mul_le_mul_right _ h)
    _ = A * o * o := by rw [Nat.mul_assoc A, ← ho]
theorem own_u1 {m r A o g q : Nat} (h : A * g ≤ m * r) (ho : o = g * q) : A * o * o ≤ m * q * (r * o) :=
  calc A * o * o = A * g * q * o := by rw [Nat.mul_assoc A g, ← ho]
    _ ≤ m * r * q * o := Nat.mul_le_mul_right _ (Nat.mul_le_mul_right _ h)
    _ = m * q * (r * o) := by ac_rfl
theorem own_l2 {t m q o z : Nat} (h : m * q ≤ z) : t * m * q * o ≤ t * o * z :=
  calc t * m * q * o = t * o * (m * q) := by ac_rfl
    _ ≤ t * o * z := Nat.mul_le_mul_left _ h
theorem own_u2 {t m q o z : Nat} (h : z ≤ m * q) : t * o * z ≤ t * m * q * o :=
  calc t * o * z ≤ t * o * (m * q) := Nat.mul_le_mul_left _ h
    _ = t * m * q * o := by ac_rfl
theorem own_bound {rr t : Int64} (hr : 0 < rr.toInt) (ht : 0 ≤ t.toInt ∧ t.toInt ≤ 3) :
    OwnNum (FP.ddiv (4741671816366391296 : UInt64) (FP.l2d rr)) ∧ OwnNum (FP.dmul (FP.l2d t) (FP.ddiv (4741671816366391296 : UInt64) (FP.l2d rr))) ∧ 0 ≤ (FP.d2l (FP.dmul (FP.l2d t) (FP.ddiv (4741671816366391296 : UInt64) (FP.l2d rr)))).toInt ∧ (FP.d2l (FP.dmul (FP.l2d t) (FP.ddiv (4741671816366391296 : UInt64) (FP.l2d rr)))).toInt ≤ t.toInt * 1000000000 / rr.toInt + 1 ∧ t.toInt * 1000000000 / rr.toInt ≤ (FP.d2l (FP.dmul (FP.l2d t) (FP.ddiv (4741671816366391296 : UInt64) (FP.l2d rr)))).toInt + 1 := by
  obtain ⟨c1, q1, hR⟩ := Own.l2d_sgn (n := rr) (by omega)
  obtain ⟨c2, q2, hT⟩ := Own.l2d_sgn (n := t) ht.1
  have fE : FP.Core.DFin 4741671816366391296 := ⟨_, _, _, own_e9v⟩
  have fR : FP.Core.DFin (FP.l2d rr) := ⟨_, _, _, hR⟩
  have fT : FP.Core.DFin (FP.l2d t) := ⟨_, _, _, hT⟩
  have zE := own_zE
  have zT := Own.DInt.zmag (own_i64 t (by omega))
  have o1 := FP.Core.one64_pos
  have zR1 := own_zpos (r := rr) (n := 1) (by omega) FP.Core.dint_one hr
  have zR0 : 0 < FP.Core.zmag FP.Core.b64 (FP.Core.val64 (FP.l2d rr)) := by omega
  have eN := Own.div_norm own_e9v hR (Own.den_ne hR zR0)
  have hbig := own_big
  have uN : FP.Core.zmag FP.Core.b64 (FP.Core.val64 (FP.ddiv (4741671816366391296 : UInt64) (FP.l2d rr))) ≤ 1000000000 * FP.Core.one64 := by
    have := Own.div_le (V := 4741671816366391296) fE fR zR0 fE (Nat.mul_le_mul_left _ (by omega))
    rw [zE] at this; exact this
  have fN : FP.Core.DFin (FP.ddiv (4741671816366391296 : UInt64) (FP.l2d rr)) := Own.fin_small eN (Nat.le_trans uN hbig)
  obtain ⟨s3, c3, q3, hN⟩ := fN
  have fN : FP.Core.DFin (FP.ddiv (4741671816366391296 : UInt64) (FP.l2d rr)) := ⟨_, _, _, hN⟩
  have s3f : s3 = false := by
    have h1 : FP.Core.sgn (FP.Core.val64 (FP.ddiv (4741671816366391296 : UInt64) (FP.l2d rr))) = (false != false) := by rw [eN]; exact FP.Core.sgn_roundRatio ..
    rw [hN] at h1; exact h1
  subst s3f
  have eP := Own.mul_norm hT hN
  have hsg : FP.Core.sgn (FP.Core.val64 (FP.dmul (FP.l2d t) (FP.ddiv (4741671816366391296 : UInt64) (FP.l2d rr)))) = false := by rw [show FP.dmul (FP.l2d t) (FP.ddiv (4741671816366391296 : UInt64) (FP.l2d rr)) = FP.Core.dmul (FP.Core.l2d t) (FP.Core.ddiv 4741671816366391296 (FP.Core.l2d rr)) from rfl, eP]; exact FP.Core.sgn_roundRatio ..
  have hnn : FP.Core.val64 (FP.dmul (FP.l2d t) (FP.ddiv (4741671816366391296 : UInt64) (FP.l2d rr))) ≠ .nan := by rw [show FP.dmul (FP.l2d t) (FP.ddiv (4741671816366391296 : UInt64) (FP.l2d rr)) = FP.Core.dmul (FP.Core.l2d t) (FP.Core.ddiv 4741671816366391296 (FP.Core.l2d rr)) from rfl, eP]; exact Own.ratio_ne_nan
  have nP : OwnNum (FP.dmul (FP.l2d t) (FP.ddiv (4741671816366391296 : UInt64) (FP.l2d rr))) := Own.num_nan ((FP.Core.notNaN_iff _).mpr hnn)
  refine ⟨Own.num_of fN, nP, ?_⟩
  -- the two cases
  have key : (FP.Core.zmag FP.Core.b64 (FP.Core.val64 (FP.dmul (FP.l2d t) (FP.ddiv (4741671816366391296 : UInt64) (FP.l2d rr)))) / FP.Core.one64 ≤ t.toInt.toNat * 1000000000 / rr.toInt.toNat + 1) ∧ (t.toInt.toNat * 1000000000 / rr.toInt.toNat ≤ FP.Core.zmag FP.Core.b64 (FP.Core.val64 (FP.dmul (FP.l2d t) (FP.ddiv (4741671816366391296 : UInt64) (FP.l2d rr)))) / FP.Core.one64 + 1) := by
    have ho := own_ho
    by_cases hc : 4000000000 ≤ rr.toInt
    · have z4 := own_zpos (r := rr) (n := 4000000000) hc (V := FP.l2d 4000000000) (own_i64 4000000000 (by decide)) hr
      have g1 : FP.Core.zmag FP.Core.b64 (FP.Core.val64 (FP.ddiv (4741671816366391296 : UInt64) (FP.l2d rr))) ≤ 2 ^ 1072 := by
        have := Own.div_le (V := 4598175219545276416) fE fR zR0 ((FP.Core.fin_bits _).mpr (by decide +kernel)) (by
          rw [zE, own_zq]
          have hz : 4000000000 * FP.Core.one64 ≤ FP.Core.zmag FP.Core.b64 (FP.Core.val64 (FP.l2d rr)) := by omega
          rw [own_g1 own_ho]; exact Nat.mul_le_mul_left _ hz)
        rw [own_zq] at this; exact this
      have g2 : FP.Core.zmag FP.Core.b64 (FP.Core.val64 (FP.dmul (FP.l2d t) (FP.ddiv (4741671816366391296 : UInt64) (FP.l2d rr)))) ≤ 3 * 2 ^ 1072 := by
        have := Own.mul_le (V := 4604930618986332160) fT fN ((FP.Core.fin_bits _).mpr (by decide +kernel)) (by
          rw [zT, own_z3]
          calc t.toInt.natAbs * FP.Core.one64 * FP.Core.zmag FP.Core.b64 (FP.Core.val64 (FP.ddiv (4741671816366391296 : UInt64) (FP.l2d rr))) ≤ 3 * FP.Core.one64 * 2 ^ 1072 := Nat.mul_le_mul (Nat.mul_le_mul_right _ (by omega)) g1
            _ = 3 * 2 ^ 1072 * FP.Core.one64 := Nat.mul_right_comm ..)
        rw [own_z3] at this; exact this
      have g3 : FP.Core.zmag FP.Core.b64 (FP.Core.val64 (FP.dmul (FP.l2d t) (FP.ddiv (4741671816366391296 : UInt64) (FP.l2d rr)))) / FP.Core.one64 = 0 := by
        refine Nat.div_eq_of_lt (Nat.lt_of_le_of_lt g2 ?_)
        rw [ho]
        exact Nat.mul_lt_mul_of_pos_right (by decide) (Nat.two_pow_pos _)
      have g4 : t.toInt.toNat * 1000000000 / rr.toInt.toNat = 0 := Nat.div_eq_of_lt (by omega)
      rw [g3, g4]; omega
    · have DR := own_i64 rr (by omega)
      have zR := Own.DInt.zmag DR
      obtain ⟨mm, hm1, hm2, hm3⟩ := own_divs (1000000000 * 2 ^ 20) rr.toInt.toNat (by omega)
      have er : rr.toInt.natAbs = rr.toInt.toNat := by omega
      have et : t.toInt.natAbs = t.toInt.toNat := by omega
      obtain ⟨V1, fV1, zV1⟩ := Own.grid mm (by omega)
      obtain ⟨V2, fV2, zV2⟩ := Own.grid (mm + 1) (by omega)
      obtain ⟨V3, fV3, zV3⟩ := Own.grid (t.toInt.toNat * mm) (by have := Nat.mul_le_mul_right mm (show t.toInt.toNat ≤ 3 by omega); omega)
      obtain ⟨V4, fV4, zV4⟩ := Own.grid (t.toInt.toNat * (mm + 1)) (by have := Nat.mul_le_mul_right (mm + 1) (show t.toInt.toNat ≤ 3 by omega); omega)
      have l1 := Own.div_ge (V := V1) fE fR zR0 (by
        rw [zE, zR, zV1, er]
        exact own_l1 hm1 own_ho2)
      have u1 := Own.div_le (V := V2) fE fR zR0 fV2 (by
        rw [zE, zR, zV2, er]
        exact own_u1 (Nat.le_of_lt hm2) own_ho2)
      rw [zV1] at l1
      rw [zV2] at u1
      have l2 := Own.mul_ge (V := V3) fT fN (by
        rw [zT, zV3, et]
        exact own_l2 l1)
      have u2 := Own.mul_le (V := V4) fT fN fV4 (by
        rw [zT, zV4, et]
        exact own_u2 u1)
      rw [zV3] at l2
      rw [zV4] at u2
      exact own_arith (by omega) (by omega) hm1 hm2 l2 u2
  have hF : t.toInt.toNat * 1000000000 / rr.toInt.toNat ≤ 3000000000 := Nat.le_trans (Nat.div_le_self ..) (by omega)
  have hd := Own.d2l_cut hnn hsg (by omega)
  have hi : t.toInt * 1000000000 / rr.toInt = ((t.toInt.toNat * 1000000000 / rr.toInt.toNat : Nat) : Int) := by
    rw [Int.natCast_ediv, Int.natCast_mul, Int.toNat_of_nonneg ht.1, Int.toNat_of_nonneg (by omega)]; rfl
  rw [hi]
  have hd' : (FP.d2l (FP.dmul (FP.l2d t) (FP.ddiv (4741671816366391296 : UInt64) (FP.l2d rr)))).toInt = _ := hd
  rw [hd']
  exact ⟨Int.natCast_nonneg _, by omega, by omega⟩
theorem own_diff {oo dd rr : Int64} {kk : Int32} (hr : 0 < rr.toInt) (hk : 0 ≤ kk.toInt ∧ kk.toInt ≤ 3) (hd : 0 ≤ dd.toInt) (h1 : dd.toInt ≤ kk.toInt * 1000000000 / rr.toInt + 1) :
    (((oo + dd) - oo) - (((kk.toInt64) * (1000000000 : Int64)) / rr)).toInt = dd.toInt - kk.toInt * 1000000000 / rr.toInt := by
  have e1 : ((kk.toInt64) * (1000000000 : Int64)).toInt = kk.toInt * 1000000000 := by
    rw [Kit.i64_mul (by rw [Kit.i64_of_i32]; show _ ≤ _ * 1000000000; omega) (by rw [Kit.i64_of_i32]; show _ * 1000000000 < _; omega), Kit.i64_of_i32]; rfl
  have e2 : (((kk.toInt64) * (1000000000 : Int64)) / rr).toInt = kk.toInt * 1000000000 / rr.toInt := by
    rw [Kit.i64_div (by rw [e1]; omega), e1, Int.tdiv_eq_ediv_of_nonneg (by omega)]
  have b1 : 0 ≤ kk.toInt * 1000000000 / rr.toInt := Int.ediv_nonneg (by omega) (by omega)
  have b2 : kk.toInt * 1000000000 / rr.toInt ≤ kk.toInt * 1000000000 := Int.ediv_le_self _ (by omega)
  rw [own_back, Kit.i64_sub (by rw [e2]; omega) (by rw [e2]; omega), e2]
theorem own_exact {rr t : Int64} (hr : 0 < rr.toInt) (ht : 0 ≤ t.toInt ∧ t.toInt ≤ 3) (h : ((1000000000 : Int64) - ((1000000000 : Int64) / rr) * rr) = (0 : Int64)) : (FP.d2l (FP.dmul (FP.l2d t) (FP.ddiv (4741671816366391296 : UInt64) (FP.l2d rr)))).toInt = t.toInt * 1000000000 / rr.toInt := by
  have e1 : ((1000000000 : Int64) / rr).toInt = 1000000000 / rr.toInt := by
    rw [Kit.i64_div (by show ¬ ((1000000000 : Int) = _ ∧ _); omega)]
    show (1000000000 : Int).tdiv rr.toInt = _
    rw [Int.tdiv_eq_ediv_of_nonneg (by omega)]
  have e2 := Kit.i64_rem_nonneg (x := (1000000000 : Int64)) (y := rr) (by decide)
  rw [h] at e2
  have e3 : (1000000000 : Int) % rr.toInt = 0 := e2.symm
  have e4 : rr.toInt * ((1000000000 : Int64) / rr).toInt = 1000000000 := by
    rw [e1]; have := Int.mul_ediv_add_emod 1000000000 rr.toInt; omega
  obtain ⟨-, hD, hn1, hn2⟩ := own_npr e4 hr
  obtain ⟨-, d⟩ := own_turn t hD hn1 hn2 ht
  rw [d]
  have hb : t.toInt * ((1000000000 : Int64) / rr).toInt = t.toInt * 1000000000 / rr.toInt := by
    have q : (1000000000 : Int) = ((1000000000 : Int64) / rr).toInt * rr.toInt := by rw [Int.mul_comm]; exact e4.symm
    conv => rhs; rw [q, ← Int.mul_assoc]
    rw [Int.mul_ediv_cancel _ (by omega)]
  rw [Kit.i64_mul (by generalize ((1000000000 : Int64) / rr).toInt = nv at *; have : t.toInt = 0 ∨ t.toInt = 1 ∨ t.toInt = 2 ∨ t.toInt = 3 := by omega
                      rcases this with z | z | z | z <;> rw [z] <;> omega) (by generalize ((1000000000 : Int64) / rr).toInt = nv at *; have : t.toInt = 0 ∨ t.toInt = 1 ∨ t.toInt = 2 ∨ t.toInt = 3 := by omega
                                                                               rcases this with z | z | z | z <;> rw [z] <;> omega)]
  exact hb
theorem own_z0 {x : Int64} (h : x.toInt = 0) : x = 0 := Int64.toInt.inj (h.trans rfl)
theorem own_z1 {x : Int64} {D K r : Int} (hd : x.toInt = D - K * 1000000000 / r) (h1 : D = 0) (h2 : K = 0) : x.toInt = 0 := by
  rw [h1, h2, Int.zero_mul, Int.zero_ediv] at hd; exact hd
theorem own_z2 {x : Int64} {D q : Int} (hd : x.toInt = D - q) (h1 : D = q) : x.toInt = 0 := by rw [hd, h1, Int.sub_self]
theorem own_zl {x : Int64} {D Q : Int} (hd : x.toInt = D - Q) (h : Q ≤ D + 1) : ¬ (x < (-1 : Int64)) := by
  rw [Int64.lt_iff_toInt_lt]
  have e : (-1 : Int64).toInt = -1 := by decide
  omega
theorem own_zg {x : Int64} {D Q : Int} (hd : x.toInt = D - Q) (h : D ≤ Q + 1) : ¬ ((1 : Int64) < x) := by
  rw [Int64.lt_iff_toInt_lt]
  have e : (1 : Int64).toInt = 1 := by decide
  omega
theorem own_noshift {oo dd : Int64} (h : 0 ≤ dd.toInt) : own_shift (oo - (oo + dd)) = 0 := by
  refine own_shift_b ?_
  have e : oo - (oo + dd) = -dd := by rw [Int64.sub_eq_add_neg, Int64.neg_add, Int64.sub_eq_add_neg, ← Int64.add_assoc, Int64.add_right_neg, Int64.zero_add]
  rw [e, Int64.lt_iff_toInt_lt, Kit.i64_neg (by omega)]
  show ¬ 20000000 < _
  omega
theorem own_zero {rr t : Int64} (h : t.toInt = 0) (hr : 0 < rr.toInt) : (FP.d2l (FP.dmul (FP.l2d t) (FP.ddiv (4741671816366391296 : UInt64) (FP.l2d rr)))).toInt = 0 := by
  obtain ⟨-, -, h0, -, -⟩ := own_bound (rr := rr) (t := t) hr (by omega)
  obtain ⟨c1, q1, hR⟩ := Own.l2d_sgn (n := rr) (by omega)
  have e : t = 0 := Int64.toInt.inj h
  subst e
  have zR1 := own_zpos (r := rr) (n := 1) (by omega) FP.Core.dint_one hr
  have o1 := FP.Core.one64_pos
  have zR0 : 0 < FP.Core.zmag FP.Core.b64 (FP.Core.val64 (FP.l2d rr)) := by omega
  have eN := Own.div_norm own_e9v hR (Own.den_ne hR zR0)
  have fE : FP.Core.DFin 4741671816366391296 := ⟨_, _, _, own_e9v⟩
  have fR : FP.Core.DFin (FP.l2d rr) := ⟨_, _, _, hR⟩
  have zE := own_zE
  have uN : FP.Core.zmag FP.Core.b64 (FP.Core.val64 (FP.ddiv (4741671816366391296 : UInt64) (FP.l2d rr))) ≤ 1000000000 * FP.Core.one64 := by
    have := Own.div_le (V := 4741671816366391296) fE fR zR0 fE (Nat.mul_le_mul_left _ (by omega))
    rw [zE] at this; exact this
  have hbig := own_big
  have fN : FP.Core.DFin (FP.ddiv (4741671816366391296 : UInt64) (FP.l2d rr)) := Own.fin_small eN (Nat.le_trans uN hbig)
  have D0 := own_i64 (0 : Int64) (by decide)
  have hz := Own.mul_le (V := 0) (Own.Dy.of D0).fin fN (Own.Dy.of (i := 0) (FP.Core.l2d_zero ▸ D0)).fin (by
    rw [Own.DInt.zmag D0]; show (0 : Int64).toInt.natAbs * _ * _ ≤ _; rw [show (0 : Int64).toInt.natAbs = 0 from rfl, Nat.zero_mul, Nat.zero_mul]; exact Nat.zero_le _)
  have z0 : FP.Core.zmag FP.Core.b64 (FP.Core.val64 0) = 0 := by decide +kernel
  rw [z0] at hz
  have hnn : FP.Core.val64 (FP.dmul (FP.l2d (0 : Int64)) (FP.ddiv (4741671816366391296 : UInt64) (FP.l2d rr))) ≠ .nan := by
    have := FP.Core.dmul_out (Own.Dy.of D0).fin fN
    exact (FP.Core.notNaN_iff _).mp this
  have hd := FP.Core.d2l_val hnn
  have hz' : FP.Core.zmag FP.Core.b64 (FP.Core.val64 (FP.dmul (FP.l2d (0 : Int64)) (FP.ddiv (4741671816366391296 : UInt64) (FP.l2d rr)))) = 0 := Nat.le_zero.mp hz
  rw [hz', Nat.zero_div, FP.Core.signed_zero] at hd
  exact hd
theorem pn0 : plainName "com/example/ballast/ballast/PacerDuePinLaw" = true := by first | (simp [plainName, overriddenIn]; done) | decide +kernel
theorem pd_oJJcV : parseMethodDescriptor "(JJ)V" = some ⟨[.long, .long], none⟩ := by decide +kernel
theorem pd_oJcV : parseMethodDescriptor "(J)V" = some ⟨[.long], none⟩ := by decide +kernel
theorem pd_oJJcJ : parseMethodDescriptor "(JJ)J" = some ⟨[.long, .long], some .long⟩ := by decide +kernel
theorem ef_rm0 (m : MethodId) (x0 : Int64) (x1 : Int64) (x2 : Int64) (x3 : Int32) : entryFrame m #[(.long x0), (.long x1), (.long x2), (.int x3)] maxLocals = mkF m 0 #[.val (.long x0), .second, .val (.long x1), .second, .val (.long x2), .second, .val (.int x3), .unset, .unset, .unset, .unset, .unset, .unset, .unset, .unset, .unset, .unset, .unset, .unset, .unset, .unset, .unset, .unset] [] := by first | (simp [entryFrame, mkF, argsToLocals, Value.category, maxLocals]; done) | rfl
def Q_rm0 (Z : State) (j0 : Int64) (j1 : Int64) (j2 : Int64) (p1 : Int32) (h0 : Heap) (n0 : Nat) (v : Option Value) (h : Heap) (L : List Loc) : Prop := v = some (.int (1 : Int32)) ∧ Fr n0 L
set_option maxRecDepth 65536 in
set_option maxHeartbeats 40000000 in
theorem rm0 (l : Launch) (Z : State) (a0 : Array Value) (hw : ∀ d ∈ tables_1, d.before a0 Z = true) (ws : List Jvm.Cond) (j0 : Int64) (j1 : Int64) (j2 : Int64) (p1 : Int32) (h0 : Heap) (n0 : Nat) (Z0 : n0 ≤ h0.size)  :
    MetFree l x (head1 (Jvm.Cond.code x code maxLocals ret :: ws) room_1) (fun a U => a = #[(.long j0), (.long j1), (.long j2), (.int p1)] ∧ Z.Warmed39 U.vm ∧ U.heap = h0) (fun _ _ _ _ _ => True) (fun _ U o U' => ∃ v L, o = .returned v ∧ Q_rm0 Z j0 j1 j2 p1 h0 n0 v U'.heap L ∧ FrameEnd U o U' L room_1.cells room_1.slots) := by
  refine MetFree.of_bodySF (plainFor_of_name pn0) hisR ?_
  intro p e s m args below meth c s₁ Bd hml0 hP hK
  obtain ⟨rfl, hZ, hh⟩ := hP
  have hx := Bd.exec
  have hby := Bd.bytes
  have hml : c.maxLocals = 23 := hml0
  have hown : s.vm.findClass "com/example/ballast/ballast/PacerDuePinLaw" = some m.cls := findClass_of_methodNamed Bd.named
  have hnm := (name_of_methodNamed Bd.named Bd.method).1
  have X0 : Stand p l e room_1 s m #[(.long j0), (.long j1), (.long j2), (.int p1)] below meth c s₁ [] 0 0 := Stand.of_body Bd
  have e0 : s₁.heap = h0 := by rw [← hh, Bd.state]; rfl
  have N0 := Fr.nil n0
  refine Go.start (Q := Q_rm0 Z j0 j1 j2 p1 h0 n0) (ef_rm0 m j0 j1 j2 p1) ?_
  have sg1 : ∀ t, Steps p.tables e below (s₁.setTop (mkF m 2 #[.val (.long j0), .second, .val (.long j1), .second, .val (.long j2), .second, .val (.int p1), .unset, .unset, .unset, .unset, .unset, .unset, .unset, .unset, .unset, .unset, .unset, .unset, .unset, .unset, .unset, .unset] [(.int (10 : Int32))])) t → Steps p.tables e below (s₁.setTop (mkF m 0 #[.val (.long j0), .second, .val (.long j1), .second, .val (.long j2), .second, .val (.int p1), .unset, .unset, .unset, .unset, .unset, .unset, .unset, .unset, .unset, .unset, .unset, .unset, .unset, .unset, .unset, .unset] [])) t := by
    intro t kt
    show Steps p.tables e below (s₁.setTop (mkF m 0 #[.val (.long j0), .second, .val (.long j1), .second, .val (.long j2), .second, .val (.int p1), .unset, .unset, .unset, .unset, .unset, .unset, .unset, .unset, .unset, .unset, .unset, .unset, .unset, .unset, .unset, .unset] [])) _
    refine XS.bipush X0.here hx rfl (hb hby at_0) ?_
    exact kt
  refine Go.adv sg1 ?_
  obtain ⟨T2, h2, k2, X2, e2, E2, A2, st2⟩ := newP X0 hx hZ (hw _ (List.mem_of_getElem? (i := 0) rfl)) e0 (g := (mkF m 2 #[.val (.long j0), .second, .val (.long j1), .second, .val (.long j2), .second, .val (.int p1), .unset, .unset, .unset, .unset, .unset, .unset, .unset, .unset, .unset, .unset, .unset, .unset, .unset, .unset, .unset, .unset] [(.int (10 : Int32))])) rfl (hb hby at_2) rfl (by decide) (cap := 10) (by decide) (by decide) (by decide) (by decide)
  obtain ⟨b2, gb2⟩ : ∃ z, z = h0.size := ⟨_, rfl⟩
  rw [← gb2] at A2 st2
  have g_b2 : n0 ≤ b2 := Nat.le_trans Z0 (Nat.le_of_eq gb2.symm)
  have sz_b2 : h0.size ≤ b2 := Nat.le_trans (Keep.refl h0 []).1 (Nat.le_of_eq gb2.symm)
  have K2 : Keep h0 h2 [] := (Keep.refl h0 []).ext E2
  have Z2 : n0 ≤ h2.size := Nat.le_trans Z0 E2.1
  have V_b2 : Arv Z h2 b2 k2 .long (10 : Int32) [(.long (0 : Int64)), (.long (0 : Int64)), (.long (0 : Int64)), (.long (0 : Int64)), (.long (0 : Int64)), (.long (0 : Int64)), (.long (0 : Int64)), (.long (0 : Int64)), (.long (0 : Int64)), (.long (0 : Int64))] (.long (0 : Int64)) := (Arv.new A2 (by decide)).pad (pad_rep [] (.long (0 : Int64)) 10)
  refine Go.adv st2 ?_
  show Go p.tables e below s _ _ _ (T2.setTop (mkF m 4 #[.val (.long j0), .second, .val (.long j1), .second, .val (.long j2), .second, .val (.int p1), .unset, .unset, .unset, .unset, .unset, .unset, .unset, .unset, .unset, .unset, .unset, .unset, .unset, .unset, .unset, .unset] [(.ref b2)]))
  have sg3 : ∀ t, Steps p.tables e below (T2.setTop (mkF m 7 #[.val (.long j0), .second, .val (.long j1), .second, .val (.long j2), .second, .val (.int p1), .unset, .unset, .unset, .unset, .unset, .unset, .unset, .unset, .unset, .unset, .unset, .unset, .unset, .unset, .unset, .unset] [(.long (1 : Int64)), (.int (0 : Int32)), (.ref b2), (.ref b2)])) t → Steps p.tables e below (T2.setTop (mkF m 4 #[.val (.long j0), .second, .val (.long j1), .second, .val (.long j2), .second, .val (.int p1), .unset, .unset, .unset, .unset, .unset, .unset, .unset, .unset, .unset, .unset, .unset, .unset, .unset, .unset, .unset, .unset] [(.ref b2)])) t := by
    intro t kt
    show Steps p.tables e below (T2.setTop (mkF m 4 #[.val (.long j0), .second, .val (.long j1), .second, .val (.long j2), .second, .val (.int p1), .unset, .unset, .unset, .unset, .unset, .unset, .unset, .unset, .unset, .unset, .unset, .unset, .unset, .unset, .unset, .unset] [(.ref b2)])) _
    refine XS.dup X2.here hx rfl (hb hby at_4) rfl rfl ?_
    show Steps p.tables e below (T2.setTop (mkF m 5 #[.val (.long j0), .second, .val (.long j1), .second, .val (.long j2), .second, .val (.int p1), .unset, .unset, .unset, .unset, .unset, .unset, .unset, .unset, .unset, .unset, .unset, .unset, .unset, .unset, .unset, .unset] [(.ref b2), (.ref b2)])) _
    refine XS.iconst X2.here hx rfl (hb hby at_5) ?_
    show Steps p.tables e below (T2.setTop (mkF m 6 #[.val (.long j0), .second, .val (.long j1), .second, .val (.long j2), .second, .val (.int p1), .unset, .unset, .unset, .unset, .unset, .unset, .unset, .unset, .unset, .unset, .unset, .unset, .unset, .unset, .unset, .unset] [(.int (0 : Int32)), (.ref b2), (.ref b2)])) _
    refine XS.lconst X2.here hx rfl (hb hby at_6) ?_
    exact kt
  refine Go.adv sg3 ?_
  obtain ⟨cl_b2_7, Ar_b2_7, q_b2_7, S_b2_7, N_b2_7, H_b2_7, G_b2_7⟩ := V_b2
  have hin_b2_7 : ¬ ((0 : Int32) < 0 ∨ cl_b2_7.slots.size ≤ ((0 : Int32)).toNatClampNeg) := inb_of S_b2_7 ⟨by decide, by decide⟩
  obtain ⟨T4, h4, X4, e4, W4, st4⟩ := stJ X2 hx hZ e2 Ar_b2_7 (j := (0 : Int32)) hin_b2_7 (g := (mkF m 7 #[.val (.long j0), .second, .val (.long j1), .second, .val (.long j2), .second, .val (.int p1), .unset, .unset, .unset, .unset, .unset, .unset, .unset, .unset, .unset, .unset, .unset, .unset, .unset, .unset, .unset, .unset] [(.long (1 : Int64)), (.int (0 : Int32)), (.ref b2), (.ref b2)])) rfl rfl (hb hby at_7)
  have V_b2_4 : Arv Z h4 b2 k2 .long (10 : Int32) [(.long (1 : Int64)), (.long (0 : Int64)), (.long (0 : Int64)), (.long (0 : Int64)), (.long (0 : Int64)), (.long (0 : Int64)), (.long (0 : Int64)), (.long (0 : Int64)), (.long (0 : Int64)), (.long (0 : Int64))] (.long (0 : Int64)) := Arv.set Ar_b2_7 q_b2_7 S_b2_7 N_b2_7 H_b2_7 G_b2_7 rfl W4 0 rfl (Nat.le_of_ble_eq_true rfl)
  have K4 : Keep h0 h4 [] := K2.wr W4 (Or.inr sz_b2)
  have Z4 : n0 ≤ h4.size := Nat.le_trans Z2 (Keep.of_wr W4).1
  have N4 := Fr.snoc X4 N0 g_b2
  refine Go.adv st4 ?_
  show Go p.tables e below s _ _ _ (T4.setTop (mkF m 8 #[.val (.long j0), .second, .val (.long j1), .second, .val (.long j2), .second, .val (.int p1), .unset, .unset, .unset, .unset, .unset, .unset, .unset, .unset, .unset, .unset, .unset, .unset, .unset, .unset, .unset, .unset] [(.ref b2)]))
  have sg5 : ∀ t, Steps p.tables e below (T4.setTop (mkF m 13 #[.val (.long j0), .second, .val (.long j1), .second, .val (.long j2), .second, .val (.int p1), .unset, .unset, .unset, .unset, .unset, .unset, .unset, .unset, .unset, .unset, .unset, .unset, .unset, .unset, .unset, .unset] [(.long (5 : Int64)), (.int (1 : Int32)), (.ref b2), (.ref b2)])) t → Steps p.tables e below (T4.setTop (mkF m 8 #[.val (.long j0), .second, .val (.long j1), .second, .val (.long j2), .second, .val (.int p1), .unset, .unset, .unset, .unset, .unset, .unset, .unset, .unset, .unset, .unset, .unset, .unset, .unset, .unset, .unset, .unset] [(.ref b2)])) t := by
    intro t kt
    show Steps p.tables e below (T4.setTop (mkF m 8 #[.val (.long j0), .second, .val (.long j1), .second, .val (.long j2), .second, .val (.int p1), .unset, .unset, .unset, .unset, .unset, .unset, .unset, .unset, .unset, .unset, .unset, .unset, .unset, .unset, .unset, .unset] [(.ref b2)])) _
    refine XS.dup X4.here hx rfl (hb hby at_8) rfl rfl ?_
    show Steps p.tables e below (T4.setTop (mkF m 9 #[.val (.long j0), .second, .val (.long j1), .second, .val (.long j2), .second, .val (.int p1), .unset, .unset, .unset, .unset, .unset, .unset, .unset, .unset, .unset, .unset, .unset, .unset, .unset, .unset, .unset, .unset] [(.ref b2), (.ref b2)])) _
    refine XS.iconst X4.here hx rfl (hb hby at_9) ?_
    show Steps p.tables e below (T4.setTop (mkF m 10 #[.val (.long j0), .second, .val (.long j1), .second, .val (.long j2), .second, .val (.int p1), .unset, .unset, .unset, .unset, .unset, .unset, .unset, .unset, .unset, .unset, .unset, .unset, .unset, .unset, .unset, .unset] [(.int (1 : Int32)), (.ref b2), (.ref b2)])) _
    refine X4.ldc2Long hx hown (mvT hZ (hw _ (List.mem_of_getElem? (i := 1) rfl))) (g := (mkF m 10 #[.val (.long j0), .second, .val (.long j1), .second, .val (.long j2), .second, .val (.int p1), .unset, .unset, .unset, .unset, .unset, .unset, .unset, .unset, .unset, .unset, .unset, .unset, .unset, .unset, .unset, .unset] [(.int (1 : Int32)), (.ref b2), (.ref b2)])) rfl (hb hby at_10) _ ?_
    exact kt
  refine Go.adv sg5 ?_
  obtain ⟨cl_b2_13, Ar_b2_13, q_b2_13, S_b2_13, N_b2_13, H_b2_13, G_b2_13⟩ := V_b2_4
  have hin_b2_13 : ¬ ((1 : Int32) < 0 ∨ cl_b2_13.slots.size ≤ ((1 : Int32)).toNatClampNeg) := inb_of S_b2_13 ⟨by decide, by decide⟩
  obtain ⟨T6, h6, X6, e6, W6, st6⟩ := stJ X4 hx hZ e4 Ar_b2_13 (j := (1 : Int32)) hin_b2_13 (g := (mkF m 13 #[.val (.long j0), .second, .val (.long j1), .second, .val (.long j2), .second, .val (.int p1), .unset, .unset, .unset, .unset, .unset, .unset, .unset, .unset, .unset, .unset, .unset, .unset, .unset, .unset, .unset, .unset] [(.long (5 : Int64)), (.int (1 : Int32)), (.ref b2), (.ref b2)])) rfl rfl (hb hby at_13)
  have V_b2_6 : Arv Z h6 b2 k2 .long (10 : Int32) [(.long (1 : Int64)), (.long (5 : Int64)), (.long (0 : Int64)), (.long (0 : Int64)), (.long (0 : Int64)), (.long (0 : Int64)), (.long (0 : Int64)), (.long (0 : Int64)), (.long (0 : Int64)), (.long (0 : Int64))] (.long (0 : Int64)) := Arv.set Ar_b2_13 q_b2_13 S_b2_13 N_b2_13 H_b2_13 G_b2_13 rfl W6 1 rfl (Nat.le_of_ble_eq_true rfl)
  have K6 : Keep h0 h6 [] := K4.wr W6 (Or.inr sz_b2)
  have Z6 : n0 ≤ h6.size := Nat.le_trans Z4 (Keep.of_wr W6).1
  have N6 := Fr.snoc X6 N4 g_b2
  refine Go.adv st6 ?_
  show Go p.tables e below s _ _ _ (T6.setTop (mkF m 14 #[.val (.long j0), .second, .val (.long j1), .second, .val (.long j2), .second, .val (.int p1), .unset, .unset, .unset, .unset, .unset, .unset, .unset, .unset, .unset, .unset, .unset, .unset, .unset, .unset, .unset, .unset] [(.ref b2)]))
  have sg7 : ∀ t, Steps p.tables e below (T6.setTop (mkF m 19 #[.val (.long j0), .second, .val (.long j1), .second, .val (.long j2), .second, .val (.int p1), .unset, .unset, .unset, .unset, .unset, .unset, .unset, .unset, .unset, .unset, .unset, .unset, .unset, .unset, .unset, .unset] [(.long (25 : Int64)), (.int (2 : Int32)), (.ref b2), (.ref b2)])) t → Steps p.tables e below (T6.setTop (mkF m 14 #[.val (.long j0), .second, .val (.long j1), .second, .val (.long j2), .second, .val (.int p1), .unset, .unset, .unset, .unset, .unset, .unset, .unset, .unset, .unset, .unset, .unset, .unset, .unset, .unset, .unset, .unset] [(.ref b2)])) t := by
    intro t kt
    show Steps p.tables e below (T6.setTop (mkF m 14 #[.val (.long j0), .second, .val (.long j1), .second, .val (.long j2), .second, .val (.int p1), .unset, .unset, .unset, .unset, .unset, .unset, .unset, .unset, .unset, .unset, .unset, .unset, .unset, .unset, .unset, .unset] [(.ref b2)])) _
    refine XS.dup X6.here hx rfl (hb hby at_14) rfl rfl ?_
    show Steps p.tables e below (T6.setTop (mkF m 15 #[.val (.long j0), .second, .val (.long j1), .second, .val (.long j2), .second, .val (.int p1), .unset, .unset, .unset, .unset, .unset, .unset, .unset, .unset, .unset, .unset, .unset, .unset, .unset, .unset, .unset, .unset] [(.ref b2), (.ref b2)])) _
    refine XS.iconst X6.here hx rfl (hb hby at_15) ?_
    show Steps p.tables e below (T6.setTop (mkF m 16 #[.val (.long j0), .second, .val (.long j1), .second, .val (.long j2), .second, .val (.int p1), .unset, .unset, .unset, .unset, .unset, .unset, .unset, .unset, .unset, .unset, .unset, .unset, .unset, .unset, .unset, .unset] [(.int (2 : Int32)), (.ref b2), (.ref b2)])) _
    refine X6.ldc2Long hx hown (mvT hZ (hw _ (List.mem_of_getElem? (i := 2) rfl))) (g := (mkF m 16 #[.val (.long j0), .second, .val (.long j1), .second, .val (.long j2), .second, .val (.int p1), .unset, .unset, .unset, .unset, .unset, .unset, .unset, .unset, .unset, .unset, .unset, .unset, .unset, .unset, .unset, .unset] [(.int (2 : Int32)), (.ref b2), (.ref b2)])) rfl (hb hby at_16) _ ?_
    exact kt
  refine Go.adv sg7 ?_
  obtain ⟨cl_b2_19, Ar_b2_19, q_b2_19, S_b2_19, N_b2_19, H_b2_19, G_b2_19⟩ := V_b2_6
  have hin_b2_19 : ¬ ((2 : Int32) < 0 ∨ cl_b2_19.slots.size ≤ ((2 : Int32)).toNatClampNeg) := inb_of S_b2_19 ⟨by decide, by decide⟩
  obtain ⟨T8, h8, X8, e8, W8, st8⟩ := stJ X6 hx hZ e6 Ar_b2_19 (j := (2 : Int32)) hin_b2_19 (g := (mkF m 19 #[.val (.long j0), .second, .val (.long j1), .second, .val (.long j2), .second, .val (.int p1), .unset, .unset, .unset, .unset, .unset, .unset, .unset, .unset, .unset, .unset, .unset, .unset, .unset, .unset, .unset, .unset] [(.long (25 : Int64)), (.int (2 : Int32)), (.ref b2), (.ref b2)])) rfl rfl (hb hby at_19)
  have V_b2_8 : Arv Z h8 b2 k2 .long (10 : Int32) [(.long (1 : Int64)), (.long (5 : Int64)), (.long (25 : Int64)), (.long (0 : Int64)), (.long (0 : Int64)), (.long (0 : Int64)), (.long (0 : Int64)), (.long (0 : Int64)), (.long (0 : Int64)), (.long (0 : Int64))] (.long (0 : Int64)) := Arv.set Ar_b2_19 q_b2_19 S_b2_19 N_b2_19 H_b2_19 G_b2_19 rfl W8 2 rfl (Nat.le_of_ble_eq_true rfl)
  have K8 : Keep h0 h8 [] := K6.wr W8 (Or.inr sz_b2)
  have Z8 : n0 ≤ h8.size := Nat.le_trans Z6 (Keep.of_wr W8).1
  have N8 := Fr.snoc X8 N6 g_b2
  refine Go.adv st8 ?_
  show Go p.tables e below s _ _ _ (T8.setTop (mkF m 20 #[.val (.long j0), .second, .val (.long j1), .second, .val (.long j2), .second, .val (.int p1), .unset, .unset, .unset, .unset, .unset, .unset, .unset, .unset, .unset, .unset, .unset, .unset, .unset, .unset, .unset, .unset] [(.ref b2)]))
  have sg9 : ∀ t, Steps p.tables e below (T8.setTop (mkF m 25 #[.val (.long j0), .second, .val (.long j1), .second, .val (.long j2), .second, .val (.int p1), .unset, .unset, .unset, .unset, .unset, .unset, .unset, .unset, .unset, .unset, .unset, .unset, .unset, .unset, .unset, .unset] [(.long (125 : Int64)), (.int (3 : Int32)), (.ref b2), (.ref b2)])) t → Steps p.tables e below (T8.setTop (mkF m 20 #[.val (.long j0), .second, .val (.long j1), .second, .val (.long j2), .second, .val (.int p1), .unset, .unset, .unset, .unset, .unset, .unset, .unset, .unset, .unset, .unset, .unset, .unset, .unset, .unset, .unset, .unset] [(.ref b2)])) t := by
    intro t kt
    show Steps p.tables e below (T8.setTop (mkF m 20 #[.val (.long j0), .second, .val (.long j1), .second, .val (.long j2), .second, .val (.int p1), .unset, .unset, .unset, .unset, .unset, .unset, .unset, .unset, .unset, .unset, .unset, .unset, .unset, .unset, .unset, .unset] [(.ref b2)])) _
    refine XS.dup X8.here hx rfl (hb hby at_20) rfl rfl ?_
    show Steps p.tables e below (T8.setTop (mkF m 21 #[.val (.long j0), .second, .val (.long j1), .second, .val (.long j2), .second, .val (.int p1), .unset, .unset, .unset, .unset, .unset, .unset, .unset, .unset, .unset, .unset, .unset, .unset, .unset, .unset, .unset, .unset] [(.ref b2), (.ref b2)])) _
    refine XS.iconst X8.here hx rfl (hb hby at_21) ?_
    show Steps p.tables e below (T8.setTop (mkF m 22 #[.val (.long j0), .second, .val (.long j1), .second, .val (.long j2), .second, .val (.int p1), .unset, .unset, .unset, .unset, .unset, .unset, .unset, .unset, .unset, .unset, .unset, .unset, .unset, .unset, .unset, .unset] [(.int (3 : Int32)), (.ref b2), (.ref b2)])) _
    refine X8.ldc2Long hx hown (mvT hZ (hw _ (List.mem_of_getElem? (i := 3) rfl))) (g := (mkF m 22 #[.val (.long j0), .second, .val (.long j1), .second, .val (.long j2), .second, .val (.int p1), .unset, .unset, .unset, .unset, .unset, .unset, .unset, .unset, .unset, .unset, .unset, .unset, .unset, .unset, .unset, .unset] [(.int (3 : Int32)), (.ref b2), (.ref b2)])) rfl (hb hby at_22) _ ?_
    exact kt
  refine Go.adv sg9 ?_
  obtain ⟨cl_b2_25, Ar_b2_25, q_b2_25, S_b2_25, N_b2_25, H_b2_25, G_b2_25⟩ := V_b2_8
  have hin_b2_25 : ¬ ((3 : Int32) < 0 ∨ cl_b2_25.slots.size ≤ ((3 : Int32)).toNatClampNeg) := inb_of S_b2_25 ⟨by decide, by decide⟩
  obtain ⟨T10, h10, X10, e10, W10, st10⟩ := stJ X8 hx hZ e8 Ar_b2_25 (j := (3 : Int32)) hin_b2_25 (g := (mkF m 25 #[.val (.long j0), .second, .val (.long j1), .second, .val (.long j2), .second, .val (.int p1), .unset, .unset, .unset, .unset, .unset, .unset, .unset, .unset, .unset, .unset, .unset, .unset, .unset, .unset, .unset, .unset] [(.long (125 : Int64)), (.int (3 : Int32)), (.ref b2), (.ref b2)])) rfl rfl (hb hby at_25)
  have V_b2_10 : Arv Z h10 b2 k2 .long (10 : Int32) [(.long (1 : Int64)), (.long (5 : Int64)), (.long (25 : Int64)), (.long (125 : Int64)), (.long (0 : Int64)), (.long (0 : Int64)), (.long (0 : Int64)), (.long (0 : Int64)), (.long (0 : Int64)), (.long (0 : Int64))] (.long (0 : Int64)) := Arv.set Ar_b2_25 q_b2_25 S_b2_25 N_b2_25 H_b2_25 G_b2_25 rfl W10 3 rfl (Nat.le_of_ble_eq_true rfl)
  have K10 : Keep h0 h10 [] := K8.wr W10 (Or.inr sz_b2)
  have Z10 : n0 ≤ h10.size := Nat.le_trans Z8 (Keep.of_wr W10).1
  have N10 := Fr.snoc X10 N8 g_b2
  refine Go.adv st10 ?_
  show Go p.tables e below s _ _ _ (T10.setTop (mkF m 26 #[.val (.long j0), .second, .val (.long j1), .second, .val (.long j2), .second, .val (.int p1), .unset, .unset, .unset, .unset, .unset, .unset, .unset, .unset, .unset, .unset, .unset, .unset, .unset, .unset, .unset, .unset] [(.ref b2)]))
  have sg11 : ∀ t, Steps p.tables e below (T10.setTop (mkF m 31 #[.val (.long j0), .second, .val (.long j1), .second, .val (.long j2), .second, .val (.int p1), .unset, .unset, .unset, .unset, .unset, .unset, .unset, .unset, .unset, .unset, .unset, .unset, .unset, .unset, .unset, .unset] [(.long (625 : Int64)), (.int (4 : Int32)), (.ref b2), (.ref b2)])) t → Steps p.tables e below (T10.setTop (mkF m 26 #[.val (.long j0), .second, .val (.long j1), .second, .val (.long j2), .second, .val (.int p1), .unset, .unset, .unset, .unset, .unset, .unset, .unset, .unset, .unset, .unset, .unset, .unset, .unset, .unset, .unset, .unset] [(.ref b2)])) t := by
    intro t kt
    show Steps p.tables e below (T10.setTop (mkF m 26 #[.val (.long j0), .second, .val (.long j1), .second, .val (.long j2), .second, .val (.int p1), .unset, .unset, .unset, .unset, .unset, .unset, .unset, .unset, .unset, .unset, .unset, .unset, .unset, .unset, .unset, .unset] [(.ref b2)])) _
    refine XS.dup X10.here hx rfl (hb hby at_26) rfl rfl ?_
    show Steps p.tables e below (T10.setTop (mkF m 27 #[.val (.long j0), .second, .val (.long j1), .second, .val (.long j2), .second, .val (.int p1), .unset, .unset, .unset, .unset, .unset, .unset, .unset, .unset, .unset, .unset, .unset, .unset, .unset, .unset, .unset, .unset] [(.ref b2), (.ref b2)])) _
    refine XS.iconst X10.here hx rfl (hb hby at_27) ?_
    show Steps p.tables e below (T10.setTop (mkF m 28 #[.val (.long j0), .second, .val (.long j1), .second, .val (.long j2), .second, .val (.int p1), .unset, .unset, .unset, .unset, .unset, .unset, .unset, .unset, .unset, .unset, .unset, .unset, .unset, .unset, .unset, .unset] [(.int (4 : Int32)), (.ref b2), (.ref b2)])) _
    refine X10.ldc2Long hx hown (mvT hZ (hw _ (List.mem_of_getElem? (i := 4) rfl))) (g := (mkF m 28 #[.val (.long j0), .second, .val (.long j1), .second, .val (.long j2), .second, .val (.int p1), .unset, .unset, .unset, .unset, .unset, .unset, .unset, .unset, .unset, .unset, .unset, .unset, .unset, .unset, .unset, .unset] [(.int (4 : Int32)), (.ref b2), (.ref b2)])) rfl (hb hby at_28) _ ?_
    exact kt
  refine Go.adv sg11 ?_
  obtain ⟨cl_b2_31, Ar_b2_31, q_b2_31, S_b2_31, N_b2_31, H_b2_31, G_b2_31⟩ := V_b2_10
  have hin_b2_31 : ¬ ((4 : Int32) < 0 ∨ cl_b2_31.slots.size ≤ ((4 : Int32)).toNatClampNeg) := inb_of S_b2_31 ⟨by decide, by decide⟩
  obtain ⟨T12, h12, X12, e12, W12, st12⟩ := stJ X10 hx hZ e10 Ar_b2_31 (j := (4 : Int32)) hin_b2_31 (g := (mkF m 31 #[.val (.long j0), .second, .val (.long j1), .second, .val (.long j2), .second, .val (.int p1), .unset, .unset, .unset, .unset, .unset, .unset, .unset, .unset, .unset, .unset, .unset, .unset, .unset, .unset, .unset, .unset] [(.long (625 : Int64)), (.int (4 : Int32)), (.ref b2), (.ref b2)])) rfl rfl (hb hby at_31)
  have V_b2_12 : Arv Z h12 b2 k2 .long (10 : Int32) [(.long (1 : Int64)), (.long (5 : Int64)), (.long (25 : Int64)), (.long (125 : Int64)), (.long (625 : Int64)), (.long (0 : Int64)), (.long (0 : Int64)), (.long (0 : Int64)), (.long (0 : Int64)), (.long (0 : Int64))] (.long (0 : Int64)) := Arv.set Ar_b2_31 q_b2_31 S_b2_31 N_b2_31 H_b2_31 G_b2_31 rfl W12 4 rfl (Nat.le_of_ble_eq_true rfl)
  have K12 : Keep h0 h12 [] := K10.wr W12 (Or.inr sz_b2)
  have Z12 : n0 ≤ h12.size := Nat.le_trans Z10 (Keep.of_wr W12).1
  have N12 := Fr.snoc X12 N10 g_b2
  refine Go.adv st12 ?_
  show Go p.tables e below s _ _ _ (T12.setTop (mkF m 32 #[.val (.long j0), .second, .val (.long j1), .second, .val (.long j2), .second, .val (.int p1), .unset, .unset, .unset, .unset, .unset, .unset, .unset, .unset, .unset, .unset, .unset, .unset, .unset, .unset, .unset, .unset] [(.ref b2)]))
  have sg13 : ∀ t, Steps p.tables e below (T12.setTop (mkF m 37 #[.val (.long j0), .second, .val (.long j1), .second, .val (.long j2), .second, .val (.int p1), .unset, .unset, .unset, .unset, .unset, .unset, .unset, .unset, .unset, .unset, .unset, .unset, .unset, .unset, .unset, .unset] [(.long (3125 : Int64)), (.int (5 : Int32)), (.ref b2), (.ref b2)])) t → Steps p.tables e below (T12.setTop (mkF m 32 #[.val (.long j0), .second, .val (.long j1), .second, .val (.long j2), .second, .val (.int p1), .unset, .unset, .unset, .unset, .unset, .unset, .unset, .unset, .unset, .unset, .unset, .unset, .unset, .unset, .unset, .unset] [(.ref b2)])) t := by
    intro t kt
    show Steps p.tables e below (T12.setTop (mkF m 32 #[.val (.long j0), .second, .val (.long j1), .second, .val (.long j2), .second, .val (.int p1), .unset, .unset, .unset, .unset, .unset, .unset, .unset, .unset, .unset, .unset, .unset, .unset, .unset, .unset, .unset, .unset] [(.ref b2)])) _
    refine XS.dup X12.here hx rfl (hb hby at_32) rfl rfl ?_
    show Steps p.tables e below (T12.setTop (mkF m 33 #[.val (.long j0), .second, .val (.long j1), .second, .val (.long j2), .second, .val (.int p1), .unset, .unset, .unset, .unset, .unset, .unset, .unset, .unset, .unset, .unset, .unset, .unset, .unset, .unset, .unset, .unset] [(.ref b2), (.ref b2)])) _
    refine XS.iconst X12.here hx rfl (hb hby at_33) ?_
    show Steps p.tables e below (T12.setTop (mkF m 34 #[.val (.long j0), .second, .val (.long j1), .second, .val (.long j2), .second, .val (.int p1), .unset, .unset, .unset, .unset, .unset, .unset, .unset, .unset, .unset, .unset, .unset, .unset, .unset, .unset, .unset, .unset] [(.int (5 : Int32)), (.ref b2), (.ref b2)])) _
    refine X12.ldc2Long hx hown (mvT hZ (hw _ (List.mem_of_getElem? (i := 5) rfl))) (g := (mkF m 34 #[.val (.long j0), .second, .val (.long j1), .second, .val (.long j2), .second, .val (.int p1), .unset, .unset, .unset, .unset, .unset, .unset, .unset, .unset, .unset, .unset, .unset, .unset, .unset, .unset, .unset, .unset] [(.int (5 : Int32)), (.ref b2), (.ref b2)])) rfl (hb hby at_34) _ ?_
    exact kt
  refine Go.adv sg13 ?_
  obtain ⟨cl_b2_37, Ar_b2_37, q_b2_37, S_b2_37, N_b2_37, H_b2_37, G_b2_37⟩ := V_b2_12
  have hin_b2_37 : ¬ ((5 : Int32) < 0 ∨ cl_b2_37.slots.size ≤ ((5 : Int32)).toNatClampNeg) := inb_of S_b2_37 ⟨by decide, by decide⟩
  obtain ⟨T14, h14, X14, e14, W14, st14⟩ := stJ X12 hx hZ e12 Ar_b2_37 (j := (5 : Int32)) hin_b2_37 (g := (mkF m 37 #[.val (.long j0), .second, .val (.long j1), .second, .val (.long j2), .second, .val (.int p1), .unset, .unset, .unset, .unset, .unset, .unset, .unset, .unset, .unset, .unset, .unset, .unset, .unset, .unset, .unset, .unset] [(.long (3125 : Int64)), (.int (5 : Int32)), (.ref b2), (.ref b2)])) rfl rfl (hb hby at_37)
  have V_b2_14 : Arv Z h14 b2 k2 .long (10 : Int32) [(.long (1 : Int64)), (.long (5 : Int64)), (.long (25 : Int64)), (.long (125 : Int64)), (.long (625 : Int64)), (.long (3125 : Int64)), (.long (0 : Int64)), (.long (0 : Int64)), (.long (0 : Int64)), (.long (0 : Int64))] (.long (0 : Int64)) := Arv.set Ar_b2_37 q_b2_37 S_b2_37 N_b2_37 H_b2_37 G_b2_37 rfl W14 5 rfl (Nat.le_of_ble_eq_true rfl)
  have K14 : Keep h0 h14 [] := K12.wr W14 (Or.inr sz_b2)
  have Z14 : n0 ≤ h14.size := Nat.le_trans Z12 (Keep.of_wr W14).1
  have N14 := Fr.snoc X14 N12 g_b2
  refine Go.adv st14 ?_
  show Go p.tables e below s _ _ _ (T14.setTop (mkF m 38 #[.val (.long j0), .second, .val (.long j1), .second, .val (.long j2), .second, .val (.int p1), .unset, .unset, .unset, .unset, .unset, .unset, .unset, .unset, .unset, .unset, .unset, .unset, .unset, .unset, .unset, .unset] [(.ref b2)]))
  have sg15 : ∀ t, Steps p.tables e below (T14.setTop (mkF m 44 #[.val (.long j0), .second, .val (.long j1), .second, .val (.long j2), .second, .val (.int p1), .unset, .unset, .unset, .unset, .unset, .unset, .unset, .unset, .unset, .unset, .unset, .unset, .unset, .unset, .unset, .unset] [(.long (15625 : Int64)), (.int (6 : Int32)), (.ref b2), (.ref b2)])) t → Steps p.tables e below (T14.setTop (mkF m 38 #[.val (.long j0), .second, .val (.long j1), .second, .val (.long j2), .second, .val (.int p1), .unset, .unset, .unset, .unset, .unset, .unset, .unset, .unset, .unset, .unset, .unset, .unset, .unset, .unset, .unset, .unset] [(.ref b2)])) t := by
    intro t kt
    show Steps p.tables e below (T14.setTop (mkF m 38 #[.val (.long j0), .second, .val (.long j1), .second, .val (.long j2), .second, .val (.int p1), .unset, .unset, .unset, .unset, .unset, .unset, .unset, .unset, .unset, .unset, .unset, .unset, .unset, .unset, .unset, .unset] [(.ref b2)])) _
    refine XS.dup X14.here hx rfl (hb hby at_38) rfl rfl ?_
    show Steps p.tables e below (T14.setTop (mkF m 39 #[.val (.long j0), .second, .val (.long j1), .second, .val (.long j2), .second, .val (.int p1), .unset, .unset, .unset, .unset, .unset, .unset, .unset, .unset, .unset, .unset, .unset, .unset, .unset, .unset, .unset, .unset] [(.ref b2), (.ref b2)])) _
    refine XS.bipush X14.here hx rfl (hb hby at_39) ?_
    show Steps p.tables e below (T14.setTop (mkF m 41 #[.val (.long j0), .second, .val (.long j1), .second, .val (.long j2), .second, .val (.int p1), .unset, .unset, .unset, .unset, .unset, .unset, .unset, .unset, .unset, .unset, .unset, .unset, .unset, .unset, .unset, .unset] [(.int (6 : Int32)), (.ref b2), (.ref b2)])) _
    refine X14.ldc2Long hx hown (mvT hZ (hw _ (List.mem_of_getElem? (i := 6) rfl))) (g := (mkF m 41 #[.val (.long j0), .second, .val (.long j1), .second, .val (.long j2), .second, .val (.int p1), .unset, .unset, .unset, .unset, .unset, .unset, .unset, .unset, .unset, .unset, .unset, .unset, .unset, .unset, .unset, .unset] [(.int (6 : Int32)), (.ref b2), (.ref b2)])) rfl (hb hby at_41) _ ?_
    exact kt
  refine Go.adv sg15 ?_
  obtain ⟨cl_b2_44, Ar_b2_44, q_b2_44, S_b2_44, N_b2_44, H_b2_44, G_b2_44⟩ := V_b2_14
  have hin_b2_44 : ¬ ((6 : Int32) < 0 ∨ cl_b2_44.slots.size ≤ ((6 : Int32)).toNatClampNeg) := inb_of S_b2_44 ⟨by decide, by decide⟩
  obtain ⟨T16, h16, X16, e16, W16, st16⟩ := stJ X14 hx hZ e14 Ar_b2_44 (j := (6 : Int32)) hin_b2_44 (g := (mkF m 44 #[.val (.long j0), .second, .val (.long j1), .second, .val (.long j2), .second, .val (.int p1), .unset, .unset, .unset, .unset, .unset, .unset, .unset, .unset, .unset, .unset, .unset, .unset, .unset, .unset, .unset, .unset] [(.long (15625 : Int64)), (.int (6 : Int32)), (.ref b2), (.ref b2)])) rfl rfl (hb hby at_44)
  have V_b2_16 : Arv Z h16 b2 k2 .long (10 : Int32) [(.long (1 : Int64)), (.long (5 : Int64)), (.long (25 : Int64)), (.long (125 : Int64)), (.long (625 : Int64)), (.long (3125 : Int64)), (.long (15625 : Int64)), (.long (0 : Int64)), (.long (0 : Int64)), (.long (0 : Int64))] (.long (0 : Int64)) := Arv.set Ar_b2_44 q_b2_44 S_b2_44 N_b2_44 H_b2_44 G_b2_44 rfl W16 6 rfl (Nat.le_of_ble_eq_true rfl)
  have K16 : Keep h0 h16 [] := K14.wr W16 (Or.inr sz_b2)
  have Z16 : n0 ≤ h16.size := Nat.le_trans Z14 (Keep.of_wr W16).1
  have N16 := Fr.snoc X16 N14 g_b2
  refine Go.adv st16 ?_
  show Go p.tables e below s _ _ _ (T16.setTop (mkF m 45 #[.val (.long j0), .second, .val (.long j1), .second, .val (.long j2), .second, .val (.int p1), .unset, .unset, .unset, .unset, .unset, .unset, .unset, .unset, .unset, .unset, .unset, .unset, .unset, .unset, .unset, .unset] [(.ref b2)]))
  have sg17 : ∀ t, Steps p.tables e below (T16.setTop (mkF m 51 #[.val (.long j0), .second, .val (.long j1), .second, .val (.long j2), .second, .val (.int p1), .unset, .unset, .unset, .unset, .unset, .unset, .unset, .unset, .unset, .unset, .unset, .unset, .unset, .unset, .unset, .unset] [(.long (78125 : Int64)), (.int (7 : Int32)), (.ref b2), (.ref b2)])) t → Steps p.tables e below (T16.setTop (mkF m 45 #[.val (.long j0), .second, .val (.long j1), .second, .val (.long j2), .second, .val (.int p1), .unset, .unset, .unset, .unset, .unset, .unset, .unset, .unset, .unset, .unset, .unset, .unset, .unset, .unset, .unset, .unset] [(.ref b2)])) t := by
    intro t kt
    show Steps p.tables e below (T16.setTop (mkF m 45 #[.val (.long j0), .second, .val (.long j1), .second, .val (.long j2), .second, .val (.int p1), .unset, .unset, .unset, .unset, .unset, .unset, .unset, .unset, .unset, .unset, .unset, .unset, .unset, .unset, .unset, .unset] [(.ref b2)])) _
    refine XS.dup X16.here hx rfl (hb hby at_45) rfl rfl ?_
    show Steps p.tables e below (T16.setTop (mkF m 46 #[.val (.long j0), .second, .val (.long j1), .second, .val (.long j2), .second, .val (.int p1), .unset, .unset, .unset, .unset, .unset, .unset, .unset, .unset, .unset, .unset, .unset, .unset, .unset, .unset, .unset, .unset] [(.ref b2), (.ref b2)])) _
    refine XS.bipush X16.here hx rfl (hb hby at_46) ?_
    show Steps p.tables e below (T16.setTop (mkF m 48 #[.val (.long j0), .second, .val (.long j1), .second, .val (.long j2), .second, .val (.int p1), .unset, .unset, .unset, .unset, .unset, .unset, .unset, .unset, .unset, .unset, .unset, .unset, .unset, .unset, .unset, .unset] [(.int (7 : Int32)), (.ref b2), (.ref b2)])) _
    refine X16.ldc2Long hx hown (mvT hZ (hw _ (List.mem_of_getElem? (i := 7) rfl))) (g := (mkF m 48 #[.val (.long j0), .second, .val (.long j1), .second, .val (.long j2), .second, .val (.int p1), .unset, .unset, .unset, .unset, .unset, .unset, .unset, .unset, .unset, .unset, .unset, .unset, .unset, .unset, .unset, .unset] [(.int (7 : Int32)), (.ref b2), (.ref b2)])) rfl (hb hby at_48) _ ?_
    exact kt
  refine Go.adv sg17 ?_
  obtain ⟨cl_b2_51, Ar_b2_51, q_b2_51, S_b2_51, N_b2_51, H_b2_51, G_b2_51⟩ := V_b2_16
  have hin_b2_51 : ¬ ((7 : Int32) < 0 ∨ cl_b2_51.slots.size ≤ ((7 : Int32)).toNatClampNeg) := inb_of S_b2_51 ⟨by decide, by decide⟩
  obtain ⟨T18, h18, X18, e18, W18, st18⟩ := stJ X16 hx hZ e16 Ar_b2_51 (j := (7 : Int32)) hin_b2_51 (g := (mkF m 51 #[.val (.long j0), .second, .val (.long j1), .second, .val (.long j2), .second, .val (.int p1), .unset, .unset, .unset, .unset, .unset, .unset, .unset, .unset, .unset, .unset, .unset, .unset, .unset, .unset, .unset, .unset] [(.long (78125 : Int64)), (.int (7 : Int32)), (.ref b2), (.ref b2)])) rfl rfl (hb hby at_51)
  have V_b2_18 : Arv Z h18 b2 k2 .long (10 : Int32) [(.long (1 : Int64)), (.long (5 : Int64)), (.long (25 : Int64)), (.long (125 : Int64)), (.long (625 : Int64)), (.long (3125 : Int64)), (.long (15625 : Int64)), (.long (78125 : Int64)), (.long (0 : Int64)), (.long (0 : Int64))] (.long (0 : Int64)) := Arv.set Ar_b2_51 q_b2_51 S_b2_51 N_b2_51 H_b2_51 G_b2_51 rfl W18 7 rfl (Nat.le_of_ble_eq_true rfl)
  have K18 : Keep h0 h18 [] := K16.wr W18 (Or.inr sz_b2)
  have Z18 : n0 ≤ h18.size := Nat.le_trans Z16 (Keep.of_wr W18).1
  have N18 := Fr.snoc X18 N16 g_b2
  refine Go.adv st18 ?_
  show Go p.tables e below s _ _ _ (T18.setTop (mkF m 52 #[.val (.long j0), .second, .val (.long j1), .second, .val (.long j2), .second, .val (.int p1), .unset, .unset, .unset, .unset, .unset, .unset, .unset, .unset, .unset, .unset, .unset, .unset, .unset, .unset, .unset, .unset] [(.ref b2)]))
  have sg19 : ∀ t, Steps p.tables e below (T18.setTop (mkF m 58 #[.val (.long j0), .second, .val (.long j1), .second, .val (.long j2), .second, .val (.int p1), .unset, .unset, .unset, .unset, .unset, .unset, .unset, .unset, .unset, .unset, .unset, .unset, .unset, .unset, .unset, .unset] [(.long (390625 : Int64)), (.int (8 : Int32)), (.ref b2), (.ref b2)])) t → Steps p.tables e below (T18.setTop (mkF m 52 #[.val (.long j0), .second, .val (.long j1), .second, .val (.long j2), .second, .val (.int p1), .unset, .unset, .unset, .unset, .unset, .unset, .unset, .unset, .unset, .unset, .unset, .unset, .unset, .unset, .unset, .unset] [(.ref b2)])) t := by
    intro t kt
    show Steps p.tables e below (T18.setTop (mkF m 52 #[.val (.long j0), .second, .val (.long j1), .second, .val (.long j2), .second, .val (.int p1), .unset, .unset, .unset, .unset, .unset, .unset, .unset, .unset, .unset, .unset, .unset, .unset, .unset, .unset, .unset, .unset] [(.ref b2)])) _
    refine XS.dup X18.here hx rfl (hb hby at_52) rfl rfl ?_
    show Steps p.tables e below (T18.setTop (mkF m 53 #[.val (.long j0), .second, .val (.long j1), .second, .val (.long j2), .second, .val (.int p1), .unset, .unset, .unset, .unset, .unset, .unset, .unset, .unset, .unset, .unset, .unset, .unset, .unset, .unset, .unset, .unset] [(.ref b2), (.ref b2)])) _
    refine XS.bipush X18.here hx rfl (hb hby at_53) ?_
    show Steps p.tables e below (T18.setTop (mkF m 55 #[.val (.long j0), .second, .val (.long j1), .second, .val (.long j2), .second, .val (.int p1), .unset, .unset, .unset, .unset, .unset, .unset, .unset, .unset, .unset, .unset, .unset, .unset, .unset, .unset, .unset, .unset] [(.int (8 : Int32)), (.ref b2), (.ref b2)])) _
    refine X18.ldc2Long hx hown (mvT hZ (hw _ (List.mem_of_getElem? (i := 8) rfl))) (g := (mkF m 55 #[.val (.long j0), .second, .val (.long j1), .second, .val (.long j2), .second, .val (.int p1), .unset, .unset, .unset, .unset, .unset, .unset, .unset, .unset, .unset, .unset, .unset, .unset, .unset, .unset, .unset, .unset] [(.int (8 : Int32)), (.ref b2), (.ref b2)])) rfl (hb hby at_55) _ ?_
    exact kt
  refine Go.adv sg19 ?_
  obtain ⟨cl_b2_58, Ar_b2_58, q_b2_58, S_b2_58, N_b2_58, H_b2_58, G_b2_58⟩ := V_b2_18
  have hin_b2_58 : ¬ ((8 : Int32) < 0 ∨ cl_b2_58.slots.size ≤ ((8 : Int32)).toNatClampNeg) := inb_of S_b2_58 ⟨by decide, by decide⟩
  obtain ⟨T20, h20, X20, e20, W20, st20⟩ := stJ X18 hx hZ e18 Ar_b2_58 (j := (8 : Int32)) hin_b2_58 (g := (mkF m 58 #[.val (.long j0), .second, .val (.long j1), .second, .val (.long j2), .second, .val (.int p1), .unset, .unset, .unset, .unset, .unset, .unset, .unset, .unset, .unset, .unset, .unset, .unset, .unset, .unset, .unset, .unset] [(.long (390625 : Int64)), (.int (8 : Int32)), (.ref b2), (.ref b2)])) rfl rfl (hb hby at_58)
  have V_b2_20 : Arv Z h20 b2 k2 .long (10 : Int32) [(.long (1 : Int64)), (.long (5 : Int64)), (.long (25 : Int64)), (.long (125 : Int64)), (.long (625 : Int64)), (.long (3125 : Int64)), (.long (15625 : Int64)), (.long (78125 : Int64)), (.long (390625 : Int64)), (.long (0 : Int64))] (.long (0 : Int64)) := Arv.set Ar_b2_58 q_b2_58 S_b2_58 N_b2_58 H_b2_58 G_b2_58 rfl W20 8 rfl (Nat.le_of_ble_eq_true rfl)
  have K20 : Keep h0 h20 [] := K18.wr W20 (Or.inr sz_b2)
  have Z20 : n0 ≤ h20.size := Nat.le_trans Z18 (Keep.of_wr W20).1
  have N20 := Fr.snoc X20 N18 g_b2
  refine Go.adv st20 ?_
  show Go p.tables e below s _ _ _ (T20.setTop (mkF m 59 #[.val (.long j0), .second, .val (.long j1), .second, .val (.long j2), .second, .val (.int p1), .unset, .unset, .unset, .unset, .unset, .unset, .unset, .unset, .unset, .unset, .unset, .unset, .unset, .unset, .unset, .unset] [(.ref b2)]))
  have sg21 : ∀ t, Steps p.tables e below (T20.setTop (mkF m 65 #[.val (.long j0), .second, .val (.long j1), .second, .val (.long j2), .second, .val (.int p1), .unset, .unset, .unset, .unset, .unset, .unset, .unset, .unset, .unset, .unset, .unset, .unset, .unset, .unset, .unset, .unset] [(.long (1953125 : Int64)), (.int (9 : Int32)), (.ref b2), (.ref b2)])) t → Steps p.tables e below (T20.setTop (mkF m 59 #[.val (.long j0), .second, .val (.long j1), .second, .val (.long j2), .second, .val (.int p1), .unset, .unset, .unset, .unset, .unset, .unset, .unset, .unset, .unset, .unset, .unset, .unset, .unset, .unset, .unset, .unset] [(.ref b2)])) t := by
    intro t kt
    show Steps p.tables e below (T20.setTop (mkF m 59 #[.val (.long j0), .second, .val (.long j1), .second, .val (.long j2), .second, .val (.int p1), .unset, .unset, .unset, .unset, .unset, .unset, .unset, .unset, .unset, .unset, .unset, .unset, .unset, .unset, .unset, .unset] [(.ref b2)])) _
    refine XS.dup X20.here hx rfl (hb hby at_59) rfl rfl ?_
    show Steps p.tables e below (T20.setTop (mkF m 60 #[.val (.long j0), .second, .val (.long j1), .second, .val (.long j2), .second, .val (.int p1), .unset, .unset, .unset, .unset, .unset, .unset, .unset, .unset, .unset, .unset, .unset, .unset, .unset, .unset, .unset, .unset] [(.ref b2), (.ref b2)])) _
    refine XS.bipush X20.here hx rfl (hb hby at_60) ?_
    show Steps p.tables e below (T20.setTop (mkF m 62 #[.val (.long j0), .second, .val (.long j1), .second, .val (.long j2), .second, .val (.int p1), .unset, .unset, .unset, .unset, .unset, .unset, .unset, .unset, .unset, .unset, .unset, .unset, .unset, .unset, .unset, .unset] [(.int (9 : Int32)), (.ref b2), (.ref b2)])) _
    refine X20.ldc2Long hx hown (mvT hZ (hw _ (List.mem_of_getElem? (i := 9) rfl))) (g := (mkF m 62 #[.val (.long j0), .second, .val (.long j1), .second, .val (.long j2), .second, .val (.int p1), .unset, .unset, .unset, .unset, .unset, .unset, .unset, .unset, .unset, .unset, .unset, .unset, .unset, .unset, .unset, .unset] [(.int (9 : Int32)), (.ref b2), (.ref b2)])) rfl (hb hby at_62) _ ?_
    exact kt
  refine Go.adv sg21 ?_
  obtain ⟨cl_b2_65, Ar_b2_65, q_b2_65, S_b2_65, N_b2_65, H_b2_65, G_b2_65⟩ := V_b2_20
  have hin_b2_65 : ¬ ((9 : Int32) < 0 ∨ cl_b2_65.slots.size ≤ ((9 : Int32)).toNatClampNeg) := inb_of S_b2_65 ⟨by decide, by decide⟩
  obtain ⟨T22, h22, X22, e22, W22, st22⟩ := stJ X20 hx hZ e20 Ar_b2_65 (j := (9 : Int32)) hin_b2_65 (g := (mkF m 65 #[.val (.long j0), .second, .val (.long j1), .second, .val (.long j2), .second, .val (.int p1), .unset, .unset, .unset, .unset, .unset, .unset, .unset, .unset, .unset, .unset, .unset, .unset, .unset, .unset, .unset, .unset] [(.long (1953125 : Int64)), (.int (9 : Int32)), (.ref b2), (.ref b2)])) rfl rfl (hb hby at_65)
  have V_b2_22 : Arv Z h22 b2 k2 .long (10 : Int32) [(.long (1 : Int64)), (.long (5 : Int64)), (.long (25 : Int64)), (.long (125 : Int64)), (.long (625 : Int64)), (.long (3125 : Int64)), (.long (15625 : Int64)), (.long (78125 : Int64)), (.long (390625 : Int64)), (.long (1953125 : Int64))] (.long (0 : Int64)) := Arv.set Ar_b2_65 q_b2_65 S_b2_65 N_b2_65 H_b2_65 G_b2_65 rfl W22 9 rfl (Nat.le_of_ble_eq_true rfl)
  have K22 : Keep h0 h22 [] := K20.wr W22 (Or.inr sz_b2)
  have Z22 : n0 ≤ h22.size := Nat.le_trans Z20 (Keep.of_wr W22).1
  have N22 := Fr.snoc X22 N20 g_b2
  refine Go.adv st22 ?_
  show Go p.tables e below s _ _ _ (T22.setTop (mkF m 66 #[.val (.long j0), .second, .val (.long j1), .second, .val (.long j2), .second, .val (.int p1), .unset, .unset, .unset, .unset, .unset, .unset, .unset, .unset, .unset, .unset, .unset, .unset, .unset, .unset, .unset, .unset] [(.ref b2)]))
  have sg23 : ∀ t, Steps p.tables e below (T22.setTop (mkF m 68 #[.val (.long j0), .second, .val (.long j1), .second, .val (.long j2), .second, .val (.int p1), .val (.ref b2), .unset, .unset, .unset, .unset, .unset, .unset, .unset, .unset, .unset, .unset, .unset, .unset, .unset, .unset, .unset] [])) t → Steps p.tables e below (T22.setTop (mkF m 66 #[.val (.long j0), .second, .val (.long j1), .second, .val (.long j2), .second, .val (.int p1), .unset, .unset, .unset, .unset, .unset, .unset, .unset, .unset, .unset, .unset, .unset, .unset, .unset, .unset, .unset, .unset] [(.ref b2)])) t := by
    intro t kt
    show Steps p.tables e below (T22.setTop (mkF m 66 #[.val (.long j0), .second, .val (.long j1), .second, .val (.long j2), .second, .val (.int p1), .unset, .unset, .unset, .unset, .unset, .unset, .unset, .unset, .unset, .unset, .unset, .unset, .unset, .unset, .unset, .unset] [(.ref b2)])) _
    refine XS.astore X22.here hx rfl (hb hby at_66) rfl rfl (l' := #[.val (.long j0), .second, .val (.long j1), .second, .val (.long j2), .second, .val (.int p1), .val (.ref b2), .unset, .unset, .unset, .unset, .unset, .unset, .unset, .unset, .unset, .unset, .unset, .unset, .unset, .unset, .unset]) rfl ?_
    exact kt
  refine Go.adv sg23 ?_
  obtain ⟨LH1, XH1, NH1⟩ := own_hide X22 N22
  have tailA : ∀ (T9 : State) (L9 : List Loc) (X9 : Stand p l e room_1 s m #[(.long j0), (.long j1), (.long j2), (.int p1)] below meth c T9 L9 1 10) (e9 : T9.heap = h22) (N9 : Fr n0 L9) (rr : Int64) (hr : 0 < rr.toInt), Go p.tables e below s room_1.cells room_1.slots (Q_rm0 Z j0 j1 j2 p1 h0 n0) (T9.setTop (mkF m 117 #[.val (.long j0), .second, .val (.long j1), .second, .val (.long j2), .second, .val (.int p1), .val (.ref b2), .val (.long rr), .second, .unset, .unset, .unset, .unset, .unset, .unset, .unset, .unset, .unset, .unset, .unset, .unset, .unset] [])) := by
    intro T9 L9 X9 e9 N9 rr hr
    have sg24 : ∀ t, Steps p.tables e below (T9.setTop (mkF m 126 #[.val (.long j0), .second, .val (.long j1), .second, .val (.long j2), .second, .val (.int p1), .val (.ref b2), .val (.long rr), .second, .val (.int (((p1.toUInt32 >>> ((9 : Int32) &&& 31).toUInt32).toInt32) &&& (3 : Int32))), .unset, .unset, .unset, .unset, .unset, .unset, .unset, .unset, .unset, .unset, .unset, .unset] [])) t → Steps p.tables e below (T9.setTop (mkF m 117 #[.val (.long j0), .second, .val (.long j1), .second, .val (.long j2), .second, .val (.int p1), .val (.ref b2), .val (.long rr), .second, .unset, .unset, .unset, .unset, .unset, .unset, .unset, .unset, .unset, .unset, .unset, .unset, .unset] [])) t := by
      intro t kt
      show Steps p.tables e below (T9.setTop (mkF m 117 #[.val (.long j0), .second, .val (.long j1), .second, .val (.long j2), .second, .val (.int p1), .val (.ref b2), .val (.long rr), .second, .unset, .unset, .unset, .unset, .unset, .unset, .unset, .unset, .unset, .unset, .unset, .unset, .unset] [])) _
      refine XS.iload X9.here hx rfl (hb hby at_117) rfl ?_
      show Steps p.tables e below (T9.setTop (mkF m 119 #[.val (.long j0), .second, .val (.long j1), .second, .val (.long j2), .second, .val (.int p1), .val (.ref b2), .val (.long rr), .second, .unset, .unset, .unset, .unset, .unset, .unset, .unset, .unset, .unset, .unset, .unset, .unset, .unset] [(.int p1)])) _
      refine XS.bipush X9.here hx rfl (hb hby at_119) ?_
      show Steps p.tables e below (T9.setTop (mkF m 121 #[.val (.long j0), .second, .val (.long j1), .second, .val (.long j2), .second, .val (.int p1), .val (.ref b2), .val (.long rr), .second, .unset, .unset, .unset, .unset, .unset, .unset, .unset, .unset, .unset, .unset, .unset, .unset, .unset] [(.int (9 : Int32)), (.int p1)])) _
      refine XS.iushr X9.here hx rfl (hb hby at_121) rfl ?_
      show Steps p.tables e below (T9.setTop (mkF m 122 #[.val (.long j0), .second, .val (.long j1), .second, .val (.long j2), .second, .val (.int p1), .val (.ref b2), .val (.long rr), .second, .unset, .unset, .unset, .unset, .unset, .unset, .unset, .unset, .unset, .unset, .unset, .unset, .unset] [(.int ((p1.toUInt32 >>> ((9 : Int32) &&& 31).toUInt32).toInt32))])) _
      refine XS.iconst X9.here hx rfl (hb hby at_122) ?_
      show Steps p.tables e below (T9.setTop (mkF m 123 #[.val (.long j0), .second, .val (.long j1), .second, .val (.long j2), .second, .val (.int p1), .val (.ref b2), .val (.long rr), .second, .unset, .unset, .unset, .unset, .unset, .unset, .unset, .unset, .unset, .unset, .unset, .unset, .unset] [(.int (3 : Int32)), (.int ((p1.toUInt32 >>> ((9 : Int32) &&& 31).toUInt32).toInt32))])) _
      refine XS.iand X9.here hx rfl (hb hby at_123) rfl ?_
      show Steps p.tables e below (T9.setTop (mkF m 124 #[.val (.long j0), .second, .val (.long j1), .second, .val (.long j2), .second, .val (.int p1), .val (.ref b2), .val (.long rr), .second, .unset, .unset, .unset, .unset, .unset, .unset, .unset, .unset, .unset, .unset, .unset, .unset, .unset] [(.int (((p1.toUInt32 >>> ((9 : Int32) &&& 31).toUInt32).toInt32) &&& (3 : Int32)))])) _
      refine XS.istore X9.here hx rfl (hb hby at_124) rfl (l' := #[.val (.long j0), .second, .val (.long j1), .second, .val (.long j2), .second, .val (.int p1), .val (.ref b2), .val (.long rr), .second, .val (.int (((p1.toUInt32 >>> ((9 : Int32) &&& 31).toUInt32).toInt32) &&& (3 : Int32))), .unset, .unset, .unset, .unset, .unset, .unset, .unset, .unset, .unset, .unset, .unset, .unset]) rfl ?_
      exact kt
    refine Go.adv sg24 ?_
    have hkk := own_kk (((p1.toUInt32 >>> ((9 : Int32) &&& 31).toUInt32).toInt32))
    generalize h_kk : (((p1.toUInt32 >>> ((9 : Int32) &&& 31).toUInt32).toInt32) &&& (3 : Int32)) = kk
    show Go p.tables e below s _ _ _ (T9.setTop (mkF m 126 #[.val (.long j0), .second, .val (.long j1), .second, .val (.long j2), .second, .val (.int p1), .val (.ref b2), .val (.long rr), .second, .val (.int kk), .unset, .unset, .unset, .unset, .unset, .unset, .unset, .unset, .unset, .unset, .unset, .unset] []))
    rw [h_kk] at hkk
    obtain ⟨lg, -, sgL⟩ : ∃ (lg : Int64), (True) ∧ ∀ t, Steps p.tables e below (T9.setTop (mkF m 159 #[.val (.long j0), .second, .val (.long j1), .second, .val (.long j2), .second, .val (.int p1), .val (.ref b2), .val (.long rr), .second, .val (.int kk), .val (.long lg), .second, .unset, .unset, .unset, .unset, .unset, .unset, .unset, .unset, .unset, .unset] [])) t → Steps p.tables e below (T9.setTop (mkF m 126 #[.val (.long j0), .second, .val (.long j1), .second, .val (.long j2), .second, .val (.int p1), .val (.ref b2), .val (.long rr), .second, .val (.int kk), .unset, .unset, .unset, .unset, .unset, .unset, .unset, .unset, .unset, .unset, .unset, .unset] [])) t := by
      by_cases hbb : (((p1.toUInt32 >>> ((11 : Int32) &&& 31).toUInt32).toInt32) &&& (1 : Int32)) = (0 : Int32)
      · refine ⟨(j2 &&& (1099511627775 : Int64)), trivial, ?_⟩
        intro t kt
        show Steps p.tables e below (T9.setTop (mkF m 126 #[.val (.long j0), .second, .val (.long j1), .second, .val (.long j2), .second, .val (.int p1), .val (.ref b2), .val (.long rr), .second, .val (.int kk), .unset, .unset, .unset, .unset, .unset, .unset, .unset, .unset, .unset, .unset, .unset, .unset] [])) _
        refine XS.iload X9.here hx rfl (hb hby at_126) rfl ?_
        show Steps p.tables e below (T9.setTop (mkF m 128 #[.val (.long j0), .second, .val (.long j1), .second, .val (.long j2), .second, .val (.int p1), .val (.ref b2), .val (.long rr), .second, .val (.int kk), .unset, .unset, .unset, .unset, .unset, .unset, .unset, .unset, .unset, .unset, .unset, .unset] [(.int p1)])) _
        refine XS.bipush X9.here hx rfl (hb hby at_128) ?_
        show Steps p.tables e below (T9.setTop (mkF m 130 #[.val (.long j0), .second, .val (.long j1), .second, .val (.long j2), .second, .val (.int p1), .val (.ref b2), .val (.long rr), .second, .val (.int kk), .unset, .unset, .unset, .unset, .unset, .unset, .unset, .unset, .unset, .unset, .unset, .unset] [(.int (11 : Int32)), (.int p1)])) _
        refine XS.iushr X9.here hx rfl (hb hby at_130) rfl ?_
        show Steps p.tables e below (T9.setTop (mkF m 131 #[.val (.long j0), .second, .val (.long j1), .second, .val (.long j2), .second, .val (.int p1), .val (.ref b2), .val (.long rr), .second, .val (.int kk), .unset, .unset, .unset, .unset, .unset, .unset, .unset, .unset, .unset, .unset, .unset, .unset] [(.int ((p1.toUInt32 >>> ((11 : Int32) &&& 31).toUInt32).toInt32))])) _
        refine XS.iconst X9.here hx rfl (hb hby at_131) ?_
        show Steps p.tables e below (T9.setTop (mkF m 132 #[.val (.long j0), .second, .val (.long j1), .second, .val (.long j2), .second, .val (.int p1), .val (.ref b2), .val (.long rr), .second, .val (.int kk), .unset, .unset, .unset, .unset, .unset, .unset, .unset, .unset, .unset, .unset, .unset, .unset] [(.int (1 : Int32)), (.int ((p1.toUInt32 >>> ((11 : Int32) &&& 31).toUInt32).toInt32))])) _
        refine XS.iand X9.here hx rfl (hb hby at_132) rfl ?_
        show Steps p.tables e below (T9.setTop (mkF m 133 #[.val (.long j0), .second, .val (.long j1), .second, .val (.long j2), .second, .val (.int p1), .val (.ref b2), .val (.long rr), .second, .val (.int kk), .unset, .unset, .unset, .unset, .unset, .unset, .unset, .unset, .unset, .unset, .unset, .unset] [(.int (((p1.toUInt32 >>> ((11 : Int32) &&& 31).toUInt32).toInt32) &&& (1 : Int32)))])) _
        refine XS.ifYes X9.here hx rfl (pc0 := 133) (pc' := 151) rfl (hb hby at_133) rfl ((if0 _ _).trans (teq (hbb : (((p1.toUInt32 >>> ((11 : Int32) &&& 31).toUInt32).toInt32) &&& (1 : Int32)) = (0 : Int32))).1) (by decide) (by decide) ?_
        show Steps p.tables e below (T9.setTop (mkF m 151 #[.val (.long j0), .second, .val (.long j1), .second, .val (.long j2), .second, .val (.int p1), .val (.ref b2), .val (.long rr), .second, .val (.int kk), .unset, .unset, .unset, .unset, .unset, .unset, .unset, .unset, .unset, .unset, .unset, .unset] [])) _
        refine XS.lload X9.here hx rfl (hb hby at_151) rfl ?_
        show Steps p.tables e below (T9.setTop (mkF m 153 #[.val (.long j0), .second, .val (.long j1), .second, .val (.long j2), .second, .val (.int p1), .val (.ref b2), .val (.long rr), .second, .val (.int kk), .unset, .unset, .unset, .unset, .unset, .unset, .unset, .unset, .unset, .unset, .unset, .unset] [(.long j2)])) _
        refine X9.ldc2Long hx hown (mvT hZ (hw _ (List.mem_of_getElem? (i := 15) rfl))) (g := (mkF m 153 #[.val (.long j0), .second, .val (.long j1), .second, .val (.long j2), .second, .val (.int p1), .val (.ref b2), .val (.long rr), .second, .val (.int kk), .unset, .unset, .unset, .unset, .unset, .unset, .unset, .unset, .unset, .unset, .unset, .unset] [(.long j2)])) rfl (hb hby at_153) _ ?_
        show Steps p.tables e below (T9.setTop (mkF m 156 #[.val (.long j0), .second, .val (.long j1), .second, .val (.long j2), .second, .val (.int p1), .val (.ref b2), .val (.long rr), .second, .val (.int kk), .unset, .unset, .unset, .unset, .unset, .unset, .unset, .unset, .unset, .unset, .unset, .unset] [(.long (1099511627775 : Int64)), (.long j2)])) _
        refine XS.land X9.here hx rfl (hb hby at_156) rfl ?_
        show Steps p.tables e below (T9.setTop (mkF m 157 #[.val (.long j0), .second, .val (.long j1), .second, .val (.long j2), .second, .val (.int p1), .val (.ref b2), .val (.long rr), .second, .val (.int kk), .unset, .unset, .unset, .unset, .unset, .unset, .unset, .unset, .unset, .unset, .unset, .unset] [(.long (j2 &&& (1099511627775 : Int64)))])) _
        refine XS.lstore X9.here hx rfl (hb hby at_157) rfl (l' := #[.val (.long j0), .second, .val (.long j1), .second, .val (.long j2), .second, .val (.int p1), .val (.ref b2), .val (.long rr), .second, .val (.int kk), .val (.long (j2 &&& (1099511627775 : Int64))), .second, .unset, .unset, .unset, .unset, .unset, .unset, .unset, .unset, .unset, .unset]) rfl ?_
        exact kt
      · refine ⟨((19999996 : Int64) + (j2 &&& (7 : Int64))), trivial, ?_⟩
        intro t kt
        show Steps p.tables e below (T9.setTop (mkF m 126 #[.val (.long j0), .second, .val (.long j1), .second, .val (.long j2), .second, .val (.int p1), .val (.ref b2), .val (.long rr), .second, .val (.int kk), .unset, .unset, .unset, .unset, .unset, .unset, .unset, .unset, .unset, .unset, .unset, .unset] [])) _
        refine XS.iload X9.here hx rfl (hb hby at_126) rfl ?_
        show Steps p.tables e below (T9.setTop (mkF m 128 #[.val (.long j0), .second, .val (.long j1), .second, .val (.long j2), .second, .val (.int p1), .val (.ref b2), .val (.long rr), .second, .val (.int kk), .unset, .unset, .unset, .unset, .unset, .unset, .unset, .unset, .unset, .unset, .unset, .unset] [(.int p1)])) _
        refine XS.bipush X9.here hx rfl (hb hby at_128) ?_
        show Steps p.tables e below (T9.setTop (mkF m 130 #[.val (.long j0), .second, .val (.long j1), .second, .val (.long j2), .second, .val (.int p1), .val (.ref b2), .val (.long rr), .second, .val (.int kk), .unset, .unset, .unset, .unset, .unset, .unset, .unset, .unset, .unset, .unset, .unset, .unset] [(.int (11 : Int32)), (.int p1)])) _
        refine XS.iushr X9.here hx rfl (hb hby at_130) rfl ?_
        show Steps p.tables e below (T9.setTop (mkF m 131 #[.val (.long j0), .second, .val (.long j1), .second, .val (.long j2), .second, .val (.int p1), .val (.ref b2), .val (.long rr), .second, .val (.int kk), .unset, .unset, .unset, .unset, .unset, .unset, .unset, .unset, .unset, .unset, .unset, .unset] [(.int ((p1.toUInt32 >>> ((11 : Int32) &&& 31).toUInt32).toInt32))])) _
        refine XS.iconst X9.here hx rfl (hb hby at_131) ?_
        show Steps p.tables e below (T9.setTop (mkF m 132 #[.val (.long j0), .second, .val (.long j1), .second, .val (.long j2), .second, .val (.int p1), .val (.ref b2), .val (.long rr), .second, .val (.int kk), .unset, .unset, .unset, .unset, .unset, .unset, .unset, .unset, .unset, .unset, .unset, .unset] [(.int (1 : Int32)), (.int ((p1.toUInt32 >>> ((11 : Int32) &&& 31).toUInt32).toInt32))])) _
        refine XS.iand X9.here hx rfl (hb hby at_132) rfl ?_
        show Steps p.tables e below (T9.setTop (mkF m 133 #[.val (.long j0), .second, .val (.long j1), .second, .val (.long j2), .second, .val (.int p1), .val (.ref b2), .val (.long rr), .second, .val (.int kk), .unset, .unset, .unset, .unset, .unset, .unset, .unset, .unset, .unset, .unset, .unset, .unset] [(.int (((p1.toUInt32 >>> ((11 : Int32) &&& 31).toUInt32).toInt32) &&& (1 : Int32)))])) _
        refine XS.ifNo X9.here hx rfl (hb hby at_133) rfl ((if0 _ _).trans (feq (hbb : ¬ ((((p1.toUInt32 >>> ((11 : Int32) &&& 31).toUInt32).toInt32) &&& (1 : Int32)) = (0 : Int32)))).1) ?_
        show Steps p.tables e below (T9.setTop (mkF m 136 #[.val (.long j0), .second, .val (.long j1), .second, .val (.long j2), .second, .val (.int p1), .val (.ref b2), .val (.long rr), .second, .val (.int kk), .unset, .unset, .unset, .unset, .unset, .unset, .unset, .unset, .unset, .unset, .unset, .unset] [])) _
        refine X9.ldc2Long hx hown (mvT hZ (hw _ (List.mem_of_getElem? (i := 53) rfl))) (g := (mkF m 136 #[.val (.long j0), .second, .val (.long j1), .second, .val (.long j2), .second, .val (.int p1), .val (.ref b2), .val (.long rr), .second, .val (.int kk), .unset, .unset, .unset, .unset, .unset, .unset, .unset, .unset, .unset, .unset, .unset, .unset] [])) rfl (hb hby at_136) _ ?_
        show Steps p.tables e below (T9.setTop (mkF m 139 #[.val (.long j0), .second, .val (.long j1), .second, .val (.long j2), .second, .val (.int p1), .val (.ref b2), .val (.long rr), .second, .val (.int kk), .unset, .unset, .unset, .unset, .unset, .unset, .unset, .unset, .unset, .unset, .unset, .unset] [(.long (19999996 : Int64))])) _
        refine XS.lload X9.here hx rfl (hb hby at_139) rfl ?_
        show Steps p.tables e below (T9.setTop (mkF m 141 #[.val (.long j0), .second, .val (.long j1), .second, .val (.long j2), .second, .val (.int p1), .val (.ref b2), .val (.long rr), .second, .val (.int kk), .unset, .unset, .unset, .unset, .unset, .unset, .unset, .unset, .unset, .unset, .unset, .unset] [(.long j2), (.long (19999996 : Int64))])) _
        refine X9.ldc2Long hx hown (mvT hZ (hw _ (List.mem_of_getElem? (i := 54) rfl))) (g := (mkF m 141 #[.val (.long j0), .second, .val (.long j1), .second, .val (.long j2), .second, .val (.int p1), .val (.ref b2), .val (.long rr), .second, .val (.int kk), .unset, .unset, .unset, .unset, .unset, .unset, .unset, .unset, .unset, .unset, .unset, .unset] [(.long j2), (.long (19999996 : Int64))])) rfl (hb hby at_141) _ ?_
        show Steps p.tables e below (T9.setTop (mkF m 144 #[.val (.long j0), .second, .val (.long j1), .second, .val (.long j2), .second, .val (.int p1), .val (.ref b2), .val (.long rr), .second, .val (.int kk), .unset, .unset, .unset, .unset, .unset, .unset, .unset, .unset, .unset, .unset, .unset, .unset] [(.long (7 : Int64)), (.long j2), (.long (19999996 : Int64))])) _
        refine XS.land X9.here hx rfl (hb hby at_144) rfl ?_
        show Steps p.tables e below (T9.setTop (mkF m 145 #[.val (.long j0), .second, .val (.long j1), .second, .val (.long j2), .second, .val (.int p1), .val (.ref b2), .val (.long rr), .second, .val (.int kk), .unset, .unset, .unset, .unset, .unset, .unset, .unset, .unset, .unset, .unset, .unset, .unset] [(.long (j2 &&& (7 : Int64))), (.long (19999996 : Int64))])) _
        refine XS.ladd X9.here hx rfl (hb hby at_145) rfl ?_
        show Steps p.tables e below (T9.setTop (mkF m 146 #[.val (.long j0), .second, .val (.long j1), .second, .val (.long j2), .second, .val (.int p1), .val (.ref b2), .val (.long rr), .second, .val (.int kk), .unset, .unset, .unset, .unset, .unset, .unset, .unset, .unset, .unset, .unset, .unset, .unset] [(.long ((19999996 : Int64) + (j2 &&& (7 : Int64))))])) _
        refine XS.lstore X9.here hx rfl (hb hby at_146) rfl (l' := #[.val (.long j0), .second, .val (.long j1), .second, .val (.long j2), .second, .val (.int p1), .val (.ref b2), .val (.long rr), .second, .val (.int kk), .val (.long ((19999996 : Int64) + (j2 &&& (7 : Int64)))), .second, .unset, .unset, .unset, .unset, .unset, .unset, .unset, .unset, .unset, .unset]) rfl ?_
        show Steps p.tables e below (T9.setTop (mkF m 148 #[.val (.long j0), .second, .val (.long j1), .second, .val (.long j2), .second, .val (.int p1), .val (.ref b2), .val (.long rr), .second, .val (.int kk), .val (.long ((19999996 : Int64) + (j2 &&& (7 : Int64)))), .second, .unset, .unset, .unset, .unset, .unset, .unset, .unset, .unset, .unset, .unset] [])) _
        refine XS.goto X9.here hx rfl (pc0 := 148) (pc' := 159) rfl (hb hby at_148) (by decide) (by decide) ?_
        exact kt
    refine Go.adv sgL ?_
    show Go p.tables e below s _ _ _ (T9.setTop (mkF m 159 #[.val (.long j0), .second, .val (.long j1), .second, .val (.long j2), .second, .val (.int p1), .val (.ref b2), .val (.long rr), .second, .val (.int kk), .val (.long lg), .second, .unset, .unset, .unset, .unset, .unset, .unset, .unset, .unset, .unset, .unset] []))
    have hN := (own_bound (t := (0 : Int64)) hr (by decide)).1
    obtain ⟨T27, h27, X27, e27, E27, A27, D27, -, st27⟩ := newO X9 hx hZ hown (hw _ (List.mem_of_getElem? (i := 16) rfl)) (hw _ (List.mem_of_getElem? (i := 17) rfl)) (hw _ (List.mem_of_getElem? (i := 18) rfl)) e9 (g := (mkF m 159 #[.val (.long j0), .second, .val (.long j1), .second, .val (.long j2), .second, .val (.int p1), .val (.ref b2), .val (.long rr), .second, .val (.int kk), .val (.long lg), .second, .unset, .unset, .unset, .unset, .unset, .unset, .unset, .unset, .unset, .unset] [])) rfl (hb hby at_159) (by decide) (by decide)
    obtain ⟨b27, gb27⟩ : ∃ z, z = h22.size := ⟨_, rfl⟩
    rw [← gb27] at A27 D27 st27
    have g_b27 : n0 ≤ b27 := Nat.le_trans Z22 (Nat.le_of_eq gb27.symm)
    have sz_b27 : h0.size ≤ b27 := Nat.le_trans K22.1 (Nat.le_of_eq gb27.symm)
    have ne_b2_b27 : b2 ≠ b27 := Nat.ne_of_lt (Nat.lt_of_lt_of_le V_b2_22.lt (Nat.le_of_eq gb27.symm))
    have K27 : Keep h0 h27 [] := K22.ext E27
    have Z27 : n0 ≤ h27.size := Nat.le_trans Z22 E27.1
    have F_perSecond_b27 : Fld Z h27 b27 "com/example/ballast/ballast/Pacer" "perSecond" "J" (.long (0 : Int64)) := D27 (Or.inr (hw _ (List.mem_of_getElem? (i := 26) rfl))) (ty := .long) (by decide)
    have F_nanosPerRecord_b27 : Fld Z h27 b27 "com/example/ballast/ballast/Pacer" "nanosPerRecord" "D" (.double (0 : UInt64)) := D27 (Or.inr (hw _ (List.mem_of_getElem? (i := 29) rfl))) (ty := .double) (by decide)
    have F_origin_b27 : Fld Z h27 b27 "com/example/ballast/ballast/Pacer" "origin" "J" (.long (0 : Int64)) := D27 (Or.inl (hw _ (List.mem_of_getElem? (i := 31) rfl))) (ty := .long) (by decide)
    have F_windowStart_b27 : Fld Z h27 b27 "com/example/ballast/ballast/Pacer" "windowStart" "J" (.long (0 : Int64)) := D27 (Or.inl (hw _ (List.mem_of_getElem? (i := 33) rfl))) (ty := .long) (by decide)
    have F_taken_b27 : Fld Z h27 b27 "com/example/ballast/ballast/Pacer" "taken" "J" (.long (0 : Int64)) := D27 (Or.inl (hw _ (List.mem_of_getElem? (i := 40) rfl))) (ty := .long) (by decide)
    have F_windowTaken_b27 : Fld Z h27 b27 "com/example/ballast/ballast/Pacer" "windowTaken" "J" (.long (0 : Int64)) := D27 (Or.inl (hw _ (List.mem_of_getElem? (i := 50) rfl))) (ty := .long) (by decide)
    refine Go.adv st27 ?_
    show Go p.tables e below s _ _ _ (T27.setTop (mkF m 162 #[.val (.long j0), .second, .val (.long j1), .second, .val (.long j2), .second, .val (.int p1), .val (.ref b2), .val (.long rr), .second, .val (.int kk), .val (.long lg), .second, .unset, .unset, .unset, .unset, .unset, .unset, .unset, .unset, .unset, .unset] [(.ref b27)]))
    have sg28 : ∀ t, Steps p.tables e below (T27.setTop (mkF m 166 #[.val (.long j0), .second, .val (.long j1), .second, .val (.long j2), .second, .val (.int p1), .val (.ref b2), .val (.long rr), .second, .val (.int kk), .val (.long lg), .second, .unset, .unset, .unset, .unset, .unset, .unset, .unset, .unset, .unset, .unset] [(.long j1), (.long rr), (.ref b27), (.ref b27)])) t → Steps p.tables e below (T27.setTop (mkF m 162 #[.val (.long j0), .second, .val (.long j1), .second, .val (.long j2), .second, .val (.int p1), .val (.ref b2), .val (.long rr), .second, .val (.int kk), .val (.long lg), .second, .unset, .unset, .unset, .unset, .unset, .unset, .unset, .unset, .unset, .unset] [(.ref b27)])) t := by
      intro t kt
      show Steps p.tables e below (T27.setTop (mkF m 162 #[.val (.long j0), .second, .val (.long j1), .second, .val (.long j2), .second, .val (.int p1), .val (.ref b2), .val (.long rr), .second, .val (.int kk), .val (.long lg), .second, .unset, .unset, .unset, .unset, .unset, .unset, .unset, .unset, .unset, .unset] [(.ref b27)])) _
      refine XS.dup X27.here hx rfl (hb hby at_162) rfl rfl ?_
      show Steps p.tables e below (T27.setTop (mkF m 163 #[.val (.long j0), .second, .val (.long j1), .second, .val (.long j2), .second, .val (.int p1), .val (.ref b2), .val (.long rr), .second, .val (.int kk), .val (.long lg), .second, .unset, .unset, .unset, .unset, .unset, .unset, .unset, .unset, .unset, .unset] [(.ref b27), (.ref b27)])) _
      refine XS.lload X27.here hx rfl (hb hby at_163) rfl ?_
      show Steps p.tables e below (T27.setTop (mkF m 165 #[.val (.long j0), .second, .val (.long j1), .second, .val (.long j2), .second, .val (.int p1), .val (.ref b2), .val (.long rr), .second, .val (.int kk), .val (.long lg), .second, .unset, .unset, .unset, .unset, .unset, .unset, .unset, .unset, .unset, .unset] [(.long rr), (.ref b27), (.ref b27)])) _
      refine XS.lloadN X27.here hx rfl (hb hby at_165) rfl ?_
      exact kt
    refine Go.adv sg28 ?_
    obtain ⟨_, _, ⟨T29, L29, k29, n29⟩, -, X29, ⟨Lc29, hQ29, l29, y29, z29⟩, st29⟩ := X27.specialBack hx (y := (⟨"com/example/ballast/ballast/Pacer", "<init>", "(JJ)V"⟩ : MethodName)) rfl hown (mvT hZ (hw _ (List.mem_of_getElem? (i := 19) rfl))) (mvT hZ (hw _ (List.mem_of_getElem? (i := 20) rfl))) (mvT hZ (hw _ (List.mem_of_getElem? (i := 21) rfl))) (by decide) (backOf (W := 1) (rm_init l Z a0 hw [] b27 rr j1 (.long (0 : Int64)) (.double (0 : UInt64)) (.long (0 : Int64)) (.long (0 : Int64)) (.long (0 : Int64)) (.long (0 : Int64)) h27 n0 Z27 A27 g_b27 F_perSecond_b27 F_nanosPerRecord_b27 F_origin_b27 F_windowStart_b27 F_taken_b27 F_windowTaken_b27 hN) hZ (hw _ (List.mem_of_getElem? (i := 21) rfl)) (hw _ (List.mem_of_getElem? (i := 18) rfl)) (by decide) (by decide)) (g := (mkF m 166 #[.val (.long j0), .second, .val (.long j1), .second, .val (.long j2), .second, .val (.int p1), .val (.ref b2), .val (.long rr), .second, .val (.int kk), .val (.long lg), .second, .unset, .unset, .unset, .unset, .unset, .unset, .unset, .unset, .unset, .unset] [(.long j1), (.long rr), (.ref b27), (.ref b27)])) rfl (by rw [hml]; rfl) (Steps.refl _) (a := b27) (argsL := [(.long rr), (.long j1)]) (rest := [(.ref b27)]) (lenOf pd_oJJcV rfl) rfl (by show 2 * 0 + _ ≤ _; exact Nat.le_of_eq rfl) (hb hby at_166) (fun _ _ => ⟨rfl, e27, (by decide : 2 + 0 ≤ _), (by decide : 16 + 0 ≤ _)⟩)
    dsimp only [Pt.U, Pt.locs, Pt.cells, Pt.slots] at X29 l29 y29 z29 st29 hQ29
    subst l29 y29 z29
    obtain ⟨rfl, N29q, Kc29, p29_0, p29_1, p29_2, p29_3, p29_4, p29_5, p29_6⟩ := hQ29
    have N29 := Fr.app N9 N29q
    have K29 : Keep h0 T29.heap [] := K27.trans Kc29 (allS (Or.inr sz_b27) all0)
    have Z29 : n0 ≤ T29.heap.size := Nat.le_trans Z27 Kc29.1
    refine Go.tr st29 ?_
    show Go p.tables e below s _ _ _ (T29.setTop (mkF m 169 #[.val (.long j0), .second, .val (.long j1), .second, .val (.long j2), .second, .val (.int p1), .val (.ref b2), .val (.long rr), .second, .val (.int kk), .val (.long lg), .second, .unset, .unset, .unset, .unset, .unset, .unset, .unset, .unset, .unset, .unset] [(.ref b27)]))
    have sg30 : ∀ t, Steps p.tables e below (T29.setTop (mkF m 174 #[.val (.long j0), .second, .val (.long j1), .second, .val (.long j2), .second, .val (.int p1), .val (.ref b2), .val (.long rr), .second, .val (.int kk), .val (.long lg), .second, .val (.ref b27), .val (.long j1), .second, .unset, .unset, .unset, .unset, .unset, .unset, .unset] [])) t → Steps p.tables e below (T29.setTop (mkF m 169 #[.val (.long j0), .second, .val (.long j1), .second, .val (.long j2), .second, .val (.int p1), .val (.ref b2), .val (.long rr), .second, .val (.int kk), .val (.long lg), .second, .unset, .unset, .unset, .unset, .unset, .unset, .unset, .unset, .unset, .unset] [(.ref b27)])) t := by
      intro t kt
      show Steps p.tables e below (T29.setTop (mkF m 169 #[.val (.long j0), .second, .val (.long j1), .second, .val (.long j2), .second, .val (.int p1), .val (.ref b2), .val (.long rr), .second, .val (.int kk), .val (.long lg), .second, .unset, .unset, .unset, .unset, .unset, .unset, .unset, .unset, .unset, .unset] [(.ref b27)])) _
      refine XS.astore X29.here hx rfl (hb hby at_169) rfl rfl (l' := #[.val (.long j0), .second, .val (.long j1), .second, .val (.long j2), .second, .val (.int p1), .val (.ref b2), .val (.long rr), .second, .val (.int kk), .val (.long lg), .second, .val (.ref b27), .unset, .unset, .unset, .unset, .unset, .unset, .unset, .unset, .unset]) rfl ?_
      show Steps p.tables e below (T29.setTop (mkF m 171 #[.val (.long j0), .second, .val (.long j1), .second, .val (.long j2), .second, .val (.int p1), .val (.ref b2), .val (.long rr), .second, .val (.int kk), .val (.long lg), .second, .val (.ref b27), .unset, .unset, .unset, .unset, .unset, .unset, .unset, .unset, .unset] [])) _
      refine XS.lloadN X29.here hx rfl (hb hby at_171) rfl ?_
      show Steps p.tables e below (T29.setTop (mkF m 172 #[.val (.long j0), .second, .val (.long j1), .second, .val (.long j2), .second, .val (.int p1), .val (.ref b2), .val (.long rr), .second, .val (.int kk), .val (.long lg), .second, .val (.ref b27), .unset, .unset, .unset, .unset, .unset, .unset, .unset, .unset, .unset] [(.long j1)])) _
      refine XS.lstore X29.here hx rfl (hb hby at_172) rfl (l' := #[.val (.long j0), .second, .val (.long j1), .second, .val (.long j2), .second, .val (.int p1), .val (.ref b2), .val (.long rr), .second, .val (.int kk), .val (.long lg), .second, .val (.ref b27), .val (.long j1), .second, .unset, .unset, .unset, .unset, .unset, .unset, .unset]) rfl ?_
      exact kt
    refine Go.adv sg30 ?_
    have tailB : ∀ (T5 : State) (L5 : List Loc) (h5 : Heap) (X5 : Stand p l e room_1 s m #[(.long j0), (.long j1), (.long j2), (.int p1)] below meth c T5 L5 2 16) (e5 : T5.heap = h5) (N5 : Fr n0 L5) (Z5 : n0 ≤ h5.size) (oo tk : Int64) (htk : tk.toInt = kk.toInt) (E5 : Exa Z h5 b27 "com/example/ballast/ballast/Pacer") (F5o : Fld Z h5 b27 "com/example/ballast/ballast/Pacer" "origin" "J" (.long oo)) (F5t : Fld Z h5 b27 "com/example/ballast/ballast/Pacer" "taken" "J" (.long tk)) (F5n : Fld Z h5 b27 "com/example/ballast/ballast/Pacer" "nanosPerRecord" "D" (.double (FP.ddiv (4741671816366391296 : UInt64) (FP.l2d rr)))), Go p.tables e below s room_1.cells room_1.slots (Q_rm0 Z j0 j1 j2 p1 h0 n0) (T5.setTop (mkF m 234 #[.val (.long j0), .second, .val (.long j1), .second, .val (.long j2), .second, .val (.int p1), .val (.ref b2), .val (.long rr), .second, .val (.int kk), .val (.long lg), .second, .val (.ref b27), .val (.long oo), .second, .unset, .unset, .unset, .unset, .unset, .unset, .unset] [])) := by
      intro T5 L5 h5 X5 e5 N5 Z5 oo tk htk E5 F5o F5t F5n
      obtain ⟨-, n1, n2, n3, n4⟩ := own_bound (t := tk) hr (by rw [htk]; exact hkk)
      rw [htk] at n3 n4
      have hz0 : kk.toInt = 0 → (FP.d2l (FP.dmul (FP.l2d tk) (FP.ddiv (4741671816366391296 : UInt64) (FP.l2d rr)))).toInt = 0 := fun q => own_zero (rr := rr) (t := tk) (htk.trans q) hr
      have hq0 : ((1000000000 : Int64) - ((1000000000 : Int64) / rr) * rr) = (0 : Int64) → (FP.d2l (FP.dmul (FP.l2d tk) (FP.ddiv (4741671816366391296 : UInt64) (FP.l2d rr)))).toInt = kk.toInt * 1000000000 / rr.toInt := fun q => by have z := own_exact (t := tk) hr (by rw [htk]; exact hkk) q; rw [htk] at z; exact z
      obtain ⟨dd, hDD⟩ : ∃ dd, (FP.d2l (FP.dmul (FP.l2d tk) (FP.ddiv (4741671816366391296 : UInt64) (FP.l2d rr)))) = dd := ⟨_, rfl⟩
      rw [hDD] at n2 n3 n4 hz0 hq0
      have hdf := own_diff (oo := oo) (dd := dd) (rr := rr) (kk := kk) hr hkk n2 n3
      have hrz : ¬ (rr = (0 : Int64)) := fun q => by rw [q] at hr; exact absurd hr (by decide)
      have sg31 : ∀ t, Steps p.tables e below (T5.setTop (mkF m 236 #[.val (.long j0), .second, .val (.long j1), .second, .val (.long j2), .second, .val (.int p1), .val (.ref b2), .val (.long rr), .second, .val (.int kk), .val (.long lg), .second, .val (.ref b27), .val (.long oo), .second, .unset, .unset, .unset, .unset, .unset, .unset, .unset] [(.ref b27)])) t → Steps p.tables e below (T5.setTop (mkF m 234 #[.val (.long j0), .second, .val (.long j1), .second, .val (.long j2), .second, .val (.int p1), .val (.ref b2), .val (.long rr), .second, .val (.int kk), .val (.long lg), .second, .val (.ref b27), .val (.long oo), .second, .unset, .unset, .unset, .unset, .unset, .unset, .unset] [])) t := by
        intro t kt
        show Steps p.tables e below (T5.setTop (mkF m 234 #[.val (.long j0), .second, .val (.long j1), .second, .val (.long j2), .second, .val (.int p1), .val (.ref b2), .val (.long rr), .second, .val (.int kk), .val (.long lg), .second, .val (.ref b27), .val (.long oo), .second, .unset, .unset, .unset, .unset, .unset, .unset, .unset] [])) _
        refine XS.aload X5.here hx rfl (hb hby at_234) rfl rfl ?_
        exact kt
      refine Go.adv sg31 ?_
      obtain ⟨cq32, kq32, q32a, q32b, q32c⟩ := isOf hZ e5 E5
      obtain ⟨_, _, ⟨T32, L32, k32, n32⟩, -, X32, ⟨Lc32, hQ32, l32, y32, z32⟩, st32⟩ := X5.virtualBack hx (y := (⟨"com/example/ballast/ballast/Pacer", "due", "()J"⟩ : MethodName)) (z := (⟨"com/example/ballast/ballast/Pacer", "due", "()J"⟩ : MethodName)) hown (mvT hZ (hw _ (List.mem_of_getElem? (i := 34) rfl))) (mvT hZ (hw _ (List.mem_of_getElem? (i := 35) rfl))) (notFace_of_selects (args := #[]) (mvT hZ (hw _ (List.mem_of_getElem? (i := 37) rfl)))) (mvT hZ (hw _ (List.mem_of_getElem? (i := 37) rfl))) (mvT hZ (hw _ (List.mem_of_getElem? (i := 36) rfl))) (by decide) (backOf (W := 0) (rm_due l Z a0 hw [] b27 oo tk (FP.ddiv (4741671816366391296 : UInt64) (FP.l2d rr)) dd h5 n0 Z5 F5o F5t F5n n1 hDD) hZ (hw _ (List.mem_of_getElem? (i := 38) rfl)) (hw _ (List.mem_of_getElem? (i := 18) rfl)) (by decide) (by decide)) q32a q32c (g := (mkF m 236 #[.val (.long j0), .second, .val (.long j1), .second, .val (.long j2), .second, .val (.int p1), .val (.ref b2), .val (.long rr), .second, .val (.int kk), .val (.long lg), .second, .val (.ref b27), .val (.long oo), .second, .unset, .unset, .unset, .unset, .unset, .unset, .unset] [(.ref b27)])) rfl (by rw [hml]; rfl) (Steps.refl _) (argsL := []) (rest := []) (lenOf pd_ocJ rfl) rfl (by show 2 * 0 + _ ≤ _; exact Nat.le_of_eq rfl) (hb hby at_236) (fun _ _ => ⟨rfl, e5, (by decide : 2 + 0 ≤ _), (by decide : 16 + 0 ≤ _)⟩)
      dsimp only [Pt.U, Pt.locs, Pt.cells, Pt.slots] at X32 l32 y32 z32 st32 hQ32
      subst l32 y32 z32
      obtain ⟨rfl, N32q, e32⟩ := hQ32
      have N32 := Fr.app N5 N32q
      refine Go.tr st32 ?_
      show Go p.tables e below s _ _ _ (T32.setTop (mkF m 239 #[.val (.long j0), .second, .val (.long j1), .second, .val (.long j2), .second, .val (.int p1), .val (.ref b2), .val (.long rr), .second, .val (.int kk), .val (.long lg), .second, .val (.ref b27), .val (.long oo), .second, .unset, .unset, .unset, .unset, .unset, .unset, .unset] [(.long (oo + dd))]))
      have sg33 : ∀ t, Steps p.tables e below (T32.setTop (mkF m 263 #[.val (.long j0), .second, .val (.long j1), .second, .val (.long j2), .second, .val (.int p1), .val (.ref b2), .val (.long rr), .second, .val (.int kk), .val (.long lg), .second, .val (.ref b27), .val (.long oo), .second, .val (.long (oo + dd)), .second, .val (.long (((kk.toInt64) * (1000000000 : Int64)) / rr)), .second, .val (.long (((oo + dd) - oo) - (((kk.toInt64) * (1000000000 : Int64)) / rr))), .second, .unset] [])) t → Steps p.tables e below (T32.setTop (mkF m 239 #[.val (.long j0), .second, .val (.long j1), .second, .val (.long j2), .second, .val (.int p1), .val (.ref b2), .val (.long rr), .second, .val (.int kk), .val (.long lg), .second, .val (.ref b27), .val (.long oo), .second, .unset, .unset, .unset, .unset, .unset, .unset, .unset] [(.long (oo + dd))])) t := by
        intro t kt
        show Steps p.tables e below (T32.setTop (mkF m 239 #[.val (.long j0), .second, .val (.long j1), .second, .val (.long j2), .second, .val (.int p1), .val (.ref b2), .val (.long rr), .second, .val (.int kk), .val (.long lg), .second, .val (.ref b27), .val (.long oo), .second, .unset, .unset, .unset, .unset, .unset, .unset, .unset] [(.long (oo + dd))])) _
        refine XS.lstore X32.here hx rfl (hb hby at_239) rfl (l' := #[.val (.long j0), .second, .val (.long j1), .second, .val (.long j2), .second, .val (.int p1), .val (.ref b2), .val (.long rr), .second, .val (.int kk), .val (.long lg), .second, .val (.ref b27), .val (.long oo), .second, .val (.long (oo + dd)), .second, .unset, .unset, .unset, .unset, .unset]) rfl ?_
        show Steps p.tables e below (T32.setTop (mkF m 241 #[.val (.long j0), .second, .val (.long j1), .second, .val (.long j2), .second, .val (.int p1), .val (.ref b2), .val (.long rr), .second, .val (.int kk), .val (.long lg), .second, .val (.ref b27), .val (.long oo), .second, .val (.long (oo + dd)), .second, .unset, .unset, .unset, .unset, .unset] [])) _
        refine XS.iload X32.here hx rfl (hb hby at_241) rfl ?_
        show Steps p.tables e below (T32.setTop (mkF m 243 #[.val (.long j0), .second, .val (.long j1), .second, .val (.long j2), .second, .val (.int p1), .val (.ref b2), .val (.long rr), .second, .val (.int kk), .val (.long lg), .second, .val (.ref b27), .val (.long oo), .second, .val (.long (oo + dd)), .second, .unset, .unset, .unset, .unset, .unset] [(.int kk)])) _
        refine XS.i2l X32.here hx rfl (hb hby at_243) rfl ?_
        show Steps p.tables e below (T32.setTop (mkF m 244 #[.val (.long j0), .second, .val (.long j1), .second, .val (.long j2), .second, .val (.int p1), .val (.ref b2), .val (.long rr), .second, .val (.int kk), .val (.long lg), .second, .val (.ref b27), .val (.long oo), .second, .val (.long (oo + dd)), .second, .unset, .unset, .unset, .unset, .unset] [(.long (kk.toInt64))])) _
        refine X32.ldc2Long hx hown (mvT hZ (hw _ (List.mem_of_getElem? (i := 41) rfl))) (g := (mkF m 244 #[.val (.long j0), .second, .val (.long j1), .second, .val (.long j2), .second, .val (.int p1), .val (.ref b2), .val (.long rr), .second, .val (.int kk), .val (.long lg), .second, .val (.ref b27), .val (.long oo), .second, .val (.long (oo + dd)), .second, .unset, .unset, .unset, .unset, .unset] [(.long (kk.toInt64))])) rfl (hb hby at_244) _ ?_
        show Steps p.tables e below (T32.setTop (mkF m 247 #[.val (.long j0), .second, .val (.long j1), .second, .val (.long j2), .second, .val (.int p1), .val (.ref b2), .val (.long rr), .second, .val (.int kk), .val (.long lg), .second, .val (.ref b27), .val (.long oo), .second, .val (.long (oo + dd)), .second, .unset, .unset, .unset, .unset, .unset] [(.long (1000000000 : Int64)), (.long (kk.toInt64))])) _
        refine XS.lmul X32.here hx rfl (hb hby at_247) rfl ?_
        show Steps p.tables e below (T32.setTop (mkF m 248 #[.val (.long j0), .second, .val (.long j1), .second, .val (.long j2), .second, .val (.int p1), .val (.ref b2), .val (.long rr), .second, .val (.int kk), .val (.long lg), .second, .val (.ref b27), .val (.long oo), .second, .val (.long (oo + dd)), .second, .unset, .unset, .unset, .unset, .unset] [(.long ((kk.toInt64) * (1000000000 : Int64)))])) _
        refine XS.lload X32.here hx rfl (hb hby at_248) rfl ?_
        show Steps p.tables e below (T32.setTop (mkF m 250 #[.val (.long j0), .second, .val (.long j1), .second, .val (.long j2), .second, .val (.int p1), .val (.ref b2), .val (.long rr), .second, .val (.int kk), .val (.long lg), .second, .val (.ref b27), .val (.long oo), .second, .val (.long (oo + dd)), .second, .unset, .unset, .unset, .unset, .unset] [(.long rr), (.long ((kk.toInt64) * (1000000000 : Int64)))])) _
        refine XS.ldiv X32.here hx rfl (hb hby at_250) rfl hrz ?_
        show Steps p.tables e below (T32.setTop (mkF m 251 #[.val (.long j0), .second, .val (.long j1), .second, .val (.long j2), .second, .val (.int p1), .val (.ref b2), .val (.long rr), .second, .val (.int kk), .val (.long lg), .second, .val (.ref b27), .val (.long oo), .second, .val (.long (oo + dd)), .second, .unset, .unset, .unset, .unset, .unset] [(.long (((kk.toInt64) * (1000000000 : Int64)) / rr))])) _
        refine XS.lstore X32.here hx rfl (hb hby at_251) rfl (l' := #[.val (.long j0), .second, .val (.long j1), .second, .val (.long j2), .second, .val (.int p1), .val (.ref b2), .val (.long rr), .second, .val (.int kk), .val (.long lg), .second, .val (.ref b27), .val (.long oo), .second, .val (.long (oo + dd)), .second, .val (.long (((kk.toInt64) * (1000000000 : Int64)) / rr)), .second, .unset, .unset, .unset]) rfl ?_
        show Steps p.tables e below (T32.setTop (mkF m 253 #[.val (.long j0), .second, .val (.long j1), .second, .val (.long j2), .second, .val (.int p1), .val (.ref b2), .val (.long rr), .second, .val (.int kk), .val (.long lg), .second, .val (.ref b27), .val (.long oo), .second, .val (.long (oo + dd)), .second, .val (.long (((kk.toInt64) * (1000000000 : Int64)) / rr)), .second, .unset, .unset, .unset] [])) _
        refine XS.lload X32.here hx rfl (hb hby at_253) rfl ?_
        show Steps p.tables e below (T32.setTop (mkF m 255 #[.val (.long j0), .second, .val (.long j1), .second, .val (.long j2), .second, .val (.int p1), .val (.ref b2), .val (.long rr), .second, .val (.int kk), .val (.long lg), .second, .val (.ref b27), .val (.long oo), .second, .val (.long (oo + dd)), .second, .val (.long (((kk.toInt64) * (1000000000 : Int64)) / rr)), .second, .unset, .unset, .unset] [(.long (oo + dd))])) _
        refine XS.lload X32.here hx rfl (hb hby at_255) rfl ?_
        show Steps p.tables e below (T32.setTop (mkF m 257 #[.val (.long j0), .second, .val (.long j1), .second, .val (.long j2), .second, .val (.int p1), .val (.ref b2), .val (.long rr), .second, .val (.int kk), .val (.long lg), .second, .val (.ref b27), .val (.long oo), .second, .val (.long (oo + dd)), .second, .val (.long (((kk.toInt64) * (1000000000 : Int64)) / rr)), .second, .unset, .unset, .unset] [(.long oo), (.long (oo + dd))])) _
        refine XS.lsub X32.here hx rfl (hb hby at_257) rfl ?_
        show Steps p.tables e below (T32.setTop (mkF m 258 #[.val (.long j0), .second, .val (.long j1), .second, .val (.long j2), .second, .val (.int p1), .val (.ref b2), .val (.long rr), .second, .val (.int kk), .val (.long lg), .second, .val (.ref b27), .val (.long oo), .second, .val (.long (oo + dd)), .second, .val (.long (((kk.toInt64) * (1000000000 : Int64)) / rr)), .second, .unset, .unset, .unset] [(.long ((oo + dd) - oo))])) _
        refine XS.lload X32.here hx rfl (hb hby at_258) rfl ?_
        show Steps p.tables e below (T32.setTop (mkF m 260 #[.val (.long j0), .second, .val (.long j1), .second, .val (.long j2), .second, .val (.int p1), .val (.ref b2), .val (.long rr), .second, .val (.int kk), .val (.long lg), .second, .val (.ref b27), .val (.long oo), .second, .val (.long (oo + dd)), .second, .val (.long (((kk.toInt64) * (1000000000 : Int64)) / rr)), .second, .unset, .unset, .unset] [(.long (((kk.toInt64) * (1000000000 : Int64)) / rr)), (.long ((oo + dd) - oo))])) _
        refine XS.lsub X32.here hx rfl (hb hby at_260) rfl ?_
        show Steps p.tables e below (T32.setTop (mkF m 261 #[.val (.long j0), .second, .val (.long j1), .second, .val (.long j2), .second, .val (.int p1), .val (.ref b2), .val (.long rr), .second, .val (.int kk), .val (.long lg), .second, .val (.ref b27), .val (.long oo), .second, .val (.long (oo + dd)), .second, .val (.long (((kk.toInt64) * (1000000000 : Int64)) / rr)), .second, .unset, .unset, .unset] [(.long (((oo + dd) - oo) - (((kk.toInt64) * (1000000000 : Int64)) / rr)))])) _
        refine XS.lstore X32.here hx rfl (hb hby at_261) rfl (l' := #[.val (.long j0), .second, .val (.long j1), .second, .val (.long j2), .second, .val (.int p1), .val (.ref b2), .val (.long rr), .second, .val (.int kk), .val (.long lg), .second, .val (.ref b27), .val (.long oo), .second, .val (.long (oo + dd)), .second, .val (.long (((kk.toInt64) * (1000000000 : Int64)) / rr)), .second, .val (.long (((oo + dd) - oo) - (((kk.toInt64) * (1000000000 : Int64)) / rr))), .second, .unset]) rfl ?_
        exact kt
      refine Go.adv sg33 ?_
      by_cases hk0 : kk = (0 : Int32)
      · have hz : (((oo + dd) - oo) - (((kk.toInt64) * (1000000000 : Int64)) / rr)) = (0 : Int64) := own_z0 (own_z1 hdf (hz0 (by rw [hk0]; rfl)) (by rw [hk0]; rfl))
        have sg34 : ∀ t, Steps p.tables e below (T32.setTop (mkF m 303 #[.val (.long j0), .second, .val (.long j1), .second, .val (.long j2), .second, .val (.int p1), .val (.ref b2), .val (.long rr), .second, .val (.int kk), .val (.long lg), .second, .val (.ref b27), .val (.long oo), .second, .val (.long (oo + dd)), .second, .val (.long (((kk.toInt64) * (1000000000 : Int64)) / rr)), .second, .val (.long (((oo + dd) - oo) - (((kk.toInt64) * (1000000000 : Int64)) / rr))), .second, .val (.int (1 : Int32))] [(.int (1 : Int32))])) t → Steps p.tables e below (T32.setTop (mkF m 263 #[.val (.long j0), .second, .val (.long j1), .second, .val (.long j2), .second, .val (.int p1), .val (.ref b2), .val (.long rr), .second, .val (.int kk), .val (.long lg), .second, .val (.ref b27), .val (.long oo), .second, .val (.long (oo + dd)), .second, .val (.long (((kk.toInt64) * (1000000000 : Int64)) / rr)), .second, .val (.long (((oo + dd) - oo) - (((kk.toInt64) * (1000000000 : Int64)) / rr))), .second, .unset] [])) t := by
          intro t kt
          show Steps p.tables e below (T32.setTop (mkF m 263 #[.val (.long j0), .second, .val (.long j1), .second, .val (.long j2), .second, .val (.int p1), .val (.ref b2), .val (.long rr), .second, .val (.int kk), .val (.long lg), .second, .val (.ref b27), .val (.long oo), .second, .val (.long (oo + dd)), .second, .val (.long (((kk.toInt64) * (1000000000 : Int64)) / rr)), .second, .val (.long (((oo + dd) - oo) - (((kk.toInt64) * (1000000000 : Int64)) / rr))), .second, .unset] [])) _
          refine XS.iload X32.here hx rfl (hb hby at_263) rfl ?_
          show Steps p.tables e below (T32.setTop (mkF m 265 #[.val (.long j0), .second, .val (.long j1), .second, .val (.long j2), .second, .val (.int p1), .val (.ref b2), .val (.long rr), .second, .val (.int kk), .val (.long lg), .second, .val (.ref b27), .val (.long oo), .second, .val (.long (oo + dd)), .second, .val (.long (((kk.toInt64) * (1000000000 : Int64)) / rr)), .second, .val (.long (((oo + dd) - oo) - (((kk.toInt64) * (1000000000 : Int64)) / rr))), .second, .unset] [(.int kk)])) _
          refine XS.ifYes X32.here hx rfl (pc0 := 265) (pc' := 279) rfl (hb hby at_265) rfl ((if0 _ _).trans (teq (hk0 : kk = (0 : Int32))).1) (by decide) (by decide) ?_
          show Steps p.tables e below (T32.setTop (mkF m 279 #[.val (.long j0), .second, .val (.long j1), .second, .val (.long j2), .second, .val (.int p1), .val (.ref b2), .val (.long rr), .second, .val (.int kk), .val (.long lg), .second, .val (.ref b27), .val (.long oo), .second, .val (.long (oo + dd)), .second, .val (.long (((kk.toInt64) * (1000000000 : Int64)) / rr)), .second, .val (.long (((oo + dd) - oo) - (((kk.toInt64) * (1000000000 : Int64)) / rr))), .second, .unset] [])) _
          refine XS.iconst X32.here hx rfl (hb hby at_279) ?_
          show Steps p.tables e below (T32.setTop (mkF m 280 #[.val (.long j0), .second, .val (.long j1), .second, .val (.long j2), .second, .val (.int p1), .val (.ref b2), .val (.long rr), .second, .val (.int kk), .val (.long lg), .second, .val (.ref b27), .val (.long oo), .second, .val (.long (oo + dd)), .second, .val (.long (((kk.toInt64) * (1000000000 : Int64)) / rr)), .second, .val (.long (((oo + dd) - oo) - (((kk.toInt64) * (1000000000 : Int64)) / rr))), .second, .unset] [(.int (1 : Int32))])) _
          refine XS.goto X32.here hx rfl (pc0 := 280) (pc' := 284) rfl (hb hby at_280) (by decide) (by decide) ?_
          show Steps p.tables e below (T32.setTop (mkF m 284 #[.val (.long j0), .second, .val (.long j1), .second, .val (.long j2), .second, .val (.int p1), .val (.ref b2), .val (.long rr), .second, .val (.int kk), .val (.long lg), .second, .val (.ref b27), .val (.long oo), .second, .val (.long (oo + dd)), .second, .val (.long (((kk.toInt64) * (1000000000 : Int64)) / rr)), .second, .val (.long (((oo + dd) - oo) - (((kk.toInt64) * (1000000000 : Int64)) / rr))), .second, .unset] [(.int (1 : Int32))])) _
          refine XS.istore X32.here hx rfl (hb hby at_284) rfl (l' := #[.val (.long j0), .second, .val (.long j1), .second, .val (.long j2), .second, .val (.int p1), .val (.ref b2), .val (.long rr), .second, .val (.int kk), .val (.long lg), .second, .val (.ref b27), .val (.long oo), .second, .val (.long (oo + dd)), .second, .val (.long (((kk.toInt64) * (1000000000 : Int64)) / rr)), .second, .val (.long (((oo + dd) - oo) - (((kk.toInt64) * (1000000000 : Int64)) / rr))), .second, .val (.int (1 : Int32))]) rfl ?_
          show Steps p.tables e below (T32.setTop (mkF m 286 #[.val (.long j0), .second, .val (.long j1), .second, .val (.long j2), .second, .val (.int p1), .val (.ref b2), .val (.long rr), .second, .val (.int kk), .val (.long lg), .second, .val (.ref b27), .val (.long oo), .second, .val (.long (oo + dd)), .second, .val (.long (((kk.toInt64) * (1000000000 : Int64)) / rr)), .second, .val (.long (((oo + dd) - oo) - (((kk.toInt64) * (1000000000 : Int64)) / rr))), .second, .val (.int (1 : Int32))] [])) _
          refine XS.iload X32.here hx rfl (hb hby at_286) rfl ?_
          show Steps p.tables e below (T32.setTop (mkF m 288 #[.val (.long j0), .second, .val (.long j1), .second, .val (.long j2), .second, .val (.int p1), .val (.ref b2), .val (.long rr), .second, .val (.int kk), .val (.long lg), .second, .val (.ref b27), .val (.long oo), .second, .val (.long (oo + dd)), .second, .val (.long (((kk.toInt64) * (1000000000 : Int64)) / rr)), .second, .val (.long (((oo + dd) - oo) - (((kk.toInt64) * (1000000000 : Int64)) / rr))), .second, .val (.int (1 : Int32))] [(.int (1 : Int32))])) _
          refine XS.ifNo X32.here hx rfl (hb hby at_288) rfl ((if0 _ _).trans (feq (by decide : ¬ ((1 : Int32) = (0 : Int32)))).1) ?_
          show Steps p.tables e below (T32.setTop (mkF m 291 #[.val (.long j0), .second, .val (.long j1), .second, .val (.long j2), .second, .val (.int p1), .val (.ref b2), .val (.long rr), .second, .val (.int kk), .val (.long lg), .second, .val (.ref b27), .val (.long oo), .second, .val (.long (oo + dd)), .second, .val (.long (((kk.toInt64) * (1000000000 : Int64)) / rr)), .second, .val (.long (((oo + dd) - oo) - (((kk.toInt64) * (1000000000 : Int64)) / rr))), .second, .val (.int (1 : Int32))] [])) _
          refine XS.lload X32.here hx rfl (hb hby at_291) rfl ?_
          show Steps p.tables e below (T32.setTop (mkF m 293 #[.val (.long j0), .second, .val (.long j1), .second, .val (.long j2), .second, .val (.int p1), .val (.ref b2), .val (.long rr), .second, .val (.int kk), .val (.long lg), .second, .val (.ref b27), .val (.long oo), .second, .val (.long (oo + dd)), .second, .val (.long (((kk.toInt64) * (1000000000 : Int64)) / rr)), .second, .val (.long (((oo + dd) - oo) - (((kk.toInt64) * (1000000000 : Int64)) / rr))), .second, .val (.int (1 : Int32))] [(.long (((oo + dd) - oo) - (((kk.toInt64) * (1000000000 : Int64)) / rr)))])) _
          refine XS.lconst X32.here hx rfl (hb hby at_293) ?_
          show Steps p.tables e below (T32.setTop (mkF m 294 #[.val (.long j0), .second, .val (.long j1), .second, .val (.long j2), .second, .val (.int p1), .val (.ref b2), .val (.long rr), .second, .val (.int kk), .val (.long lg), .second, .val (.ref b27), .val (.long oo), .second, .val (.long (oo + dd)), .second, .val (.long (((kk.toInt64) * (1000000000 : Int64)) / rr)), .second, .val (.long (((oo + dd) - oo) - (((kk.toInt64) * (1000000000 : Int64)) / rr))), .second, .val (.int (1 : Int32))] [(.long (0 : Int64)), (.long (((oo + dd) - oo) - (((kk.toInt64) * (1000000000 : Int64)) / rr)))])) _
          refine XS.lcmp X32.here hx rfl (hb hby at_294) rfl ?_
          show Steps p.tables e below (T32.setTop (mkF m 295 #[.val (.long j0), .second, .val (.long j1), .second, .val (.long j2), .second, .val (.int p1), .val (.ref b2), .val (.long rr), .second, .val (.int kk), .val (.long lg), .second, .val (.ref b27), .val (.long oo), .second, .val (.long (oo + dd)), .second, .val (.long (((kk.toInt64) * (1000000000 : Int64)) / rr)), .second, .val (.long (((oo + dd) - oo) - (((kk.toInt64) * (1000000000 : Int64)) / rr))), .second, .val (.int (1 : Int32))] [(.int (lcmpW (((oo + dd) - oo) - (((kk.toInt64) * (1000000000 : Int64)) / rr)) (0 : Int64)))])) _
          refine XS.ifNo X32.here hx rfl (hb hby at_295) rfl ((if0 _ _).trans (teq (own_lc_eq hz : (lcmpW (((oo + dd) - oo) - (((kk.toInt64) * (1000000000 : Int64)) / rr)) (0 : Int64)) = (0 : Int32))).2) ?_
          show Steps p.tables e below (T32.setTop (mkF m 298 #[.val (.long j0), .second, .val (.long j1), .second, .val (.long j2), .second, .val (.int p1), .val (.ref b2), .val (.long rr), .second, .val (.int kk), .val (.long lg), .second, .val (.ref b27), .val (.long oo), .second, .val (.long (oo + dd)), .second, .val (.long (((kk.toInt64) * (1000000000 : Int64)) / rr)), .second, .val (.long (((oo + dd) - oo) - (((kk.toInt64) * (1000000000 : Int64)) / rr))), .second, .val (.int (1 : Int32))] [])) _
          refine XS.iconst X32.here hx rfl (hb hby at_298) ?_
          show Steps p.tables e below (T32.setTop (mkF m 299 #[.val (.long j0), .second, .val (.long j1), .second, .val (.long j2), .second, .val (.int p1), .val (.ref b2), .val (.long rr), .second, .val (.int kk), .val (.long lg), .second, .val (.ref b27), .val (.long oo), .second, .val (.long (oo + dd)), .second, .val (.long (((kk.toInt64) * (1000000000 : Int64)) / rr)), .second, .val (.long (((oo + dd) - oo) - (((kk.toInt64) * (1000000000 : Int64)) / rr))), .second, .val (.int (1 : Int32))] [(.int (1 : Int32))])) _
          refine XS.goto X32.here hx rfl (pc0 := 299) (pc' := 303) rfl (hb hby at_299) (by decide) (by decide) ?_
          exact kt
        refine Go.adv sg34 ?_
        refine Go.ret (v := (some (.int (1 : Int32)))) X32 (fun h => by rw [Bd.returns] at h; cases h) Bd.notSynchronized (fun fs hr => retN X32 hx (t := .boolean) Bd.returns (by simp) (hb hby at_303) hr) ?_ (by decide) (by decide)
        show Q_rm0 Z j0 j1 j2 p1 h0 n0 (some (.int (1 : Int32))) T32.heap _
        rw [e32]
        exact ⟨rfl, N32⟩
      · by_cases hx0 : ((1000000000 : Int64) - ((1000000000 : Int64) / rr) * rr) = (0 : Int64)
        · have hz : (((oo + dd) - oo) - (((kk.toInt64) * (1000000000 : Int64)) / rr)) = (0 : Int64) := own_z0 (own_z2 hdf (hq0 hx0))
          have sg35 : ∀ t, Steps p.tables e below (T32.setTop (mkF m 303 #[.val (.long j0), .second, .val (.long j1), .second, .val (.long j2), .second, .val (.int p1), .val (.ref b2), .val (.long rr), .second, .val (.int kk), .val (.long lg), .second, .val (.ref b27), .val (.long oo), .second, .val (.long (oo + dd)), .second, .val (.long (((kk.toInt64) * (1000000000 : Int64)) / rr)), .second, .val (.long (((oo + dd) - oo) - (((kk.toInt64) * (1000000000 : Int64)) / rr))), .second, .val (.int (1 : Int32))] [(.int (1 : Int32))])) t → Steps p.tables e below (T32.setTop (mkF m 263 #[.val (.long j0), .second, .val (.long j1), .second, .val (.long j2), .second, .val (.int p1), .val (.ref b2), .val (.long rr), .second, .val (.int kk), .val (.long lg), .second, .val (.ref b27), .val (.long oo), .second, .val (.long (oo + dd)), .second, .val (.long (((kk.toInt64) * (1000000000 : Int64)) / rr)), .second, .val (.long (((oo + dd) - oo) - (((kk.toInt64) * (1000000000 : Int64)) / rr))), .second, .unset] [])) t := by
            intro t kt
            show Steps p.tables e below (T32.setTop (mkF m 263 #[.val (.long j0), .second, .val (.long j1), .second, .val (.long j2), .second, .val (.int p1), .val (.ref b2), .val (.long rr), .second, .val (.int kk), .val (.long lg), .second, .val (.ref b27), .val (.long oo), .second, .val (.long (oo + dd)), .second, .val (.long (((kk.toInt64) * (1000000000 : Int64)) / rr)), .second, .val (.long (((oo + dd) - oo) - (((kk.toInt64) * (1000000000 : Int64)) / rr))), .second, .unset] [])) _
            refine XS.iload X32.here hx rfl (hb hby at_263) rfl ?_
            show Steps p.tables e below (T32.setTop (mkF m 265 #[.val (.long j0), .second, .val (.long j1), .second, .val (.long j2), .second, .val (.int p1), .val (.ref b2), .val (.long rr), .second, .val (.int kk), .val (.long lg), .second, .val (.ref b27), .val (.long oo), .second, .val (.long (oo + dd)), .second, .val (.long (((kk.toInt64) * (1000000000 : Int64)) / rr)), .second, .val (.long (((oo + dd) - oo) - (((kk.toInt64) * (1000000000 : Int64)) / rr))), .second, .unset] [(.int kk)])) _
            refine XS.ifNo X32.here hx rfl (hb hby at_265) rfl ((if0 _ _).trans (feq (hk0 : ¬ (kk = (0 : Int32)))).1) ?_
            show Steps p.tables e below (T32.setTop (mkF m 268 #[.val (.long j0), .second, .val (.long j1), .second, .val (.long j2), .second, .val (.int p1), .val (.ref b2), .val (.long rr), .second, .val (.int kk), .val (.long lg), .second, .val (.ref b27), .val (.long oo), .second, .val (.long (oo + dd)), .second, .val (.long (((kk.toInt64) * (1000000000 : Int64)) / rr)), .second, .val (.long (((oo + dd) - oo) - (((kk.toInt64) * (1000000000 : Int64)) / rr))), .second, .unset] [])) _
            refine X32.ldc2Long hx hown (mvT hZ (hw _ (List.mem_of_getElem? (i := 41) rfl))) (g := (mkF m 268 #[.val (.long j0), .second, .val (.long j1), .second, .val (.long j2), .second, .val (.int p1), .val (.ref b2), .val (.long rr), .second, .val (.int kk), .val (.long lg), .second, .val (.ref b27), .val (.long oo), .second, .val (.long (oo + dd)), .second, .val (.long (((kk.toInt64) * (1000000000 : Int64)) / rr)), .second, .val (.long (((oo + dd) - oo) - (((kk.toInt64) * (1000000000 : Int64)) / rr))), .second, .unset] [])) rfl (hb hby at_268) _ ?_
            show Steps p.tables e below (T32.setTop (mkF m 271 #[.val (.long j0), .second, .val (.long j1), .second, .val (.long j2), .second, .val (.int p1), .val (.ref b2), .val (.long rr), .second, .val (.int kk), .val (.long lg), .second, .val (.ref b27), .val (.long oo), .second, .val (.long (oo + dd)), .second, .val (.long (((kk.toInt64) * (1000000000 : Int64)) / rr)), .second, .val (.long (((oo + dd) - oo) - (((kk.toInt64) * (1000000000 : Int64)) / rr))), .second, .unset] [(.long (1000000000 : Int64))])) _
            refine XS.lload X32.here hx rfl (hb hby at_271) rfl ?_
            show Steps p.tables e below (T32.setTop (mkF m 273 #[.val (.long j0), .second, .val (.long j1), .second, .val (.long j2), .second, .val (.int p1), .val (.ref b2), .val (.long rr), .second, .val (.int kk), .val (.long lg), .second, .val (.ref b27), .val (.long oo), .second, .val (.long (oo + dd)), .second, .val (.long (((kk.toInt64) * (1000000000 : Int64)) / rr)), .second, .val (.long (((oo + dd) - oo) - (((kk.toInt64) * (1000000000 : Int64)) / rr))), .second, .unset] [(.long rr), (.long (1000000000 : Int64))])) _
            refine own_lrem X32.here hx rfl (hb hby at_273) rfl hrz ?_
            show Steps p.tables e below (T32.setTop (mkF m 274 #[.val (.long j0), .second, .val (.long j1), .second, .val (.long j2), .second, .val (.int p1), .val (.ref b2), .val (.long rr), .second, .val (.int kk), .val (.long lg), .second, .val (.ref b27), .val (.long oo), .second, .val (.long (oo + dd)), .second, .val (.long (((kk.toInt64) * (1000000000 : Int64)) / rr)), .second, .val (.long (((oo + dd) - oo) - (((kk.toInt64) * (1000000000 : Int64)) / rr))), .second, .unset] [(.long ((1000000000 : Int64) - ((1000000000 : Int64) / rr) * rr))])) _
            refine XS.lconst X32.here hx rfl (hb hby at_274) ?_
            show Steps p.tables e below (T32.setTop (mkF m 275 #[.val (.long j0), .second, .val (.long j1), .second, .val (.long j2), .second, .val (.int p1), .val (.ref b2), .val (.long rr), .second, .val (.int kk), .val (.long lg), .second, .val (.ref b27), .val (.long oo), .second, .val (.long (oo + dd)), .second, .val (.long (((kk.toInt64) * (1000000000 : Int64)) / rr)), .second, .val (.long (((oo + dd) - oo) - (((kk.toInt64) * (1000000000 : Int64)) / rr))), .second, .unset] [(.long (0 : Int64)), (.long ((1000000000 : Int64) - ((1000000000 : Int64) / rr) * rr))])) _
            refine XS.lcmp X32.here hx rfl (hb hby at_275) rfl ?_
            show Steps p.tables e below (T32.setTop (mkF m 276 #[.val (.long j0), .second, .val (.long j1), .second, .val (.long j2), .second, .val (.int p1), .val (.ref b2), .val (.long rr), .second, .val (.int kk), .val (.long lg), .second, .val (.ref b27), .val (.long oo), .second, .val (.long (oo + dd)), .second, .val (.long (((kk.toInt64) * (1000000000 : Int64)) / rr)), .second, .val (.long (((oo + dd) - oo) - (((kk.toInt64) * (1000000000 : Int64)) / rr))), .second, .unset] [(.int (lcmpW ((1000000000 : Int64) - ((1000000000 : Int64) / rr) * rr) (0 : Int64)))])) _
            refine XS.ifNo X32.here hx rfl (hb hby at_276) rfl ((if0 _ _).trans (teq (own_lc_eq hx0 : (lcmpW ((1000000000 : Int64) - ((1000000000 : Int64) / rr) * rr) (0 : Int64)) = (0 : Int32))).2) ?_
            show Steps p.tables e below (T32.setTop (mkF m 279 #[.val (.long j0), .second, .val (.long j1), .second, .val (.long j2), .second, .val (.int p1), .val (.ref b2), .val (.long rr), .second, .val (.int kk), .val (.long lg), .second, .val (.ref b27), .val (.long oo), .second, .val (.long (oo + dd)), .second, .val (.long (((kk.toInt64) * (1000000000 : Int64)) / rr)), .second, .val (.long (((oo + dd) - oo) - (((kk.toInt64) * (1000000000 : Int64)) / rr))), .second, .unset] [])) _
            refine XS.iconst X32.here hx rfl (hb hby at_279) ?_
            show Steps p.tables e below (T32.setTop (mkF m 280 #[.val (.long j0), .second, .val (.long j1), .second, .val (.long j2), .second, .val (.int p1), .val (.ref b2), .val (.long rr), .second, .val (.int kk), .val (.long lg), .second, .val (.ref b27), .val (.long oo), .second, .val (.long (oo + dd)), .second, .val (.long (((kk.toInt64) * (1000000000 : Int64)) / rr)), .second, .val (.long (((oo + dd) - oo) - (((kk.toInt64) * (1000000000 : Int64)) / rr))), .second, .unset] [(.int (1 : Int32))])) _
            refine XS.goto X32.here hx rfl (pc0 := 280) (pc' := 284) rfl (hb hby at_280) (by decide) (by decide) ?_
            show Steps p.tables e below (T32.setTop (mkF m 284 #[.val (.long j0), .second, .val (.long j1), .second, .val (.long j2), .second, .val (.int p1), .val (.ref b2), .val (.long rr), .second, .val (.int kk), .val (.long lg), .second, .val (.ref b27), .val (.long oo), .second, .val (.long (oo + dd)), .second, .val (.long (((kk.toInt64) * (1000000000 : Int64)) / rr)), .second, .val (.long (((oo + dd) - oo) - (((kk.toInt64) * (1000000000 : Int64)) / rr))), .second, .unset] [(.int (1 : Int32))])) _
            refine XS.istore X32.here hx rfl (hb hby at_284) rfl (l' := #[.val (.long j0), .second, .val (.long j1), .second, .val (.long j2), .second, .val (.int p1), .val (.ref b2), .val (.long rr), .second, .val (.int kk), .val (.long lg), .second, .val (.ref b27), .val (.long oo), .second, .val (.long (oo + dd)), .second, .val (.long (((kk.toInt64) * (1000000000 : Int64)) / rr)), .second, .val (.long (((oo + dd) - oo) - (((kk.toInt64) * (1000000000 : Int64)) / rr))), .second, .val (.int (1 : Int32))]) rfl ?_
            show Steps p.tables e below (T32.setTop (mkF m 286 #[.val (.long j0), .second, .val (.long j1), .second, .val (.long j2), .second, .val (.int p1), .val (.ref b2), .val (.long rr), .second, .val (.int kk), .val (.long lg), .second, .val (.ref b27), .val (.long oo), .second, .val (.long (oo + dd)), .second, .val (.long (((kk.toInt64) * (1000000000 : Int64)) / rr)), .second, .val (.long (((oo + dd) - oo) - (((kk.toInt64) * (1000000000 : Int64)) / rr))), .second, .val (.int (1 : Int32))] [])) _
            refine XS.iload X32.here hx rfl (hb hby at_286) rfl ?_
            show Steps p.tables e below (T32.setTop (mkF m 288 #[.val (.long j0), .second, .val (.long j1), .second, .val (.long j2), .second, .val (.int p1), .val (.ref b2), .val (.long rr), .second, .val (.int kk), .val (.long lg), .second, .val (.ref b27), .val (.long oo), .second, .val (.long (oo + dd)), .second, .val (.long (((kk.toInt64) * (1000000000 : Int64)) / rr)), .second, .val (.long (((oo + dd) - oo) - (((kk.toInt64) * (1000000000 : Int64)) / rr))), .second, .val (.int (1 : Int32))] [(.int (1 : Int32))])) _
            refine XS.ifNo X32.here hx rfl (hb hby at_288) rfl ((if0 _ _).trans (feq (by decide : ¬ ((1 : Int32) = (0 : Int32)))).1) ?_
            show Steps p.tables e below (T32.setTop (mkF m 291 #[.val (.long j0), .second, .val (.long j1), .second, .val (.long j2), .second, .val (.int p1), .val (.ref b2), .val (.long rr), .second, .val (.int kk), .val (.long lg), .second, .val (.ref b27), .val (.long oo), .second, .val (.long (oo + dd)), .second, .val (.long (((kk.toInt64) * (1000000000 : Int64)) / rr)), .second, .val (.long (((oo + dd) - oo) - (((kk.toInt64) * (1000000000 : Int64)) / rr))), .second, .val (.int (1 : Int32))] [])) _
            refine XS.lload X32.here hx rfl (hb hby at_291) rfl ?_
            show Steps p.tables e below (T32.setTop (mkF m 293 #[.val (.long j0), .second, .val (.long j1), .second, .val (.long j2), .second, .val (.int p1), .val (.ref b2), .val (.long rr), .second, .val (.int kk), .val (.long lg), .second, .val (.ref b27), .val (.long oo), .second, .val (.long (oo + dd)), .second, .val (.long (((kk.toInt64) * (1000000000 : Int64)) / rr)), .second, .val (.long (((oo + dd) - oo) - (((kk.toInt64) * (1000000000 : Int64)) / rr))), .second, .val (.int (1 : Int32))] [(.long (((oo + dd) - oo) - (((kk.toInt64) * (1000000000 : Int64)) / rr)))])) _
            refine XS.lconst X32.here hx rfl (hb hby at_293) ?_
            show Steps p.tables e below (T32.setTop (mkF m 294 #[.val (.long j0), .second, .val (.long j1), .second, .val (.long j2), .second, .val (.int p1), .val (.ref b2), .val (.long rr), .second, .val (.int kk), .val (.long lg), .second, .val (.ref b27), .val (.long oo), .second, .val (.long (oo + dd)), .second, .val (.long (((kk.toInt64) * (1000000000 : Int64)) / rr)), .second, .val (.long (((oo + dd) - oo) - (((kk.toInt64) * (1000000000 : Int64)) / rr))), .second, .val (.int (1 : Int32))] [(.long (0 : Int64)), (.long (((oo + dd) - oo) - (((kk.toInt64) * (1000000000 : Int64)) / rr)))])) _
            refine XS.lcmp X32.here hx rfl (hb hby at_294) rfl ?_
            show Steps p.tables e below (T32.setTop (mkF m 295 #[.val (.long j0), .second, .val (.long j1), .second, .val (.long j2), .second, .val (.int p1), .val (.ref b2), .val (.long rr), .second, .val (.int kk), .val (.long lg), .second, .val (.ref b27), .val (.long oo), .second, .val (.long (oo + dd)), .second, .val (.long (((kk.toInt64) * (1000000000 : Int64)) / rr)), .second, .val (.long (((oo + dd) - oo) - (((kk.toInt64) * (1000000000 : Int64)) / rr))), .second, .val (.int (1 : Int32))] [(.int (lcmpW (((oo + dd) - oo) - (((kk.toInt64) * (1000000000 : Int64)) / rr)) (0 : Int64)))])) _
            refine XS.ifNo X32.here hx rfl (hb hby at_295) rfl ((if0 _ _).trans (teq (own_lc_eq hz : (lcmpW (((oo + dd) - oo) - (((kk.toInt64) * (1000000000 : Int64)) / rr)) (0 : Int64)) = (0 : Int32))).2) ?_
            show Steps p.tables e below (T32.setTop (mkF m 298 #[.val (.long j0), .second, .val (.long j1), .second, .val (.long j2), .second, .val (.int p1), .val (.ref b2), .val (.long rr), .second, .val (.int kk), .val (.long lg), .second, .val (.ref b27), .val (.long oo), .second, .val (.long (oo + dd)), .second, .val (.long (((kk.toInt64) * (1000000000 : Int64)) / rr)), .second, .val (.long (((oo + dd) - oo) - (((kk.toInt64) * (1000000000 : Int64)) / rr))), .second, .val (.int (1 : Int32))] [])) _
            refine XS.iconst X32.here hx rfl (hb hby at_298) ?_
            show Steps p.tables e below (T32.setTop (mkF m 299 #[.val (.long j0), .second, .val (.long j1), .second, .val (.long j2), .second, .val (.int p1), .val (.ref b2), .val (.long rr), .second, .val (.int kk), .val (.long lg), .second, .val (.ref b27), .val (.long oo), .second, .val (.long (oo + dd)), .second, .val (.long (((kk.toInt64) * (1000000000 : Int64)) / rr)), .second, .val (.long (((oo + dd) - oo) - (((kk.toInt64) * (1000000000 : Int64)) / rr))), .second, .val (.int (1 : Int32))] [(.int (1 : Int32))])) _
            refine XS.goto X32.here hx rfl (pc0 := 299) (pc' := 303) rfl (hb hby at_299) (by decide) (by decide) ?_
            exact kt
          refine Go.adv sg35 ?_
          refine Go.ret (v := (some (.int (1 : Int32)))) X32 (fun h => by rw [Bd.returns] at h; cases h) Bd.notSynchronized (fun fs hr => retN X32 hx (t := .boolean) Bd.returns (by simp) (hb hby at_303) hr) ?_ (by decide) (by decide)
          show Q_rm0 Z j0 j1 j2 p1 h0 n0 (some (.int (1 : Int32))) T32.heap _
          rw [e32]
          exact ⟨rfl, N32⟩
        · have hz1 : ¬ ((((oo + dd) - oo) - (((kk.toInt64) * (1000000000 : Int64)) / rr)) < (-1 : Int64)) := own_zl hdf n4
          have hz2 : ¬ ((1 : Int64) < (((oo + dd) - oo) - (((kk.toInt64) * (1000000000 : Int64)) / rr))) := own_zg hdf n3
          have sg36 : ∀ t, Steps p.tables e below (T32.setTop (mkF m 325 #[.val (.long j0), .second, .val (.long j1), .second, .val (.long j2), .second, .val (.int p1), .val (.ref b2), .val (.long rr), .second, .val (.int kk), .val (.long lg), .second, .val (.ref b27), .val (.long oo), .second, .val (.long (oo + dd)), .second, .val (.long (((kk.toInt64) * (1000000000 : Int64)) / rr)), .second, .val (.long (((oo + dd) - oo) - (((kk.toInt64) * (1000000000 : Int64)) / rr))), .second, .val (.int (0 : Int32))] [(.int (1 : Int32))])) t → Steps p.tables e below (T32.setTop (mkF m 263 #[.val (.long j0), .second, .val (.long j1), .second, .val (.long j2), .second, .val (.int p1), .val (.ref b2), .val (.long rr), .second, .val (.int kk), .val (.long lg), .second, .val (.ref b27), .val (.long oo), .second, .val (.long (oo + dd)), .second, .val (.long (((kk.toInt64) * (1000000000 : Int64)) / rr)), .second, .val (.long (((oo + dd) - oo) - (((kk.toInt64) * (1000000000 : Int64)) / rr))), .second, .unset] [])) t := by
            intro t kt
            show Steps p.tables e below (T32.setTop (mkF m 263 #[.val (.long j0), .second, .val (.long j1), .second, .val (.long j2), .second, .val (.int p1), .val (.ref b2), .val (.long rr), .second, .val (.int kk), .val (.long lg), .second, .val (.ref b27), .val (.long oo), .second, .val (.long (oo + dd)), .second, .val (.long (((kk.toInt64) * (1000000000 : Int64)) / rr)), .second, .val (.long (((oo + dd) - oo) - (((kk.toInt64) * (1000000000 : Int64)) / rr))), .second, .unset] [])) _
            refine XS.iload X32.here hx rfl (hb hby at_263) rfl ?_
            show Steps p.tables e below (T32.setTop (mkF m 265 #[.val (.long j0), .second, .val (.long j1), .second, .val (.long j2), .second, .val (.int p1), .val (.ref b2), .val (.long rr), .second, .val (.int kk), .val (.long lg), .second, .val (.ref b27), .val (.long oo), .second, .val (.long (oo + dd)), .second, .val (.long (((kk.toInt64) * (1000000000 : Int64)) / rr)), .second, .val (.long (((oo + dd) - oo) - (((kk.toInt64) * (1000000000 : Int64)) / rr))), .second, .unset] [(.int kk)])) _
            refine XS.ifNo X32.here hx rfl (hb hby at_265) rfl ((if0 _ _).trans (feq (hk0 : ¬ (kk = (0 : Int32)))).1) ?_
            show Steps p.tables e below (T32.setTop (mkF m 268 #[.val (.long j0), .second, .val (.long j1), .second, .val (.long j2), .second, .val (.int p1), .val (.ref b2), .val (.long rr), .second, .val (.int kk), .val (.long lg), .second, .val (.ref b27), .val (.long oo), .second, .val (.long (oo + dd)), .second, .val (.long (((kk.toInt64) * (1000000000 : Int64)) / rr)), .second, .val (.long (((oo + dd) - oo) - (((kk.toInt64) * (1000000000 : Int64)) / rr))), .second, .unset] [])) _
            refine X32.ldc2Long hx hown (mvT hZ (hw _ (List.mem_of_getElem? (i := 41) rfl))) (g := (mkF m 268 #[.val (.long j0), .second, .val (.long j1), .second, .val (.long j2), .second, .val (.int p1), .val (.ref b2), .val (.long rr), .second, .val (.int kk), .val (.long lg), .second, .val (.ref b27), .val (.long oo), .second, .val (.long (oo + dd)), .second, .val (.long (((kk.toInt64) * (1000000000 : Int64)) / rr)), .second, .val (.long (((oo + dd) - oo) - (((kk.toInt64) * (1000000000 : Int64)) / rr))), .second, .unset] [])) rfl (hb hby at_268) _ ?_
            show Steps p.tables e below (T32.setTop (mkF m 271 #[.val (.long j0), .second, .val (.long j1), .second, .val (.long j2), .second, .val (.int p1), .val (.ref b2), .val (.long rr), .second, .val (.int kk), .val (.long lg), .second, .val (.ref b27), .val (.long oo), .second, .val (.long (oo + dd)), .second, .val (.long (((kk.toInt64) * (1000000000 : Int64)) / rr)), .second, .val (.long (((oo + dd) - oo) - (((kk.toInt64) * (1000000000 : Int64)) / rr))), .second, .unset] [(.long (1000000000 : Int64))])) _
            refine XS.lload X32.here hx rfl (hb hby at_271) rfl ?_
            show Steps p.tables e below (T32.setTop (mkF m 273 #[.val (.long j0), .second, .val (.long j1), .second, .val (.long j2), .second, .val (.int p1), .val (.ref b2), .val (.long rr), .second, .val (.int kk), .val (.long lg), .second, .val (.ref b27), .val (.long oo), .second, .val (.long (oo + dd)), .second, .val (.long (((kk.toInt64) * (1000000000 : Int64)) / rr)), .second, .val (.long (((oo + dd) - oo) - (((kk.toInt64) * (1000000000 : Int64)) / rr))), .second, .unset] [(.long rr), (.long (1000000000 : Int64))])) _
            refine own_lrem X32.here hx rfl (hb hby at_273) rfl hrz ?_
            show Steps p.tables e below (T32.setTop (mkF m 274 #[.val (.long j0), .second, .val (.long j1), .second, .val (.long j2), .second, .val (.int p1), .val (.ref b2), .val (.long rr), .second, .val (.int kk), .val (.long lg), .second, .val (.ref b27), .val (.long oo), .second, .val (.long (oo + dd)), .second, .val (.long (((kk.toInt64) * (1000000000 : Int64)) / rr)), .second, .val (.long (((oo + dd) - oo) - (((kk.toInt64) * (1000000000 : Int64)) / rr))), .second, .unset] [(.long ((1000000000 : Int64) - ((1000000000 : Int64) / rr) * rr))])) _
            refine XS.lconst X32.here hx rfl (hb hby at_274) ?_
            show Steps p.tables e below (T32.setTop (mkF m 275 #[.val (.long j0), .second, .val (.long j1), .second, .val (.long j2), .second, .val (.int p1), .val (.ref b2), .val (.long rr), .second, .val (.int kk), .val (.long lg), .second, .val (.ref b27), .val (.long oo), .second, .val (.long (oo + dd)), .second, .val (.long (((kk.toInt64) * (1000000000 : Int64)) / rr)), .second, .val (.long (((oo + dd) - oo) - (((kk.toInt64) * (1000000000 : Int64)) / rr))), .second, .unset] [(.long (0 : Int64)), (.long ((1000000000 : Int64) - ((1000000000 : Int64) / rr) * rr))])) _
            refine XS.lcmp X32.here hx rfl (hb hby at_275) rfl ?_
            show Steps p.tables e below (T32.setTop (mkF m 276 #[.val (.long j0), .second, .val (.long j1), .second, .val (.long j2), .second, .val (.int p1), .val (.ref b2), .val (.long rr), .second, .val (.int kk), .val (.long lg), .second, .val (.ref b27), .val (.long oo), .second, .val (.long (oo + dd)), .second, .val (.long (((kk.toInt64) * (1000000000 : Int64)) / rr)), .second, .val (.long (((oo + dd) - oo) - (((kk.toInt64) * (1000000000 : Int64)) / rr))), .second, .unset] [(.int (lcmpW ((1000000000 : Int64) - ((1000000000 : Int64) / rr) * rr) (0 : Int64)))])) _
            refine XS.ifYes X32.here hx rfl (pc0 := 276) (pc' := 283) rfl (hb hby at_276) rfl ((if0 _ _).trans (feq (own_lc_ne hx0 : ¬ ((lcmpW ((1000000000 : Int64) - ((1000000000 : Int64) / rr) * rr) (0 : Int64)) = (0 : Int32)))).2) (by decide) (by decide) ?_
            show Steps p.tables e below (T32.setTop (mkF m 283 #[.val (.long j0), .second, .val (.long j1), .second, .val (.long j2), .second, .val (.int p1), .val (.ref b2), .val (.long rr), .second, .val (.int kk), .val (.long lg), .second, .val (.ref b27), .val (.long oo), .second, .val (.long (oo + dd)), .second, .val (.long (((kk.toInt64) * (1000000000 : Int64)) / rr)), .second, .val (.long (((oo + dd) - oo) - (((kk.toInt64) * (1000000000 : Int64)) / rr))), .second, .unset] [])) _
            refine XS.iconst X32.here hx rfl (hb hby at_283) ?_
            show Steps p.tables e below (T32.setTop (mkF m 284 #[.val (.long j0), .second, .val (.long j1), .second, .val (.long j2), .second, .val (.int p1), .val (.ref b2), .val (.long rr), .second, .val (.int kk), .val (.long lg), .second, .val (.ref b27), .val (.long oo), .second, .val (.long (oo + dd)), .second, .val (.long (((kk.toInt64) * (1000000000 : Int64)) / rr)), .second, .val (.long (((oo + dd) - oo) - (((kk.toInt64) * (1000000000 : Int64)) / rr))), .second, .unset] [(.int (0 : Int32))])) _
            refine XS.istore X32.here hx rfl (hb hby at_284) rfl (l' := #[.val (.long j0), .second, .val (.long j1), .second, .val (.long j2), .second, .val (.int p1), .val (.ref b2), .val (.long rr), .second, .val (.int kk), .val (.long lg), .second, .val (.ref b27), .val (.long oo), .second, .val (.long (oo + dd)), .second, .val (.long (((kk.toInt64) * (1000000000 : Int64)) / rr)), .second, .val (.long (((oo + dd) - oo) - (((kk.toInt64) * (1000000000 : Int64)) / rr))), .second, .val (.int (0 : Int32))]) rfl ?_
            show Steps p.tables e below (T32.setTop (mkF m 286 #[.val (.long j0), .second, .val (.long j1), .second, .val (.long j2), .second, .val (.int p1), .val (.ref b2), .val (.long rr), .second, .val (.int kk), .val (.long lg), .second, .val (.ref b27), .val (.long oo), .second, .val (.long (oo + dd)), .second, .val (.long (((kk.toInt64) * (1000000000 : Int64)) / rr)), .second, .val (.long (((oo + dd) - oo) - (((kk.toInt64) * (1000000000 : Int64)) / rr))), .second, .val (.int (0 : Int32))] [])) _
            refine XS.iload X32.here hx rfl (hb hby at_286) rfl ?_
            show Steps p.tables e below (T32.setTop (mkF m 288 #[.val (.long j0), .second, .val (.long j1), .second, .val (.long j2), .second, .val (.int p1), .val (.ref b2), .val (.long rr), .second, .val (.int kk), .val (.long lg), .second, .val (.ref b27), .val (.long oo), .second, .val (.long (oo + dd)), .second, .val (.long (((kk.toInt64) * (1000000000 : Int64)) / rr)), .second, .val (.long (((oo + dd) - oo) - (((kk.toInt64) * (1000000000 : Int64)) / rr))), .second, .val (.int (0 : Int32))] [(.int (0 : Int32))])) _
            refine XS.ifYes X32.here hx rfl (pc0 := 288) (pc' := 304) rfl (hb hby at_288) rfl ((if0 _ _).trans (teq (by decide : (0 : Int32) = (0 : Int32))).1) (by decide) (by decide) ?_
            show Steps p.tables e below (T32.setTop (mkF m 304 #[.val (.long j0), .second, .val (.long j1), .second, .val (.long j2), .second, .val (.int p1), .val (.ref b2), .val (.long rr), .second, .val (.int kk), .val (.long lg), .second, .val (.ref b27), .val (.long oo), .second, .val (.long (oo + dd)), .second, .val (.long (((kk.toInt64) * (1000000000 : Int64)) / rr)), .second, .val (.long (((oo + dd) - oo) - (((kk.toInt64) * (1000000000 : Int64)) / rr))), .second, .val (.int (0 : Int32))] [])) _
            refine XS.lload X32.here hx rfl (hb hby at_304) rfl ?_
            show Steps p.tables e below (T32.setTop (mkF m 306 #[.val (.long j0), .second, .val (.long j1), .second, .val (.long j2), .second, .val (.int p1), .val (.ref b2), .val (.long rr), .second, .val (.int kk), .val (.long lg), .second, .val (.ref b27), .val (.long oo), .second, .val (.long (oo + dd)), .second, .val (.long (((kk.toInt64) * (1000000000 : Int64)) / rr)), .second, .val (.long (((oo + dd) - oo) - (((kk.toInt64) * (1000000000 : Int64)) / rr))), .second, .val (.int (0 : Int32))] [(.long (((oo + dd) - oo) - (((kk.toInt64) * (1000000000 : Int64)) / rr)))])) _
            refine X32.ldc2Long hx hown (mvT hZ (hw _ (List.mem_of_getElem? (i := 52) rfl))) (g := (mkF m 306 #[.val (.long j0), .second, .val (.long j1), .second, .val (.long j2), .second, .val (.int p1), .val (.ref b2), .val (.long rr), .second, .val (.int kk), .val (.long lg), .second, .val (.ref b27), .val (.long oo), .second, .val (.long (oo + dd)), .second, .val (.long (((kk.toInt64) * (1000000000 : Int64)) / rr)), .second, .val (.long (((oo + dd) - oo) - (((kk.toInt64) * (1000000000 : Int64)) / rr))), .second, .val (.int (0 : Int32))] [(.long (((oo + dd) - oo) - (((kk.toInt64) * (1000000000 : Int64)) / rr)))])) rfl (hb hby at_306) _ ?_
            show Steps p.tables e below (T32.setTop (mkF m 309 #[.val (.long j0), .second, .val (.long j1), .second, .val (.long j2), .second, .val (.int p1), .val (.ref b2), .val (.long rr), .second, .val (.int kk), .val (.long lg), .second, .val (.ref b27), .val (.long oo), .second, .val (.long (oo + dd)), .second, .val (.long (((kk.toInt64) * (1000000000 : Int64)) / rr)), .second, .val (.long (((oo + dd) - oo) - (((kk.toInt64) * (1000000000 : Int64)) / rr))), .second, .val (.int (0 : Int32))] [(.long (-1 : Int64)), (.long (((oo + dd) - oo) - (((kk.toInt64) * (1000000000 : Int64)) / rr)))])) _
            refine XS.lcmp X32.here hx rfl (hb hby at_309) rfl ?_
            show Steps p.tables e below (T32.setTop (mkF m 310 #[.val (.long j0), .second, .val (.long j1), .second, .val (.long j2), .second, .val (.int p1), .val (.ref b2), .val (.long rr), .second, .val (.int kk), .val (.long lg), .second, .val (.ref b27), .val (.long oo), .second, .val (.long (oo + dd)), .second, .val (.long (((kk.toInt64) * (1000000000 : Int64)) / rr)), .second, .val (.long (((oo + dd) - oo) - (((kk.toInt64) * (1000000000 : Int64)) / rr))), .second, .val (.int (0 : Int32))] [(.int (lcmpW (((oo + dd) - oo) - (((kk.toInt64) * (1000000000 : Int64)) / rr)) (-1 : Int64)))])) _
            refine XS.ifNo X32.here hx rfl (hb hby at_310) rfl ((if0 _ _).trans (flt (own_lc_nlt hz1 : ¬ ((lcmpW (((oo + dd) - oo) - (((kk.toInt64) * (1000000000 : Int64)) / rr)) (-1 : Int64)) < (0 : Int32)))).1) ?_
            show Steps p.tables e below (T32.setTop (mkF m 313 #[.val (.long j0), .second, .val (.long j1), .second, .val (.long j2), .second, .val (.int p1), .val (.ref b2), .val (.long rr), .second, .val (.int kk), .val (.long lg), .second, .val (.ref b27), .val (.long oo), .second, .val (.long (oo + dd)), .second, .val (.long (((kk.toInt64) * (1000000000 : Int64)) / rr)), .second, .val (.long (((oo + dd) - oo) - (((kk.toInt64) * (1000000000 : Int64)) / rr))), .second, .val (.int (0 : Int32))] [])) _
            refine XS.lload X32.here hx rfl (hb hby at_313) rfl ?_
            show Steps p.tables e below (T32.setTop (mkF m 315 #[.val (.long j0), .second, .val (.long j1), .second, .val (.long j2), .second, .val (.int p1), .val (.ref b2), .val (.long rr), .second, .val (.int kk), .val (.long lg), .second, .val (.ref b27), .val (.long oo), .second, .val (.long (oo + dd)), .second, .val (.long (((kk.toInt64) * (1000000000 : Int64)) / rr)), .second, .val (.long (((oo + dd) - oo) - (((kk.toInt64) * (1000000000 : Int64)) / rr))), .second, .val (.int (0 : Int32))] [(.long (((oo + dd) - oo) - (((kk.toInt64) * (1000000000 : Int64)) / rr)))])) _
            refine XS.lconst X32.here hx rfl (hb hby at_315) ?_
            show Steps p.tables e below (T32.setTop (mkF m 316 #[.val (.long j0), .second, .val (.long j1), .second, .val (.long j2), .second, .val (.int p1), .val (.ref b2), .val (.long rr), .second, .val (.int kk), .val (.long lg), .second, .val (.ref b27), .val (.long oo), .second, .val (.long (oo + dd)), .second, .val (.long (((kk.toInt64) * (1000000000 : Int64)) / rr)), .second, .val (.long (((oo + dd) - oo) - (((kk.toInt64) * (1000000000 : Int64)) / rr))), .second, .val (.int (0 : Int32))] [(.long (1 : Int64)), (.long (((oo + dd) - oo) - (((kk.toInt64) * (1000000000 : Int64)) / rr)))])) _
            refine XS.lcmp X32.here hx rfl (hb hby at_316) rfl ?_
            show Steps p.tables e below (T32.setTop (mkF m 317 #[.val (.long j0), .second, .val (.long j1), .second, .val (.long j2), .second, .val (.int p1), .val (.ref b2), .val (.long rr), .second, .val (.int kk), .val (.long lg), .second, .val (.ref b27), .val (.long oo), .second, .val (.long (oo + dd)), .second, .val (.long (((kk.toInt64) * (1000000000 : Int64)) / rr)), .second, .val (.long (((oo + dd) - oo) - (((kk.toInt64) * (1000000000 : Int64)) / rr))), .second, .val (.int (0 : Int32))] [(.int (lcmpW (((oo + dd) - oo) - (((kk.toInt64) * (1000000000 : Int64)) / rr)) (1 : Int64)))])) _
            refine XS.ifNo X32.here hx rfl (hb hby at_317) rfl ((if0 _ _).trans (flt (own_lc_ngt hz2 : ¬ ((0 : Int32) < (lcmpW (((oo + dd) - oo) - (((kk.toInt64) * (1000000000 : Int64)) / rr)) (1 : Int64))))).2.2.1) ?_
            show Steps p.tables e below (T32.setTop (mkF m 320 #[.val (.long j0), .second, .val (.long j1), .second, .val (.long j2), .second, .val (.int p1), .val (.ref b2), .val (.long rr), .second, .val (.int kk), .val (.long lg), .second, .val (.ref b27), .val (.long oo), .second, .val (.long (oo + dd)), .second, .val (.long (((kk.toInt64) * (1000000000 : Int64)) / rr)), .second, .val (.long (((oo + dd) - oo) - (((kk.toInt64) * (1000000000 : Int64)) / rr))), .second, .val (.int (0 : Int32))] [])) _
            refine XS.iconst X32.here hx rfl (hb hby at_320) ?_
            show Steps p.tables e below (T32.setTop (mkF m 321 #[.val (.long j0), .second, .val (.long j1), .second, .val (.long j2), .second, .val (.int p1), .val (.ref b2), .val (.long rr), .second, .val (.int kk), .val (.long lg), .second, .val (.ref b27), .val (.long oo), .second, .val (.long (oo + dd)), .second, .val (.long (((kk.toInt64) * (1000000000 : Int64)) / rr)), .second, .val (.long (((oo + dd) - oo) - (((kk.toInt64) * (1000000000 : Int64)) / rr))), .second, .val (.int (0 : Int32))] [(.int (1 : Int32))])) _
            refine XS.goto X32.here hx rfl (pc0 := 321) (pc' := 325) rfl (hb hby at_321) (by decide) (by decide) ?_
            exact kt
          refine Go.adv sg36 ?_
          refine Go.ret (v := (some (.int (1 : Int32)))) X32 (fun h => by rw [Bd.returns] at h; cases h) Bd.notSynchronized (fun fs hr => retN X32 hx (t := .boolean) Bd.returns (by simp) (hb hby at_325) hr) ?_ (by decide) (by decide)
          show Q_rm0 Z j0 j1 j2 p1 h0 n0 (some (.int (1 : Int32))) T32.heap _
          rw [e32]
          exact ⟨rfl, N32⟩
    have lt_iff : ∀ k : Int32, kk < k ↔ kk.toInt < k.toInt := fun k => Int32.lt_iff_toInt_lt
    by_cases hk1 : kk < (1 : Int32)
    · have hkv : kk.toInt = 0 := by have := (lt_iff 1).mp hk1; have z : (1 : Int32).toInt = 1 := rfl; omega
      have hk2 : kk < (2 : Int32) := (lt_iff 2).mpr (by rw [hkv]; decide)
      have hk3 : kk < (3 : Int32) := (lt_iff 3).mpr (by rw [hkv]; decide)
      have sg37 : ∀ t, Steps p.tables e below (T29.setTop (mkF m 234 #[.val (.long j0), .second, .val (.long j1), .second, .val (.long j2), .second, .val (.int p1), .val (.ref b2), .val (.long rr), .second, .val (.int kk), .val (.long lg), .second, .val (.ref b27), .val (.long j1), .second, .unset, .unset, .unset, .unset, .unset, .unset, .unset] [])) t → Steps p.tables e below (T29.setTop (mkF m 174 #[.val (.long j0), .second, .val (.long j1), .second, .val (.long j2), .second, .val (.int p1), .val (.ref b2), .val (.long rr), .second, .val (.int kk), .val (.long lg), .second, .val (.ref b27), .val (.long j1), .second, .unset, .unset, .unset, .unset, .unset, .unset, .unset] [])) t := by
        intro t kt
        show Steps p.tables e below (T29.setTop (mkF m 174 #[.val (.long j0), .second, .val (.long j1), .second, .val (.long j2), .second, .val (.int p1), .val (.ref b2), .val (.long rr), .second, .val (.int kk), .val (.long lg), .second, .val (.ref b27), .val (.long j1), .second, .unset, .unset, .unset, .unset, .unset, .unset, .unset] [])) _
        refine XS.iload X29.here hx rfl (hb hby at_174) rfl ?_
        show Steps p.tables e below (T29.setTop (mkF m 176 #[.val (.long j0), .second, .val (.long j1), .second, .val (.long j2), .second, .val (.int p1), .val (.ref b2), .val (.long rr), .second, .val (.int kk), .val (.long lg), .second, .val (.ref b27), .val (.long j1), .second, .unset, .unset, .unset, .unset, .unset, .unset, .unset] [(.int kk)])) _
        refine XS.iconst X29.here hx rfl (hb hby at_176) ?_
        show Steps p.tables e below (T29.setTop (mkF m 177 #[.val (.long j0), .second, .val (.long j1), .second, .val (.long j2), .second, .val (.int p1), .val (.ref b2), .val (.long rr), .second, .val (.int kk), .val (.long lg), .second, .val (.ref b27), .val (.long j1), .second, .unset, .unset, .unset, .unset, .unset, .unset, .unset] [(.int (1 : Int32)), (.int kk)])) _
        refine XS.icmpYes X29.here hx rfl (pc0 := 177) (pc' := 208) rfl (hb hby at_177) rfl (tlt (hk1 : kk < (1 : Int32))).1 (by decide) (by decide) ?_
        show Steps p.tables e below (T29.setTop (mkF m 208 #[.val (.long j0), .second, .val (.long j1), .second, .val (.long j2), .second, .val (.int p1), .val (.ref b2), .val (.long rr), .second, .val (.int kk), .val (.long lg), .second, .val (.ref b27), .val (.long j1), .second, .unset, .unset, .unset, .unset, .unset, .unset, .unset] [])) _
        refine XS.iload X29.here hx rfl (hb hby at_208) rfl ?_
        show Steps p.tables e below (T29.setTop (mkF m 210 #[.val (.long j0), .second, .val (.long j1), .second, .val (.long j2), .second, .val (.int p1), .val (.ref b2), .val (.long rr), .second, .val (.int kk), .val (.long lg), .second, .val (.ref b27), .val (.long j1), .second, .unset, .unset, .unset, .unset, .unset, .unset, .unset] [(.int kk)])) _
        refine XS.iconst X29.here hx rfl (hb hby at_210) ?_
        show Steps p.tables e below (T29.setTop (mkF m 211 #[.val (.long j0), .second, .val (.long j1), .second, .val (.long j2), .second, .val (.int p1), .val (.ref b2), .val (.long rr), .second, .val (.int kk), .val (.long lg), .second, .val (.ref b27), .val (.long j1), .second, .unset, .unset, .unset, .unset, .unset, .unset, .unset] [(.int (2 : Int32)), (.int kk)])) _
        refine XS.icmpYes X29.here hx rfl (pc0 := 211) (pc' := 221) rfl (hb hby at_211) rfl (tlt (hk2 : kk < (2 : Int32))).1 (by decide) (by decide) ?_
        show Steps p.tables e below (T29.setTop (mkF m 221 #[.val (.long j0), .second, .val (.long j1), .second, .val (.long j2), .second, .val (.int p1), .val (.ref b2), .val (.long rr), .second, .val (.int kk), .val (.long lg), .second, .val (.ref b27), .val (.long j1), .second, .unset, .unset, .unset, .unset, .unset, .unset, .unset] [])) _
        refine XS.iload X29.here hx rfl (hb hby at_221) rfl ?_
        show Steps p.tables e below (T29.setTop (mkF m 223 #[.val (.long j0), .second, .val (.long j1), .second, .val (.long j2), .second, .val (.int p1), .val (.ref b2), .val (.long rr), .second, .val (.int kk), .val (.long lg), .second, .val (.ref b27), .val (.long j1), .second, .unset, .unset, .unset, .unset, .unset, .unset, .unset] [(.int kk)])) _
        refine XS.iconst X29.here hx rfl (hb hby at_223) ?_
        show Steps p.tables e below (T29.setTop (mkF m 224 #[.val (.long j0), .second, .val (.long j1), .second, .val (.long j2), .second, .val (.int p1), .val (.ref b2), .val (.long rr), .second, .val (.int kk), .val (.long lg), .second, .val (.ref b27), .val (.long j1), .second, .unset, .unset, .unset, .unset, .unset, .unset, .unset] [(.int (3 : Int32)), (.int kk)])) _
        refine XS.icmpYes X29.here hx rfl (pc0 := 224) (pc' := 234) rfl (hb hby at_224) rfl (tlt (hk3 : kk < (3 : Int32))).1 (by decide) (by decide) ?_
        exact kt
      refine Go.adv sg37 ?_
      exact tailB T29 _ T29.heap X29 rfl N29 Z29 j1 (0 : Int64) (by rw [hkv]; rfl) p29_0 p29_3 p29_5 p29_2
    · obtain ⟨-, m0, -⟩ := own_bound (t := (0 : Int64)) hr (by decide)
      have d0 : FP.d2l (FP.dmul (FP.l2d (0 : Int64)) (FP.ddiv (4741671816366391296 : UInt64) (FP.l2d rr))) = (0 : Int64) := Int64.toInt.inj (own_zero rfl hr)
      obtain ⟨-, m1, p1', -⟩ := own_bound (t := ((0 : Int64) + (1 : Int64))) hr (by decide)
      obtain ⟨-, m2, p2', -⟩ := own_bound (t := (((0 : Int64) + (1 : Int64)) + (1 : Int64))) hr (by decide)
      have l1 : ((j1 + lg) - (j1 + (0 : Int64))) = lg := by rw [Int64.add_zero]; exact own_back _ _
      have sg38 : ∀ t, Steps p.tables e below (T29.setTop (mkF m 186 #[.val (.long j0), .second, .val (.long j1), .second, .val (.long j2), .second, .val (.int p1), .val (.ref b2), .val (.long rr), .second, .val (.int kk), .val (.long lg), .second, .val (.ref b27), .val (.long j1), .second, .unset, .unset, .unset, .unset, .unset, .unset, .unset] [(.long (j1 + lg)), (.ref b27)])) t → Steps p.tables e below (T29.setTop (mkF m 174 #[.val (.long j0), .second, .val (.long j1), .second, .val (.long j2), .second, .val (.int p1), .val (.ref b2), .val (.long rr), .second, .val (.int kk), .val (.long lg), .second, .val (.ref b27), .val (.long j1), .second, .unset, .unset, .unset, .unset, .unset, .unset, .unset] [])) t := by
        intro t kt
        show Steps p.tables e below (T29.setTop (mkF m 174 #[.val (.long j0), .second, .val (.long j1), .second, .val (.long j2), .second, .val (.int p1), .val (.ref b2), .val (.long rr), .second, .val (.int kk), .val (.long lg), .second, .val (.ref b27), .val (.long j1), .second, .unset, .unset, .unset, .unset, .unset, .unset, .unset] [])) _
        refine XS.iload X29.here hx rfl (hb hby at_174) rfl ?_
        show Steps p.tables e below (T29.setTop (mkF m 176 #[.val (.long j0), .second, .val (.long j1), .second, .val (.long j2), .second, .val (.int p1), .val (.ref b2), .val (.long rr), .second, .val (.int kk), .val (.long lg), .second, .val (.ref b27), .val (.long j1), .second, .unset, .unset, .unset, .unset, .unset, .unset, .unset] [(.int kk)])) _
        refine XS.iconst X29.here hx rfl (hb hby at_176) ?_
        show Steps p.tables e below (T29.setTop (mkF m 177 #[.val (.long j0), .second, .val (.long j1), .second, .val (.long j2), .second, .val (.int p1), .val (.ref b2), .val (.long rr), .second, .val (.int kk), .val (.long lg), .second, .val (.ref b27), .val (.long j1), .second, .unset, .unset, .unset, .unset, .unset, .unset, .unset] [(.int (1 : Int32)), (.int kk)])) _
        refine XS.icmpNo X29.here hx rfl (hb hby at_177) rfl (flt (hk1 : ¬ (kk < (1 : Int32)))).1 ?_
        show Steps p.tables e below (T29.setTop (mkF m 180 #[.val (.long j0), .second, .val (.long j1), .second, .val (.long j2), .second, .val (.int p1), .val (.ref b2), .val (.long rr), .second, .val (.int kk), .val (.long lg), .second, .val (.ref b27), .val (.long j1), .second, .unset, .unset, .unset, .unset, .unset, .unset, .unset] [])) _
        refine XS.aload X29.here hx rfl (hb hby at_180) rfl rfl ?_
        show Steps p.tables e below (T29.setTop (mkF m 182 #[.val (.long j0), .second, .val (.long j1), .second, .val (.long j2), .second, .val (.int p1), .val (.ref b2), .val (.long rr), .second, .val (.int kk), .val (.long lg), .second, .val (.ref b27), .val (.long j1), .second, .unset, .unset, .unset, .unset, .unset, .unset, .unset] [(.ref b27)])) _
        refine XS.lloadN X29.here hx rfl (hb hby at_182) rfl ?_
        show Steps p.tables e below (T29.setTop (mkF m 183 #[.val (.long j0), .second, .val (.long j1), .second, .val (.long j2), .second, .val (.int p1), .val (.ref b2), .val (.long rr), .second, .val (.int kk), .val (.long lg), .second, .val (.ref b27), .val (.long j1), .second, .unset, .unset, .unset, .unset, .unset, .unset, .unset] [(.long j1), (.ref b27)])) _
        refine XS.lload X29.here hx rfl (hb hby at_183) rfl ?_
        show Steps p.tables e below (T29.setTop (mkF m 185 #[.val (.long j0), .second, .val (.long j1), .second, .val (.long j2), .second, .val (.int p1), .val (.ref b2), .val (.long rr), .second, .val (.int kk), .val (.long lg), .second, .val (.ref b27), .val (.long j1), .second, .unset, .unset, .unset, .unset, .unset, .unset, .unset] [(.long lg), (.long j1), (.ref b27)])) _
        refine XS.ladd X29.here hx rfl (hb hby at_185) rfl ?_
        exact kt
      refine Go.adv sg38 ?_
      obtain ⟨cq39, kq39, q39a, q39b, q39c⟩ := isOf hZ rfl p29_0
      obtain ⟨_, _, ⟨T39, L39, k39, n39⟩, -, X39, ⟨Lc39, hQ39, l39, y39, z39⟩, st39⟩ := X29.virtualBack hx (y := (⟨"com/example/ballast/ballast/Pacer", "take", "(J)V"⟩ : MethodName)) (z := (⟨"com/example/ballast/ballast/Pacer", "take", "(J)V"⟩ : MethodName)) hown (mvT hZ (hw _ (List.mem_of_getElem? (i := 42) rfl))) (mvT hZ (hw _ (List.mem_of_getElem? (i := 43) rfl))) (notFace_of_selects (args := #[]) (mvT hZ (hw _ (List.mem_of_getElem? (i := 45) rfl)))) (mvT hZ (hw _ (List.mem_of_getElem? (i := 45) rfl))) (mvT hZ (hw _ (List.mem_of_getElem? (i := 44) rfl))) (by decide) (backOf (W := 0) (rm_take l Z a0 hw [] b27 (j1 + lg) j1 (0 : Int64) (0 : Int64) (FP.ddiv (4741671816366391296 : UInt64) (FP.l2d rr)) (0 : Int64) lg T29.heap n0 Z29 p29_0 g_b27 p29_3 p29_5 p29_6 p29_2 m0 d0 l1) hZ (hw _ (List.mem_of_getElem? (i := 46) rfl)) (hw _ (List.mem_of_getElem? (i := 18) rfl)) (by decide) (by decide)) q39a q39c (g := (mkF m 186 #[.val (.long j0), .second, .val (.long j1), .second, .val (.long j2), .second, .val (.int p1), .val (.ref b2), .val (.long rr), .second, .val (.int kk), .val (.long lg), .second, .val (.ref b27), .val (.long j1), .second, .unset, .unset, .unset, .unset, .unset, .unset, .unset] [(.long (j1 + lg)), (.ref b27)])) rfl (by rw [hml]; rfl) (Steps.refl _) (argsL := [(.long (j1 + lg))]) (rest := []) (lenOf pd_oJcV rfl) rfl (by show 2 * 0 + _ ≤ _; exact Nat.le_of_eq rfl) (hb hby at_186) (fun _ _ => ⟨rfl, rfl, (by decide : 2 + 0 ≤ _), (by decide : 16 + 0 ≤ _)⟩)
      dsimp only [Pt.U, Pt.locs, Pt.cells, Pt.slots] at X39 l39 y39 z39 st39 hQ39
      subst l39 y39 z39
      obtain ⟨rfl, N39q, Kc39, p39_0, p39_1, p39_2, p39_3, p39_4⟩ := hQ39
      have N39 := Fr.app N29 N39q
      have K39 : Keep h0 T39.heap [] := K29.trans Kc39 (allS (Or.inr sz_b27) all0)
      have Z39 : n0 ≤ T39.heap.size := Nat.le_trans Z29 Kc39.1
      refine Go.tr st39 ?_
      show Go p.tables e below s _ _ _ (T39.setTop (mkF m 189 #[.val (.long j0), .second, .val (.long j1), .second, .val (.long j2), .second, .val (.int p1), .val (.ref b2), .val (.long rr), .second, .val (.int kk), .val (.long lg), .second, .val (.ref b27), .val (.long j1), .second, .unset, .unset, .unset, .unset, .unset, .unset, .unset] []))
      by_cases hc : (20000000 : Int64) < lg
      · rw [own_shift_a hc] at p39_1
        have sg40 : ∀ t, Steps p.tables e below (T39.setTop (mkF m 208 #[.val (.long j0), .second, .val (.long j1), .second, .val (.long j2), .second, .val (.int p1), .val (.ref b2), .val (.long rr), .second, .val (.int kk), .val (.long lg), .second, .val (.ref b27), .val (.long (j1 + (lg - (20000000 : Int64)))), .second, .unset, .unset, .unset, .unset, .unset, .unset, .unset] [])) t → Steps p.tables e below (T39.setTop (mkF m 189 #[.val (.long j0), .second, .val (.long j1), .second, .val (.long j2), .second, .val (.int p1), .val (.ref b2), .val (.long rr), .second, .val (.int kk), .val (.long lg), .second, .val (.ref b27), .val (.long j1), .second, .unset, .unset, .unset, .unset, .unset, .unset, .unset] [])) t := by
          intro t kt
          show Steps p.tables e below (T39.setTop (mkF m 189 #[.val (.long j0), .second, .val (.long j1), .second, .val (.long j2), .second, .val (.int p1), .val (.ref b2), .val (.long rr), .second, .val (.int kk), .val (.long lg), .second, .val (.ref b27), .val (.long j1), .second, .unset, .unset, .unset, .unset, .unset, .unset, .unset] [])) _
          refine XS.lload X39.here hx rfl (hb hby at_189) rfl ?_
          show Steps p.tables e below (T39.setTop (mkF m 191 #[.val (.long j0), .second, .val (.long j1), .second, .val (.long j2), .second, .val (.int p1), .val (.ref b2), .val (.long rr), .second, .val (.int kk), .val (.long lg), .second, .val (.ref b27), .val (.long j1), .second, .unset, .unset, .unset, .unset, .unset, .unset, .unset] [(.long lg)])) _
          refine X39.ldc2Long hx hown (mvT hZ (hw _ (List.mem_of_getElem? (i := 51) rfl))) (g := (mkF m 191 #[.val (.long j0), .second, .val (.long j1), .second, .val (.long j2), .second, .val (.int p1), .val (.ref b2), .val (.long rr), .second, .val (.int kk), .val (.long lg), .second, .val (.ref b27), .val (.long j1), .second, .unset, .unset, .unset, .unset, .unset, .unset, .unset] [(.long lg)])) rfl (hb hby at_191) _ ?_
          show Steps p.tables e below (T39.setTop (mkF m 194 #[.val (.long j0), .second, .val (.long j1), .second, .val (.long j2), .second, .val (.int p1), .val (.ref b2), .val (.long rr), .second, .val (.int kk), .val (.long lg), .second, .val (.ref b27), .val (.long j1), .second, .unset, .unset, .unset, .unset, .unset, .unset, .unset] [(.long (20000000 : Int64)), (.long lg)])) _
          refine XS.lcmp X39.here hx rfl (hb hby at_194) rfl ?_
          show Steps p.tables e below (T39.setTop (mkF m 195 #[.val (.long j0), .second, .val (.long j1), .second, .val (.long j2), .second, .val (.int p1), .val (.ref b2), .val (.long rr), .second, .val (.int kk), .val (.long lg), .second, .val (.ref b27), .val (.long j1), .second, .unset, .unset, .unset, .unset, .unset, .unset, .unset] [(.int (lcmpW lg (20000000 : Int64)))])) _
          refine XS.ifNo X39.here hx rfl (hb hby at_195) rfl ((if0 _ _).trans (tlt (own_lc_gt hc : (0 : Int32) < (lcmpW lg (20000000 : Int64)))).2.2.2) ?_
          show Steps p.tables e below (T39.setTop (mkF m 198 #[.val (.long j0), .second, .val (.long j1), .second, .val (.long j2), .second, .val (.int p1), .val (.ref b2), .val (.long rr), .second, .val (.int kk), .val (.long lg), .second, .val (.ref b27), .val (.long j1), .second, .unset, .unset, .unset, .unset, .unset, .unset, .unset] [])) _
          refine XS.lloadN X39.here hx rfl (hb hby at_198) rfl ?_
          show Steps p.tables e below (T39.setTop (mkF m 199 #[.val (.long j0), .second, .val (.long j1), .second, .val (.long j2), .second, .val (.int p1), .val (.ref b2), .val (.long rr), .second, .val (.int kk), .val (.long lg), .second, .val (.ref b27), .val (.long j1), .second, .unset, .unset, .unset, .unset, .unset, .unset, .unset] [(.long j1)])) _
          refine XS.lload X39.here hx rfl (hb hby at_199) rfl ?_
          show Steps p.tables e below (T39.setTop (mkF m 201 #[.val (.long j0), .second, .val (.long j1), .second, .val (.long j2), .second, .val (.int p1), .val (.ref b2), .val (.long rr), .second, .val (.int kk), .val (.long lg), .second, .val (.ref b27), .val (.long j1), .second, .unset, .unset, .unset, .unset, .unset, .unset, .unset] [(.long lg), (.long j1)])) _
          refine X39.ldc2Long hx hown (mvT hZ (hw _ (List.mem_of_getElem? (i := 51) rfl))) (g := (mkF m 201 #[.val (.long j0), .second, .val (.long j1), .second, .val (.long j2), .second, .val (.int p1), .val (.ref b2), .val (.long rr), .second, .val (.int kk), .val (.long lg), .second, .val (.ref b27), .val (.long j1), .second, .unset, .unset, .unset, .unset, .unset, .unset, .unset] [(.long lg), (.long j1)])) rfl (hb hby at_201) _ ?_
          show Steps p.tables e below (T39.setTop (mkF m 204 #[.val (.long j0), .second, .val (.long j1), .second, .val (.long j2), .second, .val (.int p1), .val (.ref b2), .val (.long rr), .second, .val (.int kk), .val (.long lg), .second, .val (.ref b27), .val (.long j1), .second, .unset, .unset, .unset, .unset, .unset, .unset, .unset] [(.long (20000000 : Int64)), (.long lg), (.long j1)])) _
          refine XS.lsub X39.here hx rfl (hb hby at_204) rfl ?_
          show Steps p.tables e below (T39.setTop (mkF m 205 #[.val (.long j0), .second, .val (.long j1), .second, .val (.long j2), .second, .val (.int p1), .val (.ref b2), .val (.long rr), .second, .val (.int kk), .val (.long lg), .second, .val (.ref b27), .val (.long j1), .second, .unset, .unset, .unset, .unset, .unset, .unset, .unset] [(.long (lg - (20000000 : Int64))), (.long j1)])) _
          refine XS.ladd X39.here hx rfl (hb hby at_205) rfl ?_
          show Steps p.tables e below (T39.setTop (mkF m 206 #[.val (.long j0), .second, .val (.long j1), .second, .val (.long j2), .second, .val (.int p1), .val (.ref b2), .val (.long rr), .second, .val (.int kk), .val (.long lg), .second, .val (.ref b27), .val (.long j1), .second, .unset, .unset, .unset, .unset, .unset, .unset, .unset] [(.long (j1 + (lg - (20000000 : Int64))))])) _
          refine XS.lstore X39.here hx rfl (hb hby at_206) rfl (l' := #[.val (.long j0), .second, .val (.long j1), .second, .val (.long j2), .second, .val (.int p1), .val (.ref b2), .val (.long rr), .second, .val (.int kk), .val (.long lg), .second, .val (.ref b27), .val (.long (j1 + (lg - (20000000 : Int64)))), .second, .unset, .unset, .unset, .unset, .unset, .unset, .unset]) rfl ?_
          exact kt
        refine Go.adv sg40 ?_
        by_cases hk2 : kk < (2 : Int32)
        · have hkv : kk.toInt = 1 := by have := (lt_iff 2).mp hk2; have q1 : (2 : Int32).toInt = 2 := rfl; have q2 : ¬ kk.toInt < 1 := fun q => hk1 ((lt_iff 1).mpr q); omega
          have hk3 : kk < (3 : Int32) := (lt_iff 3).mpr (by rw [hkv]; decide)
          have sg41 : ∀ t, Steps p.tables e below (T39.setTop (mkF m 234 #[.val (.long j0), .second, .val (.long j1), .second, .val (.long j2), .second, .val (.int p1), .val (.ref b2), .val (.long rr), .second, .val (.int kk), .val (.long lg), .second, .val (.ref b27), .val (.long (j1 + (lg - (20000000 : Int64)))), .second, .unset, .unset, .unset, .unset, .unset, .unset, .unset] [])) t → Steps p.tables e below (T39.setTop (mkF m 208 #[.val (.long j0), .second, .val (.long j1), .second, .val (.long j2), .second, .val (.int p1), .val (.ref b2), .val (.long rr), .second, .val (.int kk), .val (.long lg), .second, .val (.ref b27), .val (.long (j1 + (lg - (20000000 : Int64)))), .second, .unset, .unset, .unset, .unset, .unset, .unset, .unset] [])) t := by
            intro t kt
            show Steps p.tables e below (T39.setTop (mkF m 208 #[.val (.long j0), .second, .val (.long j1), .second, .val (.long j2), .second, .val (.int p1), .val (.ref b2), .val (.long rr), .second, .val (.int kk), .val (.long lg), .second, .val (.ref b27), .val (.long (j1 + (lg - (20000000 : Int64)))), .second, .unset, .unset, .unset, .unset, .unset, .unset, .unset] [])) _
            refine XS.iload X39.here hx rfl (hb hby at_208) rfl ?_
            show Steps p.tables e below (T39.setTop (mkF m 210 #[.val (.long j0), .second, .val (.long j1), .second, .val (.long j2), .second, .val (.int p1), .val (.ref b2), .val (.long rr), .second, .val (.int kk), .val (.long lg), .second, .val (.ref b27), .val (.long (j1 + (lg - (20000000 : Int64)))), .second, .unset, .unset, .unset, .unset, .unset, .unset, .unset] [(.int kk)])) _
            refine XS.iconst X39.here hx rfl (hb hby at_210) ?_
            show Steps p.tables e below (T39.setTop (mkF m 211 #[.val (.long j0), .second, .val (.long j1), .second, .val (.long j2), .second, .val (.int p1), .val (.ref b2), .val (.long rr), .second, .val (.int kk), .val (.long lg), .second, .val (.ref b27), .val (.long (j1 + (lg - (20000000 : Int64)))), .second, .unset, .unset, .unset, .unset, .unset, .unset, .unset] [(.int (2 : Int32)), (.int kk)])) _
            refine XS.icmpYes X39.here hx rfl (pc0 := 211) (pc' := 221) rfl (hb hby at_211) rfl (tlt (hk2 : kk < (2 : Int32))).1 (by decide) (by decide) ?_
            show Steps p.tables e below (T39.setTop (mkF m 221 #[.val (.long j0), .second, .val (.long j1), .second, .val (.long j2), .second, .val (.int p1), .val (.ref b2), .val (.long rr), .second, .val (.int kk), .val (.long lg), .second, .val (.ref b27), .val (.long (j1 + (lg - (20000000 : Int64)))), .second, .unset, .unset, .unset, .unset, .unset, .unset, .unset] [])) _
            refine XS.iload X39.here hx rfl (hb hby at_221) rfl ?_
            show Steps p.tables e below (T39.setTop (mkF m 223 #[.val (.long j0), .second, .val (.long j1), .second, .val (.long j2), .second, .val (.int p1), .val (.ref b2), .val (.long rr), .second, .val (.int kk), .val (.long lg), .second, .val (.ref b27), .val (.long (j1 + (lg - (20000000 : Int64)))), .second, .unset, .unset, .unset, .unset, .unset, .unset, .unset] [(.int kk)])) _
            refine XS.iconst X39.here hx rfl (hb hby at_223) ?_
            show Steps p.tables e below (T39.setTop (mkF m 224 #[.val (.long j0), .second, .val (.long j1), .second, .val (.long j2), .second, .val (.int p1), .val (.ref b2), .val (.long rr), .second, .val (.int kk), .val (.long lg), .second, .val (.ref b27), .val (.long (j1 + (lg - (20000000 : Int64)))), .second, .unset, .unset, .unset, .unset, .unset, .unset, .unset] [(.int (3 : Int32)), (.int kk)])) _
            refine XS.icmpYes X39.here hx rfl (pc0 := 224) (pc' := 234) rfl (hb hby at_224) rfl (tlt (hk3 : kk < (3 : Int32))).1 (by decide) (by decide) ?_
            exact kt
          refine Go.adv sg41 ?_
          exact tailB T39 _ T39.heap X39 rfl N39 Z39 (j1 + (lg - (20000000 : Int64))) ((0 : Int64) + (1 : Int64)) (by rw [hkv]; rfl) p39_0 p39_1 p39_2 p39_4
        · have ns1 := own_noshift (oo := (j1 + (lg - (20000000 : Int64)))) p1'
          have sg42 : ∀ t, Steps p.tables e below (T39.setTop (mkF m 218 #[.val (.long j0), .second, .val (.long j1), .second, .val (.long j2), .second, .val (.int p1), .val (.ref b2), .val (.long rr), .second, .val (.int kk), .val (.long lg), .second, .val (.ref b27), .val (.long (j1 + (lg - (20000000 : Int64)))), .second, .unset, .unset, .unset, .unset, .unset, .unset, .unset] [(.long (j1 + (lg - (20000000 : Int64)))), (.ref b27)])) t → Steps p.tables e below (T39.setTop (mkF m 208 #[.val (.long j0), .second, .val (.long j1), .second, .val (.long j2), .second, .val (.int p1), .val (.ref b2), .val (.long rr), .second, .val (.int kk), .val (.long lg), .second, .val (.ref b27), .val (.long (j1 + (lg - (20000000 : Int64)))), .second, .unset, .unset, .unset, .unset, .unset, .unset, .unset] [])) t := by
            intro t kt
            show Steps p.tables e below (T39.setTop (mkF m 208 #[.val (.long j0), .second, .val (.long j1), .second, .val (.long j2), .second, .val (.int p1), .val (.ref b2), .val (.long rr), .second, .val (.int kk), .val (.long lg), .second, .val (.ref b27), .val (.long (j1 + (lg - (20000000 : Int64)))), .second, .unset, .unset, .unset, .unset, .unset, .unset, .unset] [])) _
            refine XS.iload X39.here hx rfl (hb hby at_208) rfl ?_
            show Steps p.tables e below (T39.setTop (mkF m 210 #[.val (.long j0), .second, .val (.long j1), .second, .val (.long j2), .second, .val (.int p1), .val (.ref b2), .val (.long rr), .second, .val (.int kk), .val (.long lg), .second, .val (.ref b27), .val (.long (j1 + (lg - (20000000 : Int64)))), .second, .unset, .unset, .unset, .unset, .unset, .unset, .unset] [(.int kk)])) _
            refine XS.iconst X39.here hx rfl (hb hby at_210) ?_
            show Steps p.tables e below (T39.setTop (mkF m 211 #[.val (.long j0), .second, .val (.long j1), .second, .val (.long j2), .second, .val (.int p1), .val (.ref b2), .val (.long rr), .second, .val (.int kk), .val (.long lg), .second, .val (.ref b27), .val (.long (j1 + (lg - (20000000 : Int64)))), .second, .unset, .unset, .unset, .unset, .unset, .unset, .unset] [(.int (2 : Int32)), (.int kk)])) _
            refine XS.icmpNo X39.here hx rfl (hb hby at_211) rfl (flt (hk2 : ¬ (kk < (2 : Int32)))).1 ?_
            show Steps p.tables e below (T39.setTop (mkF m 214 #[.val (.long j0), .second, .val (.long j1), .second, .val (.long j2), .second, .val (.int p1), .val (.ref b2), .val (.long rr), .second, .val (.int kk), .val (.long lg), .second, .val (.ref b27), .val (.long (j1 + (lg - (20000000 : Int64)))), .second, .unset, .unset, .unset, .unset, .unset, .unset, .unset] [])) _
            refine XS.aload X39.here hx rfl (hb hby at_214) rfl rfl ?_
            show Steps p.tables e below (T39.setTop (mkF m 216 #[.val (.long j0), .second, .val (.long j1), .second, .val (.long j2), .second, .val (.int p1), .val (.ref b2), .val (.long rr), .second, .val (.int kk), .val (.long lg), .second, .val (.ref b27), .val (.long (j1 + (lg - (20000000 : Int64)))), .second, .unset, .unset, .unset, .unset, .unset, .unset, .unset] [(.ref b27)])) _
            refine XS.lload X39.here hx rfl (hb hby at_216) rfl ?_
            exact kt
          refine Go.adv sg42 ?_
          obtain ⟨cq43, kq43, q43a, q43b, q43c⟩ := isOf hZ rfl p39_0
          obtain ⟨_, _, ⟨T43, L43, k43, n43⟩, -, X43, ⟨Lc43, hQ43, l43, y43, z43⟩, st43⟩ := X39.virtualBack hx (y := (⟨"com/example/ballast/ballast/Pacer", "take", "(J)V"⟩ : MethodName)) (z := (⟨"com/example/ballast/ballast/Pacer", "take", "(J)V"⟩ : MethodName)) hown (mvT hZ (hw _ (List.mem_of_getElem? (i := 42) rfl))) (mvT hZ (hw _ (List.mem_of_getElem? (i := 43) rfl))) (notFace_of_selects (args := #[]) (mvT hZ (hw _ (List.mem_of_getElem? (i := 45) rfl)))) (mvT hZ (hw _ (List.mem_of_getElem? (i := 45) rfl))) (mvT hZ (hw _ (List.mem_of_getElem? (i := 44) rfl))) (by decide) (backOf (W := 0) (rm_take l Z a0 hw [] b27 (j1 + (lg - (20000000 : Int64))) (j1 + (lg - (20000000 : Int64))) ((0 : Int64) + (1 : Int64)) ((0 : Int64) + (1 : Int64)) (FP.ddiv (4741671816366391296 : UInt64) (FP.l2d rr)) (FP.d2l (FP.dmul (FP.l2d ((0 : Int64) + (1 : Int64))) (FP.ddiv (4741671816366391296 : UInt64) (FP.l2d rr)))) ((j1 + (lg - (20000000 : Int64))) - ((j1 + (lg - (20000000 : Int64))) + (FP.d2l (FP.dmul (FP.l2d ((0 : Int64) + (1 : Int64))) (FP.ddiv (4741671816366391296 : UInt64) (FP.l2d rr)))))) T39.heap n0 Z39 p39_0 g_b27 p39_1 p39_2 p39_3 p39_4 m1 rfl rfl) hZ (hw _ (List.mem_of_getElem? (i := 46) rfl)) (hw _ (List.mem_of_getElem? (i := 18) rfl)) (by decide) (by decide)) q43a q43c (g := (mkF m 218 #[.val (.long j0), .second, .val (.long j1), .second, .val (.long j2), .second, .val (.int p1), .val (.ref b2), .val (.long rr), .second, .val (.int kk), .val (.long lg), .second, .val (.ref b27), .val (.long (j1 + (lg - (20000000 : Int64)))), .second, .unset, .unset, .unset, .unset, .unset, .unset, .unset] [(.long (j1 + (lg - (20000000 : Int64)))), (.ref b27)])) rfl (by rw [hml]; rfl) (Steps.refl _) (argsL := [(.long (j1 + (lg - (20000000 : Int64))))]) (rest := []) (lenOf pd_oJcV rfl) rfl (by show 2 * 0 + _ ≤ _; exact Nat.le_of_eq rfl) (hb hby at_218) (fun _ _ => ⟨rfl, rfl, (by decide : 2 + 0 ≤ _), (by decide : 16 + 0 ≤ _)⟩)
          dsimp only [Pt.U, Pt.locs, Pt.cells, Pt.slots] at X43 l43 y43 z43 st43 hQ43
          subst l43 y43 z43
          obtain ⟨rfl, N43q, Kc43, p43_0, p43_1, p43_2, p43_3, p43_4⟩ := hQ43
          have N43 := Fr.app N39 N43q
          have K43 : Keep h0 T43.heap [] := K39.trans Kc43 (allS (Or.inr sz_b27) all0)
          have Z43 : n0 ≤ T43.heap.size := Nat.le_trans Z39 Kc43.1
          refine Go.tr st43 ?_
          show Go p.tables e below s _ _ _ (T43.setTop (mkF m 221 #[.val (.long j0), .second, .val (.long j1), .second, .val (.long j2), .second, .val (.int p1), .val (.ref b2), .val (.long rr), .second, .val (.int kk), .val (.long lg), .second, .val (.ref b27), .val (.long (j1 + (lg - (20000000 : Int64)))), .second, .unset, .unset, .unset, .unset, .unset, .unset, .unset] []))
          rw [ns1, Int64.add_zero] at p43_1
          by_cases hk3 : kk < (3 : Int32)
          · have hkv : kk.toInt = 2 := by have := (lt_iff 3).mp hk3; have q1 : (3 : Int32).toInt = 3 := rfl; have q2 : ¬ kk.toInt < 2 := fun q => hk2 ((lt_iff 2).mpr q); omega
            have sg44 : ∀ t, Steps p.tables e below (T43.setTop (mkF m 234 #[.val (.long j0), .second, .val (.long j1), .second, .val (.long j2), .second, .val (.int p1), .val (.ref b2), .val (.long rr), .second, .val (.int kk), .val (.long lg), .second, .val (.ref b27), .val (.long (j1 + (lg - (20000000 : Int64)))), .second, .unset, .unset, .unset, .unset, .unset, .unset, .unset] [])) t → Steps p.tables e below (T43.setTop (mkF m 221 #[.val (.long j0), .second, .val (.long j1), .second, .val (.long j2), .second, .val (.int p1), .val (.ref b2), .val (.long rr), .second, .val (.int kk), .val (.long lg), .second, .val (.ref b27), .val (.long (j1 + (lg - (20000000 : Int64)))), .second, .unset, .unset, .unset, .unset, .unset, .unset, .unset] [])) t := by
              intro t kt
              show Steps p.tables e below (T43.setTop (mkF m 221 #[.val (.long j0), .second, .val (.long j1), .second, .val (.long j2), .second, .val (.int p1), .val (.ref b2), .val (.long rr), .second, .val (.int kk), .val (.long lg), .second, .val (.ref b27), .val (.long (j1 + (lg - (20000000 : Int64)))), .second, .unset, .unset, .unset, .unset, .unset, .unset, .unset] [])) _
              refine XS.iload X43.here hx rfl (hb hby at_221) rfl ?_
              show Steps p.tables e below (T43.setTop (mkF m 223 #[.val (.long j0), .second, .val (.long j1), .second, .val (.long j2), .second, .val (.int p1), .val (.ref b2), .val (.long rr), .second, .val (.int kk), .val (.long lg), .second, .val (.ref b27), .val (.long (j1 + (lg - (20000000 : Int64)))), .second, .unset, .unset, .unset, .unset, .unset, .unset, .unset] [(.int kk)])) _
              refine XS.iconst X43.here hx rfl (hb hby at_223) ?_
              show Steps p.tables e below (T43.setTop (mkF m 224 #[.val (.long j0), .second, .val (.long j1), .second, .val (.long j2), .second, .val (.int p1), .val (.ref b2), .val (.long rr), .second, .val (.int kk), .val (.long lg), .second, .val (.ref b27), .val (.long (j1 + (lg - (20000000 : Int64)))), .second, .unset, .unset, .unset, .unset, .unset, .unset, .unset] [(.int (3 : Int32)), (.int kk)])) _
              refine XS.icmpYes X43.here hx rfl (pc0 := 224) (pc' := 234) rfl (hb hby at_224) rfl (tlt (hk3 : kk < (3 : Int32))).1 (by decide) (by decide) ?_
              exact kt
            refine Go.adv sg44 ?_
            exact tailB T43 _ T43.heap X43 rfl N43 Z43 (j1 + (lg - (20000000 : Int64))) (((0 : Int64) + (1 : Int64)) + (1 : Int64)) (by rw [hkv]; rfl) p43_0 p43_1 p43_2 p43_4
          · have hkv : kk.toInt = 3 := by have q2 : ¬ kk.toInt < 3 := fun q => hk3 ((lt_iff 3).mpr q); omega
            have ns2 := own_noshift (oo := (j1 + (lg - (20000000 : Int64)))) p2'
            have sg45 : ∀ t, Steps p.tables e below (T43.setTop (mkF m 231 #[.val (.long j0), .second, .val (.long j1), .second, .val (.long j2), .second, .val (.int p1), .val (.ref b2), .val (.long rr), .second, .val (.int kk), .val (.long lg), .second, .val (.ref b27), .val (.long (j1 + (lg - (20000000 : Int64)))), .second, .unset, .unset, .unset, .unset, .unset, .unset, .unset] [(.long (j1 + (lg - (20000000 : Int64)))), (.ref b27)])) t → Steps p.tables e below (T43.setTop (mkF m 221 #[.val (.long j0), .second, .val (.long j1), .second, .val (.long j2), .second, .val (.int p1), .val (.ref b2), .val (.long rr), .second, .val (.int kk), .val (.long lg), .second, .val (.ref b27), .val (.long (j1 + (lg - (20000000 : Int64)))), .second, .unset, .unset, .unset, .unset, .unset, .unset, .unset] [])) t := by
              intro t kt
              show Steps p.tables e below (T43.setTop (mkF m 221 #[.val (.long j0), .second, .val (.long j1), .second, .val (.long j2), .second, .val (.int p1), .val (.ref b2), .val (.long rr), .second, .val (.int kk), .val (.long lg), .second, .val (.ref b27), .val (.long (j1 + (lg - (20000000 : Int64)))), .second, .unset, .unset, .unset, .unset, .unset, .unset, .unset] [])) _
              refine XS.iload X43.here hx rfl (hb hby at_221) rfl ?_
              show Steps p.tables e below (T43.setTop (mkF m 223 #[.val (.long j0), .second, .val (.long j1), .second, .val (.long j2), .second, .val (.int p1), .val (.ref b2), .val (.long rr), .second, .val (.int kk), .val (.long lg), .second, .val (.ref b27), .val (.long (j1 + (lg - (20000000 : Int64)))), .second, .unset, .unset, .unset, .unset, .unset, .unset, .unset] [(.int kk)])) _
              refine XS.iconst X43.here hx rfl (hb hby at_223) ?_
              show Steps p.tables e below (T43.setTop (mkF m 224 #[.val (.long j0), .second, .val (.long j1), .second, .val (.long j2), .second, .val (.int p1), .val (.ref b2), .val (.long rr), .second, .val (.int kk), .val (.long lg), .second, .val (.ref b27), .val (.long (j1 + (lg - (20000000 : Int64)))), .second, .unset, .unset, .unset, .unset, .unset, .unset, .unset] [(.int (3 : Int32)), (.int kk)])) _
              refine XS.icmpNo X43.here hx rfl (hb hby at_224) rfl (flt (hk3 : ¬ (kk < (3 : Int32)))).1 ?_
              show Steps p.tables e below (T43.setTop (mkF m 227 #[.val (.long j0), .second, .val (.long j1), .second, .val (.long j2), .second, .val (.int p1), .val (.ref b2), .val (.long rr), .second, .val (.int kk), .val (.long lg), .second, .val (.ref b27), .val (.long (j1 + (lg - (20000000 : Int64)))), .second, .unset, .unset, .unset, .unset, .unset, .unset, .unset] [])) _
              refine XS.aload X43.here hx rfl (hb hby at_227) rfl rfl ?_
              show Steps p.tables e below (T43.setTop (mkF m 229 #[.val (.long j0), .second, .val (.long j1), .second, .val (.long j2), .second, .val (.int p1), .val (.ref b2), .val (.long rr), .second, .val (.int kk), .val (.long lg), .second, .val (.ref b27), .val (.long (j1 + (lg - (20000000 : Int64)))), .second, .unset, .unset, .unset, .unset, .unset, .unset, .unset] [(.ref b27)])) _
              refine XS.lload X43.here hx rfl (hb hby at_229) rfl ?_
              exact kt
            refine Go.adv sg45 ?_
            obtain ⟨cq46, kq46, q46a, q46b, q46c⟩ := isOf hZ rfl p43_0
            obtain ⟨_, _, ⟨T46, L46, k46, n46⟩, -, X46, ⟨Lc46, hQ46, l46, y46, z46⟩, st46⟩ := X43.virtualBack hx (y := (⟨"com/example/ballast/ballast/Pacer", "take", "(J)V"⟩ : MethodName)) (z := (⟨"com/example/ballast/ballast/Pacer", "take", "(J)V"⟩ : MethodName)) hown (mvT hZ (hw _ (List.mem_of_getElem? (i := 42) rfl))) (mvT hZ (hw _ (List.mem_of_getElem? (i := 43) rfl))) (notFace_of_selects (args := #[]) (mvT hZ (hw _ (List.mem_of_getElem? (i := 45) rfl)))) (mvT hZ (hw _ (List.mem_of_getElem? (i := 45) rfl))) (mvT hZ (hw _ (List.mem_of_getElem? (i := 44) rfl))) (by decide) (backOf (W := 0) (rm_take l Z a0 hw [] b27 (j1 + (lg - (20000000 : Int64))) (j1 + (lg - (20000000 : Int64))) (((0 : Int64) + (1 : Int64)) + (1 : Int64)) (((0 : Int64) + (1 : Int64)) + (1 : Int64)) (FP.ddiv (4741671816366391296 : UInt64) (FP.l2d rr)) (FP.d2l (FP.dmul (FP.l2d (((0 : Int64) + (1 : Int64)) + (1 : Int64))) (FP.ddiv (4741671816366391296 : UInt64) (FP.l2d rr)))) ((j1 + (lg - (20000000 : Int64))) - ((j1 + (lg - (20000000 : Int64))) + (FP.d2l (FP.dmul (FP.l2d (((0 : Int64) + (1 : Int64)) + (1 : Int64))) (FP.ddiv (4741671816366391296 : UInt64) (FP.l2d rr)))))) T43.heap n0 Z43 p43_0 g_b27 p43_1 p43_2 p43_3 p43_4 m2 rfl rfl) hZ (hw _ (List.mem_of_getElem? (i := 46) rfl)) (hw _ (List.mem_of_getElem? (i := 18) rfl)) (by decide) (by decide)) q46a q46c (g := (mkF m 231 #[.val (.long j0), .second, .val (.long j1), .second, .val (.long j2), .second, .val (.int p1), .val (.ref b2), .val (.long rr), .second, .val (.int kk), .val (.long lg), .second, .val (.ref b27), .val (.long (j1 + (lg - (20000000 : Int64)))), .second, .unset, .unset, .unset, .unset, .unset, .unset, .unset] [(.long (j1 + (lg - (20000000 : Int64)))), (.ref b27)])) rfl (by rw [hml]; rfl) (Steps.refl _) (argsL := [(.long (j1 + (lg - (20000000 : Int64))))]) (rest := []) (lenOf pd_oJcV rfl) rfl (by show 2 * 0 + _ ≤ _; exact Nat.le_of_eq rfl) (hb hby at_231) (fun _ _ => ⟨rfl, rfl, (by decide : 2 + 0 ≤ _), (by decide : 16 + 0 ≤ _)⟩)
            dsimp only [Pt.U, Pt.locs, Pt.cells, Pt.slots] at X46 l46 y46 z46 st46 hQ46
            subst l46 y46 z46
            obtain ⟨rfl, N46q, Kc46, p46_0, p46_1, p46_2, p46_3, p46_4⟩ := hQ46
            have N46 := Fr.app N43 N46q
            have K46 : Keep h0 T46.heap [] := K43.trans Kc46 (allS (Or.inr sz_b27) all0)
            have Z46 : n0 ≤ T46.heap.size := Nat.le_trans Z43 Kc46.1
            refine Go.tr st46 ?_
            show Go p.tables e below s _ _ _ (T46.setTop (mkF m 234 #[.val (.long j0), .second, .val (.long j1), .second, .val (.long j2), .second, .val (.int p1), .val (.ref b2), .val (.long rr), .second, .val (.int kk), .val (.long lg), .second, .val (.ref b27), .val (.long (j1 + (lg - (20000000 : Int64)))), .second, .unset, .unset, .unset, .unset, .unset, .unset, .unset] []))
            rw [ns2, Int64.add_zero] at p46_1
            exact tailB T46 _ T46.heap X46 rfl N46 Z46 (j1 + (lg - (20000000 : Int64))) ((((0 : Int64) + (1 : Int64)) + (1 : Int64)) + (1 : Int64)) (by rw [hkv]; rfl) p46_0 p46_1 p46_2 p46_4
      · rw [own_shift_b hc, Int64.add_zero] at p39_1
        have sg47 : ∀ t, Steps p.tables e below (T39.setTop (mkF m 208 #[.val (.long j0), .second, .val (.long j1), .second, .val (.long j2), .second, .val (.int p1), .val (.ref b2), .val (.long rr), .second, .val (.int kk), .val (.long lg), .second, .val (.ref b27), .val (.long j1), .second, .unset, .unset, .unset, .unset, .unset, .unset, .unset] [])) t → Steps p.tables e below (T39.setTop (mkF m 189 #[.val (.long j0), .second, .val (.long j1), .second, .val (.long j2), .second, .val (.int p1), .val (.ref b2), .val (.long rr), .second, .val (.int kk), .val (.long lg), .second, .val (.ref b27), .val (.long j1), .second, .unset, .unset, .unset, .unset, .unset, .unset, .unset] [])) t := by
          intro t kt
          show Steps p.tables e below (T39.setTop (mkF m 189 #[.val (.long j0), .second, .val (.long j1), .second, .val (.long j2), .second, .val (.int p1), .val (.ref b2), .val (.long rr), .second, .val (.int kk), .val (.long lg), .second, .val (.ref b27), .val (.long j1), .second, .unset, .unset, .unset, .unset, .unset, .unset, .unset] [])) _
          refine XS.lload X39.here hx rfl (hb hby at_189) rfl ?_
          show Steps p.tables e below (T39.setTop (mkF m 191 #[.val (.long j0), .second, .val (.long j1), .second, .val (.long j2), .second, .val (.int p1), .val (.ref b2), .val (.long rr), .second, .val (.int kk), .val (.long lg), .second, .val (.ref b27), .val (.long j1), .second, .unset, .unset, .unset, .unset, .unset, .unset, .unset] [(.long lg)])) _
          refine X39.ldc2Long hx hown (mvT hZ (hw _ (List.mem_of_getElem? (i := 51) rfl))) (g := (mkF m 191 #[.val (.long j0), .second, .val (.long j1), .second, .val (.long j2), .second, .val (.int p1), .val (.ref b2), .val (.long rr), .second, .val (.int kk), .val (.long lg), .second, .val (.ref b27), .val (.long j1), .second, .unset, .unset, .unset, .unset, .unset, .unset, .unset] [(.long lg)])) rfl (hb hby at_191) _ ?_
          show Steps p.tables e below (T39.setTop (mkF m 194 #[.val (.long j0), .second, .val (.long j1), .second, .val (.long j2), .second, .val (.int p1), .val (.ref b2), .val (.long rr), .second, .val (.int kk), .val (.long lg), .second, .val (.ref b27), .val (.long j1), .second, .unset, .unset, .unset, .unset, .unset, .unset, .unset] [(.long (20000000 : Int64)), (.long lg)])) _
          refine XS.lcmp X39.here hx rfl (hb hby at_194) rfl ?_
          show Steps p.tables e below (T39.setTop (mkF m 195 #[.val (.long j0), .second, .val (.long j1), .second, .val (.long j2), .second, .val (.int p1), .val (.ref b2), .val (.long rr), .second, .val (.int kk), .val (.long lg), .second, .val (.ref b27), .val (.long j1), .second, .unset, .unset, .unset, .unset, .unset, .unset, .unset] [(.int (lcmpW lg (20000000 : Int64)))])) _
          refine XS.ifYes X39.here hx rfl (pc0 := 195) (pc' := 208) rfl (hb hby at_195) rfl ((if0 _ _).trans (flt (own_lc_ngt hc : ¬ ((0 : Int32) < (lcmpW lg (20000000 : Int64))))).2.2.2) (by decide) (by decide) ?_
          exact kt
        refine Go.adv sg47 ?_
        by_cases hk2 : kk < (2 : Int32)
        · have hkv : kk.toInt = 1 := by have := (lt_iff 2).mp hk2; have q1 : (2 : Int32).toInt = 2 := rfl; have q2 : ¬ kk.toInt < 1 := fun q => hk1 ((lt_iff 1).mpr q); omega
          have hk3 : kk < (3 : Int32) := (lt_iff 3).mpr (by rw [hkv]; decide)
          have sg48 : ∀ t, Steps p.tables e below (T39.setTop (mkF m 234 #[.val (.long j0), .second, .val (.long j1), .second, .val (.long j2), .second, .val (.int p1), .val (.ref b2), .val (.long rr), .second, .val (.int kk), .val (.long lg), .second, .val (.ref b27), .val (.long j1), .second, .unset, .unset, .unset, .unset, .unset, .unset, .unset] [])) t → Steps p.tables e below (T39.setTop (mkF m 208 #[.val (.long j0), .second, .val (.long j1), .second, .val (.long j2), .second, .val (.int p1), .val (.ref b2), .val (.long rr), .second, .val (.int kk), .val (.long lg), .second, .val (.ref b27), .val (.long j1), .second, .unset, .unset, .unset, .unset, .unset, .unset, .unset] [])) t := by
            intro t kt
            show Steps p.tables e below (T39.setTop (mkF m 208 #[.val (.long j0), .second, .val (.long j1), .second, .val (.long j2), .second, .val (.int p1), .val (.ref b2), .val (.long rr), .second, .val (.int kk), .val (.long lg), .second, .val (.ref b27), .val (.long j1), .second, .unset, .unset, .unset, .unset, .unset, .unset, .unset] [])) _
            refine XS.iload X39.here hx rfl (hb hby at_208) rfl ?_
            show Steps p.tables e below (T39.setTop (mkF m 210 #[.val (.long j0), .second, .val (.long j1), .second, .val (.long j2), .second, .val (.int p1), .val (.ref b2), .val (.long rr), .second, .val (.int kk), .val (.long lg), .second, .val (.ref b27), .val (.long j1), .second, .unset, .unset, .unset, .unset, .unset, .unset, .unset] [(.int kk)])) _
            refine XS.iconst X39.here hx rfl (hb hby at_210) ?_
            show Steps p.tables e below (T39.setTop (mkF m 211 #[.val (.long j0), .second, .val (.long j1), .second, .val (.long j2), .second, .val (.int p1), .val (.ref b2), .val (.long rr), .second, .val (.int kk), .val (.long lg), .second, .val (.ref b27), .val (.long j1), .second, .unset, .unset, .unset, .unset, .unset, .unset, .unset] [(.int (2 : Int32)), (.int kk)])) _
            refine XS.icmpYes X39.here hx rfl (pc0 := 211) (pc' := 221) rfl (hb hby at_211) rfl (tlt (hk2 : kk < (2 : Int32))).1 (by decide) (by decide) ?_
            show Steps p.tables e below (T39.setTop (mkF m 221 #[.val (.long j0), .second, .val (.long j1), .second, .val (.long j2), .second, .val (.int p1), .val (.ref b2), .val (.long rr), .second, .val (.int kk), .val (.long lg), .second, .val (.ref b27), .val (.long j1), .second, .unset, .unset, .unset, .unset, .unset, .unset, .unset] [])) _
            refine XS.iload X39.here hx rfl (hb hby at_221) rfl ?_
            show Steps p.tables e below (T39.setTop (mkF m 223 #[.val (.long j0), .second, .val (.long j1), .second, .val (.long j2), .second, .val (.int p1), .val (.ref b2), .val (.long rr), .second, .val (.int kk), .val (.long lg), .second, .val (.ref b27), .val (.long j1), .second, .unset, .unset, .unset, .unset, .unset, .unset, .unset] [(.int kk)])) _
            refine XS.iconst X39.here hx rfl (hb hby at_223) ?_
            show Steps p.tables e below (T39.setTop (mkF m 224 #[.val (.long j0), .second, .val (.long j1), .second, .val (.long j2), .second, .val (.int p1), .val (.ref b2), .val (.long rr), .second, .val (.int kk), .val (.long lg), .second, .val (.ref b27), .val (.long j1), .second, .unset, .unset, .unset, .unset, .unset, .unset, .unset] [(.int (3 : Int32)), (.int kk)])) _
            refine XS.icmpYes X39.here hx rfl (pc0 := 224) (pc' := 234) rfl (hb hby at_224) rfl (tlt (hk3 : kk < (3 : Int32))).1 (by decide) (by decide) ?_
            exact kt
          refine Go.adv sg48 ?_
          exact tailB T39 _ T39.heap X39 rfl N39 Z39 j1 ((0 : Int64) + (1 : Int64)) (by rw [hkv]; rfl) p39_0 p39_1 p39_2 p39_4
        · have ns1 := own_noshift (oo := j1) p1'
          have sg49 : ∀ t, Steps p.tables e below (T39.setTop (mkF m 218 #[.val (.long j0), .second, .val (.long j1), .second, .val (.long j2), .second, .val (.int p1), .val (.ref b2), .val (.long rr), .second, .val (.int kk), .val (.long lg), .second, .val (.ref b27), .val (.long j1), .second, .unset, .unset, .unset, .unset, .unset, .unset, .unset] [(.long j1), (.ref b27)])) t → Steps p.tables e below (T39.setTop (mkF m 208 #[.val (.long j0), .second, .val (.long j1), .second, .val (.long j2), .second, .val (.int p1), .val (.ref b2), .val (.long rr), .second, .val (.int kk), .val (.long lg), .second, .val (.ref b27), .val (.long j1), .second, .unset, .unset, .unset, .unset, .unset, .unset, .unset] [])) t := by
            intro t kt
            show Steps p.tables e below (T39.setTop (mkF m 208 #[.val (.long j0), .second, .val (.long j1), .second, .val (.long j2), .second, .val (.int p1), .val (.ref b2), .val (.long rr), .second, .val (.int kk), .val (.long lg), .second, .val (.ref b27), .val (.long j1), .second, .unset, .unset, .unset, .unset, .unset, .unset, .unset] [])) _
            refine XS.iload X39.here hx rfl (hb hby at_208) rfl ?_
            show Steps p.tables e below (T39.setTop (mkF m 210 #[.val (.long j0), .second, .val (.long j1), .second, .val (.long j2), .second, .val (.int p1), .val (.ref b2), .val (.long rr), .second, .val (.int kk), .val (.long lg), .second, .val (.ref b27), .val (.long j1), .second, .unset, .unset, .unset, .unset, .unset, .unset, .unset] [(.int kk)])) _
            refine XS.iconst X39.here hx rfl (hb hby at_210) ?_
            show Steps p.tables e below (T39.setTop (mkF m 211 #[.val (.long j0), .second, .val (.long j1), .second, .val (.long j2), .second, .val (.int p1), .val (.ref b2), .val (.long rr), .second, .val (.int kk), .val (.long lg), .second, .val (.ref b27), .val (.long j1), .second, .unset, .unset, .unset, .unset, .unset, .unset, .unset] [(.int (2 : Int32)), (.int kk)])) _
            refine XS.icmpNo X39.here hx rfl (hb hby at_211) rfl (flt (hk2 : ¬ (kk < (2 : Int32)))).1 ?_
            show Steps p.tables e below (T39.setTop (mkF m 214 #[.val (.long j0), .second, .val (.long j1), .second, .val (.long j2), .second, .val (.int p1), .val (.ref b2), .val (.long rr), .second, .val (.int kk), .val (.long lg), .second, .val (.ref b27), .val (.long j1), .second, .unset, .unset, .unset, .unset, .unset, .unset, .unset] [])) _
            refine XS.aload X39.here hx rfl (hb hby at_214) rfl rfl ?_
            show Steps p.tables e below (T39.setTop (mkF m 216 #[.val (.long j0), .second, .val (.long j1), .second, .val (.long j2), .second, .val (.int p1), .val (.ref b2), .val (.long rr), .second, .val (.int kk), .val (.long lg), .second, .val (.ref b27), .val (.long j1), .second, .unset, .unset, .unset, .unset, .unset, .unset, .unset] [(.ref b27)])) _
            refine XS.lload X39.here hx rfl (hb hby at_216) rfl ?_
            exact kt
          refine Go.adv sg49 ?_
          obtain ⟨cq50, kq50, q50a, q50b, q50c⟩ := isOf hZ rfl p39_0
          obtain ⟨_, _, ⟨T50, L50, k50, n50⟩, -, X50, ⟨Lc50, hQ50, l50, y50, z50⟩, st50⟩ := X39.virtualBack hx (y := (⟨"com/example/ballast/ballast/Pacer", "take", "(J)V"⟩ : MethodName)) (z := (⟨"com/example/ballast/ballast/Pacer", "take", "(J)V"⟩ : MethodName)) hown (mvT hZ (hw _ (List.mem_of_getElem? (i := 42) rfl))) (mvT hZ (hw _ (List.mem_of_getElem? (i := 43) rfl))) (notFace_of_selects (args := #[]) (mvT hZ (hw _ (List.mem_of_getElem? (i := 45) rfl)))) (mvT hZ (hw _ (List.mem_of_getElem? (i := 45) rfl))) (mvT hZ (hw _ (List.mem_of_getElem? (i := 44) rfl))) (by decide) (backOf (W := 0) (rm_take l Z a0 hw [] b27 j1 j1 ((0 : Int64) + (1 : Int64)) ((0 : Int64) + (1 : Int64)) (FP.ddiv (4741671816366391296 : UInt64) (FP.l2d rr)) (FP.d2l (FP.dmul (FP.l2d ((0 : Int64) + (1 : Int64))) (FP.ddiv (4741671816366391296 : UInt64) (FP.l2d rr)))) (j1 - (j1 + (FP.d2l (FP.dmul (FP.l2d ((0 : Int64) + (1 : Int64))) (FP.ddiv (4741671816366391296 : UInt64) (FP.l2d rr)))))) T39.heap n0 Z39 p39_0 g_b27 p39_1 p39_2 p39_3 p39_4 m1 rfl rfl) hZ (hw _ (List.mem_of_getElem? (i := 46) rfl)) (hw _ (List.mem_of_getElem? (i := 18) rfl)) (by decide) (by decide)) q50a q50c (g := (mkF m 218 #[.val (.long j0), .second, .val (.long j1), .second, .val (.long j2), .second, .val (.int p1), .val (.ref b2), .val (.long rr), .second, .val (.int kk), .val (.long lg), .second, .val (.ref b27), .val (.long j1), .second, .unset, .unset, .unset, .unset, .unset, .unset, .unset] [(.long j1), (.ref b27)])) rfl (by rw [hml]; rfl) (Steps.refl _) (argsL := [(.long j1)]) (rest := []) (lenOf pd_oJcV rfl) rfl (by show 2 * 0 + _ ≤ _; exact Nat.le_of_eq rfl) (hb hby at_218) (fun _ _ => ⟨rfl, rfl, (by decide : 2 + 0 ≤ _), (by decide : 16 + 0 ≤ _)⟩)
          dsimp only [Pt.U, Pt.locs, Pt.cells, Pt.slots] at X50 l50 y50 z50 st50 hQ50
          subst l50 y50 z50
          obtain ⟨rfl, N50q, Kc50, p50_0, p50_1, p50_2, p50_3, p50_4⟩ := hQ50
          have N50 := Fr.app N39 N50q
          have K50 : Keep h0 T50.heap [] := K39.trans Kc50 (allS (Or.inr sz_b27) all0)
          have Z50 : n0 ≤ T50.heap.size := Nat.le_trans Z39 Kc50.1
          refine Go.tr st50 ?_
          show Go p.tables e below s _ _ _ (T50.setTop (mkF m 221 #[.val (.long j0), .second, .val (.long j1), .second, .val (.long j2), .second, .val (.int p1), .val (.ref b2), .val (.long rr), .second, .val (.int kk), .val (.long lg), .second, .val (.ref b27), .val (.long j1), .second, .unset, .unset, .unset, .unset, .unset, .unset, .unset] []))
          rw [ns1, Int64.add_zero] at p50_1
          by_cases hk3 : kk < (3 : Int32)
          · have hkv : kk.toInt = 2 := by have := (lt_iff 3).mp hk3; have q1 : (3 : Int32).toInt = 3 := rfl; have q2 : ¬ kk.toInt < 2 := fun q => hk2 ((lt_iff 2).mpr q); omega
            have sg51 : ∀ t, Steps p.tables e below (T50.setTop (mkF m 234 #[.val (.long j0), .second, .val (.long j1), .second, .val (.long j2), .second, .val (.int p1), .val (.ref b2), .val (.long rr), .second, .val (.int kk), .val (.long lg), .second, .val (.ref b27), .val (.long j1), .second, .unset, .unset, .unset, .unset, .unset, .unset, .unset] [])) t → Steps p.tables e below (T50.setTop (mkF m 221 #[.val (.long j0), .second, .val (.long j1), .second, .val (.long j2), .second, .val (.int p1), .val (.ref b2), .val (.long rr), .second, .val (.int kk), .val (.long lg), .second, .val (.ref b27), .val (.long j1), .second, .unset, .unset, .unset, .unset, .unset, .unset, .unset] [])) t := by
              intro t kt
              show Steps p.tables e below (T50.setTop (mkF m 221 #[.val (.long j0), .second, .val (.long j1), .second, .val (.long j2), .second, .val (.int p1), .val (.ref b2), .val (.long rr), .second, .val (.int kk), .val (.long lg), .second, .val (.ref b27), .val (.long j1), .second, .unset, .unset, .unset, .unset, .unset, .unset, .unset] [])) _
              refine XS.iload X50.here hx rfl (hb hby at_221) rfl ?_
              show Steps p.tables e below (T50.setTop (mkF m 223 #[.val (.long j0), .second, .val (.long j1), .second, .val (.long j2), .second, .val (.int p1), .val (.ref b2), .val (.long rr), .second, .val (.int kk), .val (.long lg), .second, .val (.ref b27), .val (.long j1), .second, .unset, .unset, .unset, .unset, .unset, .unset, .unset] [(.int kk)])) _
              refine XS.iconst X50.here hx rfl (hb hby at_223) ?_
              show Steps p.tables e below (T50.setTop (mkF m 224 #[.val (.long j0), .second, .val (.long j1), .second, .val (.long j2), .second, .val (.int p1), .val (.ref b2), .val (.long rr), .second, .val (.int kk), .val (.long lg), .second, .val (.ref b27), .val (.long j1), .second, .unset, .unset, .unset, .unset, .unset, .unset, .unset] [(.int (3 : Int32)), (.int kk)])) _
              refine XS.icmpYes X50.here hx rfl (pc0 := 224) (pc' := 234) rfl (hb hby at_224) rfl (tlt (hk3 : kk < (3 : Int32))).1 (by decide) (by decide) ?_
              exact kt
            refine Go.adv sg51 ?_
            exact tailB T50 _ T50.heap X50 rfl N50 Z50 j1 (((0 : Int64) + (1 : Int64)) + (1 : Int64)) (by rw [hkv]; rfl) p50_0 p50_1 p50_2 p50_4
          · have hkv : kk.toInt = 3 := by have q2 : ¬ kk.toInt < 3 := fun q => hk3 ((lt_iff 3).mpr q); omega
            have ns2 := own_noshift (oo := j1) p2'
            have sg52 : ∀ t, Steps p.tables e below (T50.setTop (mkF m 231 #[.val (.long j0), .second, .val (.long j1), .second, .val (.long j2), .second, .val (.int p1), .val (.ref b2), .val (.long rr), .second, .val (.int kk), .val (.long lg), .second, .val (.ref b27), .val (.long j1), .second, .unset, .unset, .unset, .unset, .unset, .unset, .unset] [(.long j1), (.ref b27)])) t → Steps p.tables e below (T50.setTop (mkF m 221 #[.val (.long j0), .second, .val (.long j1), .second, .val (.long j2), .second, .val (.int p1), .val (.ref b2), .val (.long rr), .second, .val (.int kk), .val (.long lg), .second, .val (.ref b27), .val (.long j1), .second, .unset, .unset, .unset, .unset, .unset, .unset, .unset] [])) t := by
              intro t kt
              show Steps p.tables e below (T50.setTop (mkF m 221 #[.val (.long j0), .second, .val (.long j1), .second, .val (.long j2), .second, .val (.int p1), .val (.ref b2), .val (.long rr), .second, .val (.int kk), .val (.long lg), .second, .val (.ref b27), .val (.long j1), .second, .unset, .unset, .unset, .unset, .unset, .unset, .unset] [])) _
              refine XS.iload X50.here hx rfl (hb hby at_221) rfl ?_
              show Steps p.tables e below (T50.setTop (mkF m 223 #[.val (.long j0), .second, .val (.long j1), .second, .val (.long j2), .second, .val (.int p1), .val (.ref b2), .val (.long rr), .second, .val (.int kk), .val (.long lg), .second, .val (.ref b27), .val (.long j1), .second, .unset, .unset, .unset, .unset, .unset, .unset, .unset] [(.int kk)])) _
              refine XS.iconst X50.here hx rfl (hb hby at_223) ?_
              show Steps p.tables e below (T50.setTop (mkF m 224 #[.val (.long j0), .second, .val (.long j1), .second, .val (.long j2), .second, .val (.int p1), .val (.ref b2), .val (.long rr), .second, .val (.int kk), .val (.long lg), .second, .val (.ref b27), .val (.long j1), .second, .unset, .unset, .unset, .unset, .unset, .unset, .unset] [(.int (3 : Int32)), (.int kk)])) _
              refine XS.icmpNo X50.here hx rfl (hb hby at_224) rfl (flt (hk3 : ¬ (kk < (3 : Int32)))).1 ?_
              show Steps p.tables e below (T50.setTop (mkF m 227 #[.val (.long j0), .second, .val (.long j1), .second, .val (.long j2), .second, .val (.int p1), .val (.ref b2), .val (.long rr), .second, .val (.int kk), .val (.long lg), .second, .val (.ref b27), .val (.long j1), .second, .unset, .unset, .unset, .unset, .unset, .unset, .unset] [])) _
              refine XS.aload X50.here hx rfl (hb hby at_227) rfl rfl ?_
              show Steps p.tables e below (T50.setTop (mkF m 229 #[.val (.long j0), .second, .val (.long j1), .second, .val (.long j2), .second, .val (.int p1), .val (.ref b2), .val (.long rr), .second, .val (.int kk), .val (.long lg), .second, .val (.ref b27), .val (.long j1), .second, .unset, .unset, .unset, .unset, .unset, .unset, .unset] [(.ref b27)])) _
              refine XS.lload X50.here hx rfl (hb hby at_229) rfl ?_
              exact kt
            refine Go.adv sg52 ?_
            obtain ⟨cq53, kq53, q53a, q53b, q53c⟩ := isOf hZ rfl p50_0
            obtain ⟨_, _, ⟨T53, L53, k53, n53⟩, -, X53, ⟨Lc53, hQ53, l53, y53, z53⟩, st53⟩ := X50.virtualBack hx (y := (⟨"com/example/ballast/ballast/Pacer", "take", "(J)V"⟩ : MethodName)) (z := (⟨"com/example/ballast/ballast/Pacer", "take", "(J)V"⟩ : MethodName)) hown (mvT hZ (hw _ (List.mem_of_getElem? (i := 42) rfl))) (mvT hZ (hw _ (List.mem_of_getElem? (i := 43) rfl))) (notFace_of_selects (args := #[]) (mvT hZ (hw _ (List.mem_of_getElem? (i := 45) rfl)))) (mvT hZ (hw _ (List.mem_of_getElem? (i := 45) rfl))) (mvT hZ (hw _ (List.mem_of_getElem? (i := 44) rfl))) (by decide) (backOf (W := 0) (rm_take l Z a0 hw [] b27 j1 j1 (((0 : Int64) + (1 : Int64)) + (1 : Int64)) (((0 : Int64) + (1 : Int64)) + (1 : Int64)) (FP.ddiv (4741671816366391296 : UInt64) (FP.l2d rr)) (FP.d2l (FP.dmul (FP.l2d (((0 : Int64) + (1 : Int64)) + (1 : Int64))) (FP.ddiv (4741671816366391296 : UInt64) (FP.l2d rr)))) (j1 - (j1 + (FP.d2l (FP.dmul (FP.l2d (((0 : Int64) + (1 : Int64)) + (1 : Int64))) (FP.ddiv (4741671816366391296 : UInt64) (FP.l2d rr)))))) T50.heap n0 Z50 p50_0 g_b27 p50_1 p50_2 p50_3 p50_4 m2 rfl rfl) hZ (hw _ (List.mem_of_getElem? (i := 46) rfl)) (hw _ (List.mem_of_getElem? (i := 18) rfl)) (by decide) (by decide)) q53a q53c (g := (mkF m 231 #[.val (.long j0), .second, .val (.long j1), .second, .val (.long j2), .second, .val (.int p1), .val (.ref b2), .val (.long rr), .second, .val (.int kk), .val (.long lg), .second, .val (.ref b27), .val (.long j1), .second, .unset, .unset, .unset, .unset, .unset, .unset, .unset] [(.long j1), (.ref b27)])) rfl (by rw [hml]; rfl) (Steps.refl _) (argsL := [(.long j1)]) (rest := []) (lenOf pd_oJcV rfl) rfl (by show 2 * 0 + _ ≤ _; exact Nat.le_of_eq rfl) (hb hby at_231) (fun _ _ => ⟨rfl, rfl, (by decide : 2 + 0 ≤ _), (by decide : 16 + 0 ≤ _)⟩)
            dsimp only [Pt.U, Pt.locs, Pt.cells, Pt.slots] at X53 l53 y53 z53 st53 hQ53
            subst l53 y53 z53
            obtain ⟨rfl, N53q, Kc53, p53_0, p53_1, p53_2, p53_3, p53_4⟩ := hQ53
            have N53 := Fr.app N50 N53q
            have K53 : Keep h0 T53.heap [] := K50.trans Kc53 (allS (Or.inr sz_b27) all0)
            have Z53 : n0 ≤ T53.heap.size := Nat.le_trans Z50 Kc53.1
            refine Go.tr st53 ?_
            show Go p.tables e below s _ _ _ (T53.setTop (mkF m 234 #[.val (.long j0), .second, .val (.long j1), .second, .val (.long j2), .second, .val (.int p1), .val (.ref b2), .val (.long rr), .second, .val (.int kk), .val (.long lg), .second, .val (.ref b27), .val (.long j1), .second, .unset, .unset, .unset, .unset, .unset, .unset, .unset] []))
            rw [ns2, Int64.add_zero] at p53_1
            exact tailB T53 _ T53.heap X53 rfl N53 Z53 j1 ((((0 : Int64) + (1 : Int64)) + (1 : Int64)) + (1 : Int64)) (by rw [hkv]; rfl) p53_0 p53_1 p53_2 p53_4
  by_cases hm : (p1 &&& (1 : Int32)) = (0 : Int32)
  · have sg54 : ∀ t, Steps p.tables e below (T22.setTop (mkF m 112 #[.val (.long j0), .second, .val (.long j1), .second, .val (.long j2), .second, .val (.int p1), .val (.ref b2), .unset, .unset, .unset, .unset, .unset, .unset, .unset, .unset, .unset, .unset, .unset, .unset, .unset, .unset, .unset] [(.long (j0 &&& (9223372036854775807 : Int64))), (.long (1 : Int64))])) t → Steps p.tables e below (T22.setTop (mkF m 68 #[.val (.long j0), .second, .val (.long j1), .second, .val (.long j2), .second, .val (.int p1), .val (.ref b2), .unset, .unset, .unset, .unset, .unset, .unset, .unset, .unset, .unset, .unset, .unset, .unset, .unset, .unset, .unset] [])) t := by
      intro t kt
      show Steps p.tables e below (T22.setTop (mkF m 68 #[.val (.long j0), .second, .val (.long j1), .second, .val (.long j2), .second, .val (.int p1), .val (.ref b2), .unset, .unset, .unset, .unset, .unset, .unset, .unset, .unset, .unset, .unset, .unset, .unset, .unset, .unset, .unset] [])) _
      refine XS.iload XH1.here hx rfl (hb hby at_68) rfl ?_
      show Steps p.tables e below (T22.setTop (mkF m 70 #[.val (.long j0), .second, .val (.long j1), .second, .val (.long j2), .second, .val (.int p1), .val (.ref b2), .unset, .unset, .unset, .unset, .unset, .unset, .unset, .unset, .unset, .unset, .unset, .unset, .unset, .unset, .unset] [(.int p1)])) _
      refine XS.iconst XH1.here hx rfl (hb hby at_70) ?_
      show Steps p.tables e below (T22.setTop (mkF m 71 #[.val (.long j0), .second, .val (.long j1), .second, .val (.long j2), .second, .val (.int p1), .val (.ref b2), .unset, .unset, .unset, .unset, .unset, .unset, .unset, .unset, .unset, .unset, .unset, .unset, .unset, .unset, .unset] [(.int (1 : Int32)), (.int p1)])) _
      refine XS.iand XH1.here hx rfl (hb hby at_71) rfl ?_
      show Steps p.tables e below (T22.setTop (mkF m 72 #[.val (.long j0), .second, .val (.long j1), .second, .val (.long j2), .second, .val (.int p1), .val (.ref b2), .unset, .unset, .unset, .unset, .unset, .unset, .unset, .unset, .unset, .unset, .unset, .unset, .unset, .unset, .unset] [(.int (p1 &&& (1 : Int32)))])) _
      refine XS.ifYes XH1.here hx rfl (pc0 := 72) (pc' := 106) rfl (hb hby at_72) rfl ((if0 _ _).trans (teq (hm : (p1 &&& (1 : Int32)) = (0 : Int32))).1) (by decide) (by decide) ?_
      show Steps p.tables e below (T22.setTop (mkF m 106 #[.val (.long j0), .second, .val (.long j1), .second, .val (.long j2), .second, .val (.int p1), .val (.ref b2), .unset, .unset, .unset, .unset, .unset, .unset, .unset, .unset, .unset, .unset, .unset, .unset, .unset, .unset, .unset] [])) _
      refine XS.lconst XH1.here hx rfl (hb hby at_106) ?_
      show Steps p.tables e below (T22.setTop (mkF m 107 #[.val (.long j0), .second, .val (.long j1), .second, .val (.long j2), .second, .val (.int p1), .val (.ref b2), .unset, .unset, .unset, .unset, .unset, .unset, .unset, .unset, .unset, .unset, .unset, .unset, .unset, .unset, .unset] [(.long (1 : Int64))])) _
      refine XS.lloadN XH1.here hx rfl (hb hby at_107) rfl ?_
      show Steps p.tables e below (T22.setTop (mkF m 108 #[.val (.long j0), .second, .val (.long j1), .second, .val (.long j2), .second, .val (.int p1), .val (.ref b2), .unset, .unset, .unset, .unset, .unset, .unset, .unset, .unset, .unset, .unset, .unset, .unset, .unset, .unset, .unset] [(.long j0), (.long (1 : Int64))])) _
      refine XH1.ldc2Long hx hown (mvT hZ (hw _ (List.mem_of_getElem? (i := 10) rfl))) (g := (mkF m 108 #[.val (.long j0), .second, .val (.long j1), .second, .val (.long j2), .second, .val (.int p1), .val (.ref b2), .unset, .unset, .unset, .unset, .unset, .unset, .unset, .unset, .unset, .unset, .unset, .unset, .unset, .unset, .unset] [(.long j0), (.long (1 : Int64))])) rfl (hb hby at_108) _ ?_
      show Steps p.tables e below (T22.setTop (mkF m 111 #[.val (.long j0), .second, .val (.long j1), .second, .val (.long j2), .second, .val (.int p1), .val (.ref b2), .unset, .unset, .unset, .unset, .unset, .unset, .unset, .unset, .unset, .unset, .unset, .unset, .unset, .unset, .unset] [(.long (9223372036854775807 : Int64)), (.long j0), (.long (1 : Int64))])) _
      refine XS.land XH1.here hx rfl (hb hby at_111) rfl ?_
      exact kt
    refine Go.adv sg54 ?_
    obtain ⟨_, _, ⟨T55, L55, k55, n55⟩, -, X55, ⟨Lc55, hQ55, l55, y55, z55⟩, st55⟩ := Jvm.LawKit.callS XH1 hx (y := (⟨"java/lang/Math", "max", "(JJ)J"⟩ : MethodName)) hown (mvT hZ (hw _ (List.mem_of_getElem? (i := 11) rfl))) (mvT hZ (hw _ (List.mem_of_getElem? (i := 12) rfl))) (mvT hZ (hw _ (List.mem_of_getElem? (i := 13) rfl))) (mvT hZ (hw _ (List.mem_of_getElem? (i := 14) rfl))) (by decide) (backOf (W := 0) (rm_max l Z a0 hw [] (1 : Int64) (j0 &&& (9223372036854775807 : Int64))  h22 n0 Z22 ) hZ (hw _ (List.mem_of_getElem? (i := 14) rfl)) (hw _ (List.mem_of_getElem? (i := 13) rfl)) (by decide) (by decide)) (g := (mkF m 112 #[.val (.long j0), .second, .val (.long j1), .second, .val (.long j2), .second, .val (.int p1), .val (.ref b2), .unset, .unset, .unset, .unset, .unset, .unset, .unset, .unset, .unset, .unset, .unset, .unset, .unset, .unset, .unset] [(.long (j0 &&& (9223372036854775807 : Int64))), (.long (1 : Int64))])) rfl (by rw [hml]; rfl) (argsL := [(.long (1 : Int64)), (.long (j0 &&& (9223372036854775807 : Int64)))]) (rest := []) (lenOf pd_oJJcJ rfl) rfl (by show 2 * 0 + _ ≤ _; exact Nat.le_of_eq rfl) (hb hby at_112) (fun _ _ => ⟨rfl, e22, (by decide : 1 + 0 ≤ _), (by decide : 10 + 0 ≤ _)⟩)
    dsimp only [Pt.U, Pt.locs, Pt.cells, Pt.slots] at X55 l55 y55 z55 st55 hQ55
    subst l55 y55 z55
    obtain ⟨rfl, N55q, e55⟩ := hQ55
    have N55 := Fr.app NH1 N55q
    refine Go.adv st55 ?_
    show Go p.tables e below s _ _ _ (T55.setTop (mkF m 115 #[.val (.long j0), .second, .val (.long j1), .second, .val (.long j2), .second, .val (.int p1), .val (.ref b2), .unset, .unset, .unset, .unset, .unset, .unset, .unset, .unset, .unset, .unset, .unset, .unset, .unset, .unset, .unset] [(.long (own_maxL (1 : Int64) (j0 &&& (9223372036854775807 : Int64))))]))
    have sg56 : ∀ t, Steps p.tables e below (T55.setTop (mkF m 117 #[.val (.long j0), .second, .val (.long j1), .second, .val (.long j2), .second, .val (.int p1), .val (.ref b2), .val (.long (own_maxL (1 : Int64) (j0 &&& (9223372036854775807 : Int64)))), .second, .unset, .unset, .unset, .unset, .unset, .unset, .unset, .unset, .unset, .unset, .unset, .unset, .unset] [])) t → Steps p.tables e below (T55.setTop (mkF m 115 #[.val (.long j0), .second, .val (.long j1), .second, .val (.long j2), .second, .val (.int p1), .val (.ref b2), .unset, .unset, .unset, .unset, .unset, .unset, .unset, .unset, .unset, .unset, .unset, .unset, .unset, .unset, .unset] [(.long (own_maxL (1 : Int64) (j0 &&& (9223372036854775807 : Int64))))])) t := by
      intro t kt
      show Steps p.tables e below (T55.setTop (mkF m 115 #[.val (.long j0), .second, .val (.long j1), .second, .val (.long j2), .second, .val (.int p1), .val (.ref b2), .unset, .unset, .unset, .unset, .unset, .unset, .unset, .unset, .unset, .unset, .unset, .unset, .unset, .unset, .unset] [(.long (own_maxL (1 : Int64) (j0 &&& (9223372036854775807 : Int64))))])) _
      refine XS.lstore X55.here hx rfl (hb hby at_115) rfl (l' := #[.val (.long j0), .second, .val (.long j1), .second, .val (.long j2), .second, .val (.int p1), .val (.ref b2), .val (.long (own_maxL (1 : Int64) (j0 &&& (9223372036854775807 : Int64)))), .second, .unset, .unset, .unset, .unset, .unset, .unset, .unset, .unset, .unset, .unset, .unset, .unset, .unset]) rfl ?_
      exact kt
    refine Go.adv sg56 ?_
    exact tailA T55 _ X55 e55 N55 (own_maxL (1 : Int64) (j0 &&& (9223372036854775807 : Int64))) (own_maxL_pos _)
  · have hia := own_idx ((p1.toUInt32 >>> ((1 : Int32) &&& 31).toUInt32).toInt32)
    have hib := own_idx ((p1.toUInt32 >>> ((5 : Int32) &&& 31).toUInt32).toInt32)
    have sg57 : ∀ t, Steps p.tables e below (T22.setTop (mkF m 117 #[.val (.long j0), .second, .val (.long j1), .second, .val (.long j2), .second, .val (.int p1), .val (.ref b2), .val (.long (((1 : Int64) <<< (((((p1.toUInt32 >>> ((1 : Int32) &&& 31).toUInt32).toInt32) &&& (15 : Int32)) % (10 : Int32)) &&& 0x3f).toInt64) * (own_t5 (((((p1.toUInt32 >>> ((5 : Int32) &&& 31).toUInt32).toInt32) &&& (15 : Int32)) % (10 : Int32))).toNatClampNeg))), .second, .unset, .unset, .unset, .unset, .unset, .unset, .unset, .unset, .unset, .unset, .unset, .unset, .unset] [])) t → Steps p.tables e below (T22.setTop (mkF m 68 #[.val (.long j0), .second, .val (.long j1), .second, .val (.long j2), .second, .val (.int p1), .val (.ref b2), .unset, .unset, .unset, .unset, .unset, .unset, .unset, .unset, .unset, .unset, .unset, .unset, .unset, .unset, .unset] [])) t := by
      intro t kt
      show Steps p.tables e below (T22.setTop (mkF m 68 #[.val (.long j0), .second, .val (.long j1), .second, .val (.long j2), .second, .val (.int p1), .val (.ref b2), .unset, .unset, .unset, .unset, .unset, .unset, .unset, .unset, .unset, .unset, .unset, .unset, .unset, .unset, .unset] [])) _
      refine XS.iload XH1.here hx rfl (hb hby at_68) rfl ?_
      show Steps p.tables e below (T22.setTop (mkF m 70 #[.val (.long j0), .second, .val (.long j1), .second, .val (.long j2), .second, .val (.int p1), .val (.ref b2), .unset, .unset, .unset, .unset, .unset, .unset, .unset, .unset, .unset, .unset, .unset, .unset, .unset, .unset, .unset] [(.int p1)])) _
      refine XS.iconst XH1.here hx rfl (hb hby at_70) ?_
      show Steps p.tables e below (T22.setTop (mkF m 71 #[.val (.long j0), .second, .val (.long j1), .second, .val (.long j2), .second, .val (.int p1), .val (.ref b2), .unset, .unset, .unset, .unset, .unset, .unset, .unset, .unset, .unset, .unset, .unset, .unset, .unset, .unset, .unset] [(.int (1 : Int32)), (.int p1)])) _
      refine XS.iand XH1.here hx rfl (hb hby at_71) rfl ?_
      show Steps p.tables e below (T22.setTop (mkF m 72 #[.val (.long j0), .second, .val (.long j1), .second, .val (.long j2), .second, .val (.int p1), .val (.ref b2), .unset, .unset, .unset, .unset, .unset, .unset, .unset, .unset, .unset, .unset, .unset, .unset, .unset, .unset, .unset] [(.int (p1 &&& (1 : Int32)))])) _
      refine XS.ifNo XH1.here hx rfl (hb hby at_72) rfl ((if0 _ _).trans (feq (hm : ¬ ((p1 &&& (1 : Int32)) = (0 : Int32)))).1) ?_
      show Steps p.tables e below (T22.setTop (mkF m 75 #[.val (.long j0), .second, .val (.long j1), .second, .val (.long j2), .second, .val (.int p1), .val (.ref b2), .unset, .unset, .unset, .unset, .unset, .unset, .unset, .unset, .unset, .unset, .unset, .unset, .unset, .unset, .unset] [])) _
      refine XS.lconst XH1.here hx rfl (hb hby at_75) ?_
      show Steps p.tables e below (T22.setTop (mkF m 76 #[.val (.long j0), .second, .val (.long j1), .second, .val (.long j2), .second, .val (.int p1), .val (.ref b2), .unset, .unset, .unset, .unset, .unset, .unset, .unset, .unset, .unset, .unset, .unset, .unset, .unset, .unset, .unset] [(.long (1 : Int64))])) _
      refine XS.iload XH1.here hx rfl (hb hby at_76) rfl ?_
      show Steps p.tables e below (T22.setTop (mkF m 78 #[.val (.long j0), .second, .val (.long j1), .second, .val (.long j2), .second, .val (.int p1), .val (.ref b2), .unset, .unset, .unset, .unset, .unset, .unset, .unset, .unset, .unset, .unset, .unset, .unset, .unset, .unset, .unset] [(.int p1), (.long (1 : Int64))])) _
      refine XS.iconst XH1.here hx rfl (hb hby at_78) ?_
      show Steps p.tables e below (T22.setTop (mkF m 79 #[.val (.long j0), .second, .val (.long j1), .second, .val (.long j2), .second, .val (.int p1), .val (.ref b2), .unset, .unset, .unset, .unset, .unset, .unset, .unset, .unset, .unset, .unset, .unset, .unset, .unset, .unset, .unset] [(.int (1 : Int32)), (.int p1), (.long (1 : Int64))])) _
      refine XS.iushr XH1.here hx rfl (hb hby at_79) rfl ?_
      show Steps p.tables e below (T22.setTop (mkF m 80 #[.val (.long j0), .second, .val (.long j1), .second, .val (.long j2), .second, .val (.int p1), .val (.ref b2), .unset, .unset, .unset, .unset, .unset, .unset, .unset, .unset, .unset, .unset, .unset, .unset, .unset, .unset, .unset] [(.int ((p1.toUInt32 >>> ((1 : Int32) &&& 31).toUInt32).toInt32)), (.long (1 : Int64))])) _
      refine XS.bipush XH1.here hx rfl (hb hby at_80) ?_
      show Steps p.tables e below (T22.setTop (mkF m 82 #[.val (.long j0), .second, .val (.long j1), .second, .val (.long j2), .second, .val (.int p1), .val (.ref b2), .unset, .unset, .unset, .unset, .unset, .unset, .unset, .unset, .unset, .unset, .unset, .unset, .unset, .unset, .unset] [(.int (15 : Int32)), (.int ((p1.toUInt32 >>> ((1 : Int32) &&& 31).toUInt32).toInt32)), (.long (1 : Int64))])) _
      refine XS.iand XH1.here hx rfl (hb hby at_82) rfl ?_
      show Steps p.tables e below (T22.setTop (mkF m 83 #[.val (.long j0), .second, .val (.long j1), .second, .val (.long j2), .second, .val (.int p1), .val (.ref b2), .unset, .unset, .unset, .unset, .unset, .unset, .unset, .unset, .unset, .unset, .unset, .unset, .unset, .unset, .unset] [(.int (((p1.toUInt32 >>> ((1 : Int32) &&& 31).toUInt32).toInt32) &&& (15 : Int32))), (.long (1 : Int64))])) _
      refine XS.bipush XH1.here hx rfl (hb hby at_83) ?_
      show Steps p.tables e below (T22.setTop (mkF m 85 #[.val (.long j0), .second, .val (.long j1), .second, .val (.long j2), .second, .val (.int p1), .val (.ref b2), .unset, .unset, .unset, .unset, .unset, .unset, .unset, .unset, .unset, .unset, .unset, .unset, .unset, .unset, .unset] [(.int (10 : Int32)), (.int (((p1.toUInt32 >>> ((1 : Int32) &&& 31).toUInt32).toInt32) &&& (15 : Int32))), (.long (1 : Int64))])) _
      refine iremM XH1 hx rfl (hb hby at_85) rfl (by decide) ?_
      show Steps p.tables e below (T22.setTop (mkF m 86 #[.val (.long j0), .second, .val (.long j1), .second, .val (.long j2), .second, .val (.int p1), .val (.ref b2), .unset, .unset, .unset, .unset, .unset, .unset, .unset, .unset, .unset, .unset, .unset, .unset, .unset, .unset, .unset] [(.int ((((p1.toUInt32 >>> ((1 : Int32) &&& 31).toUInt32).toInt32) &&& (15 : Int32)) % (10 : Int32))), (.long (1 : Int64))])) _
      refine XS.lshl XH1.here hx rfl (hb hby at_86) rfl ?_
      show Steps p.tables e below (T22.setTop (mkF m 87 #[.val (.long j0), .second, .val (.long j1), .second, .val (.long j2), .second, .val (.int p1), .val (.ref b2), .unset, .unset, .unset, .unset, .unset, .unset, .unset, .unset, .unset, .unset, .unset, .unset, .unset, .unset, .unset] [(.long ((1 : Int64) <<< (((((p1.toUInt32 >>> ((1 : Int32) &&& 31).toUInt32).toInt32) &&& (15 : Int32)) % (10 : Int32)) &&& 0x3f).toInt64))])) _
      refine XS.aload XH1.here hx rfl (hb hby at_87) rfl rfl ?_
      show Steps p.tables e below (T22.setTop (mkF m 89 #[.val (.long j0), .second, .val (.long j1), .second, .val (.long j2), .second, .val (.int p1), .val (.ref b2), .unset, .unset, .unset, .unset, .unset, .unset, .unset, .unset, .unset, .unset, .unset, .unset, .unset, .unset, .unset] [(.ref b2), (.long ((1 : Int64) <<< (((((p1.toUInt32 >>> ((1 : Int32) &&& 31).toUInt32).toInt32) &&& (15 : Int32)) % (10 : Int32)) &&& 0x3f).toInt64))])) _
      refine XS.iload XH1.here hx rfl (hb hby at_89) rfl ?_
      show Steps p.tables e below (T22.setTop (mkF m 91 #[.val (.long j0), .second, .val (.long j1), .second, .val (.long j2), .second, .val (.int p1), .val (.ref b2), .unset, .unset, .unset, .unset, .unset, .unset, .unset, .unset, .unset, .unset, .unset, .unset, .unset, .unset, .unset] [(.int p1), (.ref b2), (.long ((1 : Int64) <<< (((((p1.toUInt32 >>> ((1 : Int32) &&& 31).toUInt32).toInt32) &&& (15 : Int32)) % (10 : Int32)) &&& 0x3f).toInt64))])) _
      refine XS.iconst XH1.here hx rfl (hb hby at_91) ?_
      show Steps p.tables e below (T22.setTop (mkF m 92 #[.val (.long j0), .second, .val (.long j1), .second, .val (.long j2), .second, .val (.int p1), .val (.ref b2), .unset, .unset, .unset, .unset, .unset, .unset, .unset, .unset, .unset, .unset, .unset, .unset, .unset, .unset, .unset] [(.int (5 : Int32)), (.int p1), (.ref b2), (.long ((1 : Int64) <<< (((((p1.toUInt32 >>> ((1 : Int32) &&& 31).toUInt32).toInt32) &&& (15 : Int32)) % (10 : Int32)) &&& 0x3f).toInt64))])) _
      refine XS.iushr XH1.here hx rfl (hb hby at_92) rfl ?_
      show Steps p.tables e below (T22.setTop (mkF m 93 #[.val (.long j0), .second, .val (.long j1), .second, .val (.long j2), .second, .val (.int p1), .val (.ref b2), .unset, .unset, .unset, .unset, .unset, .unset, .unset, .unset, .unset, .unset, .unset, .unset, .unset, .unset, .unset] [(.int ((p1.toUInt32 >>> ((5 : Int32) &&& 31).toUInt32).toInt32)), (.ref b2), (.long ((1 : Int64) <<< (((((p1.toUInt32 >>> ((1 : Int32) &&& 31).toUInt32).toInt32) &&& (15 : Int32)) % (10 : Int32)) &&& 0x3f).toInt64))])) _
      refine XS.bipush XH1.here hx rfl (hb hby at_93) ?_
      show Steps p.tables e below (T22.setTop (mkF m 95 #[.val (.long j0), .second, .val (.long j1), .second, .val (.long j2), .second, .val (.int p1), .val (.ref b2), .unset, .unset, .unset, .unset, .unset, .unset, .unset, .unset, .unset, .unset, .unset, .unset, .unset, .unset, .unset] [(.int (15 : Int32)), (.int ((p1.toUInt32 >>> ((5 : Int32) &&& 31).toUInt32).toInt32)), (.ref b2), (.long ((1 : Int64) <<< (((((p1.toUInt32 >>> ((1 : Int32) &&& 31).toUInt32).toInt32) &&& (15 : Int32)) % (10 : Int32)) &&& 0x3f).toInt64))])) _
      refine XS.iand XH1.here hx rfl (hb hby at_95) rfl ?_
      show Steps p.tables e below (T22.setTop (mkF m 96 #[.val (.long j0), .second, .val (.long j1), .second, .val (.long j2), .second, .val (.int p1), .val (.ref b2), .unset, .unset, .unset, .unset, .unset, .unset, .unset, .unset, .unset, .unset, .unset, .unset, .unset, .unset, .unset] [(.int (((p1.toUInt32 >>> ((5 : Int32) &&& 31).toUInt32).toInt32) &&& (15 : Int32))), (.ref b2), (.long ((1 : Int64) <<< (((((p1.toUInt32 >>> ((1 : Int32) &&& 31).toUInt32).toInt32) &&& (15 : Int32)) % (10 : Int32)) &&& 0x3f).toInt64))])) _
      refine XS.bipush XH1.here hx rfl (hb hby at_96) ?_
      show Steps p.tables e below (T22.setTop (mkF m 98 #[.val (.long j0), .second, .val (.long j1), .second, .val (.long j2), .second, .val (.int p1), .val (.ref b2), .unset, .unset, .unset, .unset, .unset, .unset, .unset, .unset, .unset, .unset, .unset, .unset, .unset, .unset, .unset] [(.int (10 : Int32)), (.int (((p1.toUInt32 >>> ((5 : Int32) &&& 31).toUInt32).toInt32) &&& (15 : Int32))), (.ref b2), (.long ((1 : Int64) <<< (((((p1.toUInt32 >>> ((1 : Int32) &&& 31).toUInt32).toInt32) &&& (15 : Int32)) % (10 : Int32)) &&& 0x3f).toInt64))])) _
      refine iremM XH1 hx rfl (hb hby at_98) rfl (by decide) ?_
      obtain ⟨cl_b2_99, Ar_b2_99, q_b2_99, S_b2_99, N_b2_99, H_b2_99, G_b2_99⟩ := V_b2_22
      have hin_b2_99 : ¬ (((((p1.toUInt32 >>> ((5 : Int32) &&& 31).toUInt32).toInt32) &&& (15 : Int32)) % (10 : Int32)) < 0 ∨ cl_b2_99.slots.size ≤ (((((p1.toUInt32 >>> ((5 : Int32) &&& 31).toUInt32).toInt32) &&& (15 : Int32)) % (10 : Int32))).toNatClampNeg) := inb_of S_b2_99 hib
      have hat_b2_99 : cl_b2_99.slots[(((((p1.toUInt32 >>> ((5 : Int32) &&& 31).toUInt32).toInt32) &&& (15 : Int32)) % (10 : Int32))).toNatClampNeg]? = some (.long (own_t5 (((((p1.toUInt32 >>> ((5 : Int32) &&& 31).toUInt32).toInt32) &&& (15 : Int32)) % (10 : Int32))).toNatClampNeg)) := Has.at H_b2_99 hin_b2_99 (own_t5_at (own_clamp hib).1)
      show Steps p.tables e below (T22.setTop (mkF m 99 #[.val (.long j0), .second, .val (.long j1), .second, .val (.long j2), .second, .val (.int p1), .val (.ref b2), .unset, .unset, .unset, .unset, .unset, .unset, .unset, .unset, .unset, .unset, .unset, .unset, .unset, .unset, .unset] [(.int ((((p1.toUInt32 >>> ((5 : Int32) &&& 31).toUInt32).toInt32) &&& (15 : Int32)) % (10 : Int32))), (.ref b2), (.long ((1 : Int64) <<< (((((p1.toUInt32 >>> ((1 : Int32) &&& 31).toUInt32).toInt32) &&& (15 : Int32)) % (10 : Int32)) &&& 0x3f).toInt64))])) _
      refine XH1.laload hx (j := ((((p1.toUInt32 >>> ((5 : Int32) &&& 31).toUInt32).toInt32) &&& (15 : Int32)) % (10 : Int32))) (v := (.long (own_t5 (((((p1.toUInt32 >>> ((5 : Int32) &&& 31).toUInt32).toInt32) &&& (15 : Int32)) % (10 : Int32))).toNatClampNeg))) (by rw [e22]; exact Ar_b2_99.1) (State.isArrayOf_alike hZ.alike Ar_b2_99.2.1) Ar_b2_99.2.2 hin_b2_99 hat_b2_99 (g := (mkF m 99 #[.val (.long j0), .second, .val (.long j1), .second, .val (.long j2), .second, .val (.int p1), .val (.ref b2), .unset, .unset, .unset, .unset, .unset, .unset, .unset, .unset, .unset, .unset, .unset, .unset, .unset, .unset, .unset] [(.int ((((p1.toUInt32 >>> ((5 : Int32) &&& 31).toUInt32).toInt32) &&& (15 : Int32)) % (10 : Int32))), (.ref b2), (.long ((1 : Int64) <<< (((((p1.toUInt32 >>> ((1 : Int32) &&& 31).toUInt32).toInt32) &&& (15 : Int32)) % (10 : Int32)) &&& 0x3f).toInt64))])) rfl rfl (hb hby at_99) _ ?_
      show Steps p.tables e below (T22.setTop (mkF m 100 #[.val (.long j0), .second, .val (.long j1), .second, .val (.long j2), .second, .val (.int p1), .val (.ref b2), .unset, .unset, .unset, .unset, .unset, .unset, .unset, .unset, .unset, .unset, .unset, .unset, .unset, .unset, .unset] [(.long (own_t5 (((((p1.toUInt32 >>> ((5 : Int32) &&& 31).toUInt32).toInt32) &&& (15 : Int32)) % (10 : Int32))).toNatClampNeg)), (.long ((1 : Int64) <<< (((((p1.toUInt32 >>> ((1 : Int32) &&& 31).toUInt32).toInt32) &&& (15 : Int32)) % (10 : Int32)) &&& 0x3f).toInt64))])) _
      refine XS.lmul XH1.here hx rfl (hb hby at_100) rfl ?_
      show Steps p.tables e below (T22.setTop (mkF m 101 #[.val (.long j0), .second, .val (.long j1), .second, .val (.long j2), .second, .val (.int p1), .val (.ref b2), .unset, .unset, .unset, .unset, .unset, .unset, .unset, .unset, .unset, .unset, .unset, .unset, .unset, .unset, .unset] [(.long (((1 : Int64) <<< (((((p1.toUInt32 >>> ((1 : Int32) &&& 31).toUInt32).toInt32) &&& (15 : Int32)) % (10 : Int32)) &&& 0x3f).toInt64) * (own_t5 (((((p1.toUInt32 >>> ((5 : Int32) &&& 31).toUInt32).toInt32) &&& (15 : Int32)) % (10 : Int32))).toNatClampNeg)))])) _
      refine XS.lstore XH1.here hx rfl (hb hby at_101) rfl (l' := #[.val (.long j0), .second, .val (.long j1), .second, .val (.long j2), .second, .val (.int p1), .val (.ref b2), .val (.long (((1 : Int64) <<< (((((p1.toUInt32 >>> ((1 : Int32) &&& 31).toUInt32).toInt32) &&& (15 : Int32)) % (10 : Int32)) &&& 0x3f).toInt64) * (own_t5 (((((p1.toUInt32 >>> ((5 : Int32) &&& 31).toUInt32).toInt32) &&& (15 : Int32)) % (10 : Int32))).toNatClampNeg))), .second, .unset, .unset, .unset, .unset, .unset, .unset, .unset, .unset, .unset, .unset, .unset, .unset, .unset]) rfl ?_
      show Steps p.tables e below (T22.setTop (mkF m 103 #[.val (.long j0), .second, .val (.long j1), .second, .val (.long j2), .second, .val (.int p1), .val (.ref b2), .val (.long (((1 : Int64) <<< (((((p1.toUInt32 >>> ((1 : Int32) &&& 31).toUInt32).toInt32) &&& (15 : Int32)) % (10 : Int32)) &&& 0x3f).toInt64) * (own_t5 (((((p1.toUInt32 >>> ((5 : Int32) &&& 31).toUInt32).toInt32) &&& (15 : Int32)) % (10 : Int32))).toNatClampNeg))), .second, .unset, .unset, .unset, .unset, .unset, .unset, .unset, .unset, .unset, .unset, .unset, .unset, .unset] [])) _
      refine XS.goto XH1.here hx rfl (pc0 := 103) (pc' := 117) rfl (hb hby at_103) (by decide) (by decide) ?_
      exact kt
    refine Go.adv sg57 ?_
    exact tailA T22 _ XH1 e22 NH1 (((1 : Int64) <<< (((((p1.toUInt32 >>> ((1 : Int32) &&& 31).toUInt32).toInt32) &&& (15 : Int32)) % (10 : Int32)) &&& 0x3f).toInt64) * (own_t5 (((((p1.toUInt32 >>> ((5 : Int32) &&& 31).toUInt32).toInt32) &&& (15 : Int32)) % (10 : Int32))).toNatClampNeg)) (own_rr hia hib)
set_option maxRecDepth 65536 in
set_option maxHeartbeats 40000000 in
theorem comes_1 {Post : Tables → Env → Array Value → State → Outcome → State → Prop} (hpost : ∀ tb e args s v u, (limb_1_1.after args s (.returned v) u = true ∧ limb_1_2.after args s (.returned v) u = true ∧ True) → FrameEnd s (.returned v) u (Jvm.fieldLocs frame_1_writes args s ++ Jvm.arrayLocs frame_1_arrays args s ++ Jvm.staticLocs frame_1_statics s) 16 128 → Post tb e args s (.returned v) u) :
    ArmFor flags0 classFile x code maxLocals ret World_1 tables_1 room_1 Calls_1 rest_1 Pre_1 Post := by
  intro l hfl _ _ p e ha hc hk s m args below hf hA hF happ hP
  obtain ⟨hcalls, hrest, hpre⟩ := hP
  obtain ⟨-, -, -, hnamed, -, -, -, hat⟩ := (Spec.applies_iff hf).mp happ
  obtain ⟨hg, hn⟩ := and_e (Cond.before_iff.mp (show (Jvm.Cond.and given_1 narrow_1).before args s = true from hpre))
  obtain ⟨g1, g2⟩ := and_e hg
  obtain ⟨g3, g4⟩ := and_e g2
  obtain ⟨g5, g6⟩ := and_e g4
  obtain ⟨g7, g8⟩ := and_e g6
  obtain ⟨w0, w1, w2, w3, rfl⟩ : ∃ w0 w1 w2 w3 : Value, args = #[w0, w1, w2, w3] := by
    have hs : args.size = 4 := by simpa [Cond.value, given_1] using g1
    obtain ⟨L⟩ := args
    match L, hs with
    | [w0, w1, w2, w3], _ => exact ⟨w0, w1, w2, w3, rfl⟩
  have hw := fun d (hd : d ∈ tables_1) => atoms_spec (ws := Jvm.Cond.code x code maxLocals ret :: tables_1) hat d (List.mem_cons_of_mem _ hd)
  have hfit : Fit s := fun {y c} hc i hi => by
    obtain ⟨ha, rfl⟩ := Array.getElem?_eq_some_iff.mp hc
    have q := List.all_eq_true.mp ((Array.all_eq_true_iff_forall_mem.mp hF) _ (Array.getElem_mem ha)) i (List.mem_range.mpr hi)
    simpa [Array.getElem?_eq_getElem hi] using q
  obtain ⟨i0, ei0⟩ := isL_v g3
  obtain rfl : w0 = (.long i0) := Option.some.inj ei0
  obtain ⟨i1, ei1⟩ := isL_v g5
  obtain rfl : w1 = (.long i1) := Option.some.inj ei1
  obtain ⟨i2, ei2⟩ := isL_v g7
  obtain rfl : w2 = (.long i2) := Option.some.inj ei2
  obtain ⟨i3, ei3⟩ := is_v g8
  obtain rfl : w3 = (.int i3) := Option.some.inj ei3
  obtain ⟨n, o, h1, h2, h3, _, L, rfl, ⟨rfl, N⟩, hq⟩ := rm0 l s _ hw tables_1 i0 i1 i2 i3  s.heap s.heap.size (Nat.le_refl _)  p e ha hc hk s m _ below hf ((Spec.applies_iff_loose hf).mp happ).1 ⟨rfl, State.Warmed39.refl s, rfl⟩ trivial
  refine ⟨n, _, h1, h2, h3, hpost _ _ _ _ _ _ ⟨Cond.after_iff.mpr rfl, Cond.after_iff.mpr (eq_i res_at (Term.int_eval (1)) rfl), trivial⟩ ⟨hq.1, hq.2.1, (hq.2.2.sift fun y hy => Or.inr (N y hy)).mono (by decide) (by decide)⟩⟩
theorem main_1_1 : Claimed_1_1 := comes_1 fun _ _ _ _ _ _ h hF => ⟨h.1, hF⟩
theorem main_1_2 : Claimed_1_2 := comes_1 fun _ _ _ _ _ _ h hF => ⟨h.2.1, hF⟩
end Jvm.Pilot.@@N@@
namespace Jvm.Pilot.@@N@@
open Jvm Jvm.ClassFile Sem Op Lib Jvm.Free Jvm.Stand Jvm.Pilot.@@N@@.Jvm.D
/-! MADE BY PROGRAM (witnessworld.py) out of the Statement's table words and the real class files: 12 classes; the members and pool entries that the words name. The judged class is class 1, her method 1. -/
namespace start1
open Jvm.ClassFile
def u (s : String) : CpInfo := .utf8 (stringToUtf16 s)
/-- a pool by its gaps: so many unusable entries, then the entry; so many at the end -/
def gap : Nat → List CpInfo → List CpInfo
  | 0, r => r
  | n + 1, r => .unusable :: gap n r
def poolList (es : List (Nat × CpInfo)) (last : Nat) : List CpInfo := es.foldr (fun e r => gap e.1 (e.2 :: r)) (gap last [])
def pool (es : List (Nat × CpInfo)) (last : Nat) : Array CpInfo := ⟨poolList es last⟩
def fileOf (pool : Array CpInfo) (this : Nat) (attrs : Array Attribute := #[]) (ms : Array MethodInfo := #[]) (fl : Nat := 33) (sup : Nat := 0) (ifs : Array Nat := #[]) (fds : Array FieldInfo := #[]) : ClassFile where
  minorVersion := 0
  majorVersion := 65
  constantPool := pool
  accessFlags := fl
  thisClass := this
  superClass := sup
  interfaces := ifs
  fields := fds
  methods := ms
  attributes := attrs
def plain (name : String) (sup : Option ClassId) : Class where
  name := name
  kind := .ordinary
  loader := none
  accessFlags := 33
  super := sup
  interfaces := #[]
  cf := none
  fields := #[]
  methods := #[]
  instanceTypes := #[]
  staticTypes := #[]
  resolved := #[]
  callSites := []
  init := .initialized
  statics := none
  mirror := none

def pool0 : Array CpInfo := pool [(5, u "<init>"), (0, u "()V"), (1, .class_ 10), (1, u "java/lang/Object")] 113

def k0c0 : Code := { maxStack := 0, maxLocals := 1, code := object_method_1_code, exceptionTable := #[], attributes := #[] }
def k0m0 : Method := { name := "<init>", desc := "()V", sig := { parameters := [], returnType := none }, accessFlags := 1, code := some k0c0 }
/-- java/lang/Object -/
def k0 : Class := { plain "java/lang/Object" none with
  accessFlags := 33
  interfaces := #[]
  cf := some (fileOf pool0 8 #[] #[{ accessFlags := 1, nameIndex := 5, descriptorIndex := 6, attributes := #[] }] 33 0 #[] #[])
  fields := #[]
  methods := #[k0m0]
  instanceTypes := #[]
  staticTypes := #[]
  resolved := Array.replicate 124 none
  statics := none }

def pool1 : Array CpInfo := pool [(2, .class_ 4), (1, u "java/lang/Object"), (0, u "<init>"), (0, u "()V"), (0, .long 5), (1, .long 25), (1, .long 125), (1, .long 625), (1, .long 3125), (1, .long 15625), (1, .long 78125), (1, .long 390625), (1, .long 1953125), (3, .long 9223372036854775807), (1, .methodref 30 31), (0, .class_ 32), (0, .nameAndType 33 34), (0, u "java/lang/Math"), (0, u "max"), (0, u "(JJ)J"), (0, .long 19999996), (1, .long 7), (1, .long 1099511627775), (1, .class_ 42), (0, u "com/example/ballast/ballast/Pacer"), (0, .methodref 41 44), (0, .nameAndType 5 45), (0, u "(JJ)V"), (0, .methodref 41 47), (0, .nameAndType 48 49), (0, u "take"), (0, u "(J)V"), (0, .long 20000000), (1, .methodref 41 53), (0, .nameAndType 54 55), (0, u "due"), (0, u "()J"), (0, .long 1000000000), (1, .long 18446744073709551615), (1, .class_ 61), (0, u "com/example/ballast/ballast/PacerDuePinLaw"), (2, u "law"), (0, u "(JJJI)Z")] 5

def k1m0 : Method := { name := "<init>", desc := "()V", sig := { parameters := [], returnType := none }, accessFlags := 1, code := none }
def k1c1 : Code := { maxStack := 6, maxLocals := 23, code := code, exceptionTable := #[], attributes := #[] }
def k1m1 : Method := { name := "law", desc := "(JJJI)Z", sig := { parameters := [.long, .long, .long, .int], returnType := some .boolean }, accessFlags := 9, code := some k1c1 }
/-- com/example/ballast/ballast/PacerDuePinLaw -/
def k1 : Class := { plain "com/example/ballast/ballast/PacerDuePinLaw" (some 0) with
  accessFlags := 49
  interfaces := #[]
  cf := some (fileOf pool1 60 #[] #[{ accessFlags := 1, nameIndex := 5, descriptorIndex := 6, attributes := #[] }, { accessFlags := 9, nameIndex := 64, descriptorIndex := 65, attributes := #[] }] 49 2 #[] #[])
  fields := #[]
  methods := #[k1m0, k1m1]
  instanceTypes := #[]
  staticTypes := #[]
  resolved := Array.replicate 71 none
  statics := none }

def pool2 : Array CpInfo := pool [(1, .class_ 2), (0, u "java/lang/Math"), (1, .class_ 6), (1, u "java/lang/Object"), (0, u "<init>"), (0, u "()V"), (89, .class_ 100), (1, u "java/lang/Math$RandomNumberGeneratorHolder"), (20, u "(JJ)J"), (50, u "negativeZeroFloatBits"), (0, u "J"), (2, u "negativeZeroDoubleBits"), (21, u "max"), (46, u "$assertionsDisabled"), (0, u "Z"), (91, u "twoToTheDoubleScaleDown"), (0, u "D"), (4, u "twoToTheDoubleScaleUp"), (9, u "E"), (3, u "PI"), (2, u "TAU"), (2, u "DEGREES_TO_RADIANS"), (0, u "RADIANS_TO_DEGREES")] 94

def k2m0 : Method := { name := "<init>", desc := "()V", sig := { parameters := [], returnType := none }, accessFlags := 2, code := none }
def k2c1 : Code := { maxStack := 4, maxLocals := 4, code := jdk_29_method_66_code, exceptionTable := #[], attributes := #[] }
def k2m1 : Method := { name := "max", desc := "(JJ)J", sig := { parameters := [.long, .long], returnType := some .long }, accessFlags := 9, code := some k2c1 }
/-- java/lang/Math -/
def k2 : Class := { plain "java/lang/Math" (some 0) with
  accessFlags := 49
  interfaces := #[]
  cf := some (fileOf pool2 1 #[.nestMembers #[98]] #[{ accessFlags := 2, nameIndex := 7, descriptorIndex := 8, attributes := #[] }, { accessFlags := 9, nameIndex := 198, descriptorIndex := 121, attributes := #[] }] 49 4 #[] #[{ accessFlags := 25, nameIndex := 354, descriptorIndex := 339, attributes := #[] }, { accessFlags := 25, nameIndex := 358, descriptorIndex := 339, attributes := #[] }, { accessFlags := 25, nameIndex := 361, descriptorIndex := 339, attributes := #[] }, { accessFlags := 26, nameIndex := 364, descriptorIndex := 339, attributes := #[] }, { accessFlags := 26, nameIndex := 365, descriptorIndex := 339, attributes := #[] }, { accessFlags := 26, nameIndex := 172, descriptorIndex := 173, attributes := #[] }, { accessFlags := 26, nameIndex := 176, descriptorIndex := 173, attributes := #[] }, { accessFlags := 8, nameIndex := 344, descriptorIndex := 339, attributes := #[] }, { accessFlags := 8, nameIndex := 338, descriptorIndex := 339, attributes := #[] }, { accessFlags := 4120, nameIndex := 245, descriptorIndex := 246, attributes := #[] }])
  fields := #[{ name := "E", type := .double, accessFlags := 25, slot := 0, constantValue := 0 }, { name := "PI", type := .double, accessFlags := 25, slot := 1, constantValue := 0 }, { name := "TAU", type := .double, accessFlags := 25, slot := 2, constantValue := 0 }, { name := "DEGREES_TO_RADIANS", type := .double, accessFlags := 26, slot := 3, constantValue := 0 }, { name := "RADIANS_TO_DEGREES", type := .double, accessFlags := 26, slot := 4, constantValue := 0 }, { name := "negativeZeroFloatBits", type := .long, accessFlags := 26, slot := 5, constantValue := 0 }, { name := "negativeZeroDoubleBits", type := .long, accessFlags := 26, slot := 6, constantValue := 0 }, { name := "twoToTheDoubleScaleUp", type := .double, accessFlags := 8, slot := 7, constantValue := 0 }, { name := "twoToTheDoubleScaleDown", type := .double, accessFlags := 8, slot := 8, constantValue := 0 }, { name := "$assertionsDisabled", type := .boolean, accessFlags := 4120, slot := 9, constantValue := 0 }]
  methods := #[k2m0, k2m1]
  instanceTypes := #[]
  staticTypes := #[.double, .double, .double, .double, .double, .long, .long, .double, .double, .boolean]
  resolved := Array.replicate 460 none
  statics := none }

def pool3 : Array CpInfo := pool [(1, .methodref 2 3), (0, .class_ 4), (0, .nameAndType 5 6), (0, u "java/lang/Object"), (0, u "<init>"), (0, u "()V"), (0, .fieldref 8 9), (0, .class_ 10), (0, .nameAndType 11 12), (0, u "com/example/ballast/ballast/Pacer"), (0, u "perSecond"), (0, u "J"), (0, .double 4741671816366391296), (1, .fieldref 8 16), (0, .nameAndType 17 18), (0, u "nanosPerRecord"), (0, u "D"), (0, .fieldref 8 20), (0, .nameAndType 21 12), (0, u "origin"), (0, .fieldref 8 23), (0, .nameAndType 24 12), (0, u "windowStart"), (0, .fieldref 8 26), (0, .nameAndType 27 12), (0, u "taken"), (0, .methodref 8 29), (0, .nameAndType 30 31), (0, u "due"), (0, u "()J"), (0, .long 20000000), (1, .fieldref 8 35), (0, .nameAndType 36 12), (0, u "windowTaken"), (14, u "MAX_LAG_NANOS"), (1, u "WINDOW_NANOS"), (0, u "SHORTFALL"), (0, u "(JJ)V"), (2, u "take"), (0, u "(J)V")] 4

def k3c0 : Code := { maxStack := 5, maxLocals := 5, code := prog_11_method_1_code, exceptionTable := #[], attributes := #[] }
def k3m0 : Method := { name := "<init>", desc := "(JJ)V", sig := { parameters := [.long, .long], returnType := none }, accessFlags := 0, code := some k3c0 }
def k3c1 : Code := { maxStack := 6, maxLocals := 1, code := prog_11_method_2_code, exceptionTable := #[], attributes := #[] }
def k3m1 : Method := { name := "due", desc := "()J", sig := { parameters := [], returnType := some .long }, accessFlags := 0, code := some k3c1 }
def k3c2 : Code := { maxStack := 7, maxLocals := 5, code := prog_11_method_3_code, exceptionTable := #[], attributes := #[] }
def k3m2 : Method := { name := "take", desc := "(J)V", sig := { parameters := [.long], returnType := none }, accessFlags := 0, code := some k3c2 }
/-- com/example/ballast/ballast/Pacer -/
def k3 : Class := { plain "com/example/ballast/ballast/Pacer" (some 0) with
  accessFlags := 48
  interfaces := #[]
  cf := some (fileOf pool3 8 #[] #[{ accessFlags := 0, nameIndex := 5, descriptorIndex := 55, attributes := #[] }, { accessFlags := 0, nameIndex := 30, descriptorIndex := 31, attributes := #[] }, { accessFlags := 0, nameIndex := 58, descriptorIndex := 59, attributes := #[] }] 48 2 #[] #[{ accessFlags := 24, nameIndex := 51, descriptorIndex := 12, attributes := #[] }, { accessFlags := 24, nameIndex := 53, descriptorIndex := 12, attributes := #[] }, { accessFlags := 26, nameIndex := 54, descriptorIndex := 18, attributes := #[] }, { accessFlags := 18, nameIndex := 11, descriptorIndex := 12, attributes := #[] }, { accessFlags := 18, nameIndex := 17, descriptorIndex := 18, attributes := #[] }, { accessFlags := 2, nameIndex := 21, descriptorIndex := 12, attributes := #[] }, { accessFlags := 2, nameIndex := 27, descriptorIndex := 12, attributes := #[] }, { accessFlags := 2, nameIndex := 24, descriptorIndex := 12, attributes := #[] }, { accessFlags := 2, nameIndex := 36, descriptorIndex := 12, attributes := #[] }])
  fields := #[{ name := "MAX_LAG_NANOS", type := .long, accessFlags := 24, slot := 0, constantValue := 0 }, { name := "WINDOW_NANOS", type := .long, accessFlags := 24, slot := 1, constantValue := 0 }, { name := "SHORTFALL", type := .double, accessFlags := 26, slot := 2, constantValue := 0 }, { name := "perSecond", type := .long, accessFlags := 18, slot := 0, constantValue := 0 }, { name := "nanosPerRecord", type := .double, accessFlags := 18, slot := 1, constantValue := 0 }, { name := "origin", type := .long, accessFlags := 2, slot := 2, constantValue := 0 }, { name := "taken", type := .long, accessFlags := 2, slot := 3, constantValue := 0 }, { name := "windowStart", type := .long, accessFlags := 2, slot := 4, constantValue := 0 }, { name := "windowTaken", type := .long, accessFlags := 2, slot := 5, constantValue := 0 }]
  methods := #[k3m0, k3m1, k3m2]
  instanceTypes := #[.long, .double, .long, .long, .long, .long]
  staticTypes := #[.long, .long, .double]
  resolved := Array.replicate 64 none
  statics := none }

def pool4 : Array CpInfo := pool [(1, u "java/lang/Cloneable"), (0, .class_ 1), (0, u "java/lang/Object"), (0, .class_ 3)] 3

/-- java/lang/Cloneable -/
def k4 : Class := { plain "java/lang/Cloneable" (some 0) with
  accessFlags := 1537
  interfaces := #[]
  cf := some (fileOf pool4 2 #[] #[] 1537 4 #[] #[])
  fields := #[]
  methods := #[]
  instanceTypes := #[]
  staticTypes := #[]
  resolved := Array.replicate 8 none
  statics := none }

def pool5 : Array CpInfo := pool [(1, u "java/io/Serializable"), (0, .class_ 1), (0, u "java/lang/Object"), (0, .class_ 3)] 3

/-- java/io/Serializable -/
def k5 : Class := { plain "java/io/Serializable" (some 0) with
  accessFlags := 1537
  interfaces := #[]
  cf := some (fileOf pool5 2 #[] #[] 1537 4 #[] #[])
  fields := #[]
  methods := #[]
  instanceTypes := #[]
  staticTypes := #[]
  resolved := Array.replicate 8 none
  statics := none }

/-- the primitive byte -/
def k6 : Class := { plain "byte" none with kind := .primitive 'B', accessFlags := 0x411 }
/-- [B -/
def k7 : Class := { plain "[B" (some 0) with kind := .array 6 .byte, interfaces := #[4, 5], accessFlags := 1041 }

/-- the primitive int -/
def k8 : Class := { plain "int" none with kind := .primitive 'I', accessFlags := 0x411 }
/-- [I -/
def k9 : Class := { plain "[I" (some 0) with kind := .array 8 .int, interfaces := #[4, 5], accessFlags := 1041 }

/-- the primitive long -/
def k10 : Class := { plain "long" none with kind := .primitive 'J', accessFlags := 0x411 }
/-- [J -/
def k11 : Class := { plain "[J" (some 0) with kind := .array 10 .long, interfaces := #[4, 5], accessFlags := 1041 }

def heap : Heap := #[]
def classes : Array Class := #[k0, k1, k2, k3, k4, k5, k6, k7, k8, k9, k10, k11]
def interned : List (Array UInt16 × Addr) := []
def slotsUsed : Nat := 0
def theMethod : MethodId := ⟨1, 1⟩
def args0 : Array Value := #[.long 5, .long 5, .long 5, .int 5]
def aboutOver (below : List Frame) : State where
  vm := { classes := classes, interned := interned.toArray }
  heap := heap
  slotsUsed := slotsUsed
  threads := #[{ frames := .invoking theMethod args0 :: below }]
def below0 : List Frame := [.native { method := ⟨0, 0⟩, args := #[] }]
def about1 : State := aboutOver below0
def p0 : Program := .bare "" "" ""
def e0 : Env := launch0.env 0 0 0
theorem w_frames : about1.frames = Frame.invoking theMethod args0 :: below0 := rfl
set_option maxRecDepth 65536 in
theorem w_args : argsFit about1.vm theMethod args0 = true := by decide +kernel
set_option maxRecDepth 65536 in
theorem w_heap : heapFits about1 = true := by decide +kernel
set_option maxRecDepth 65536 in
theorem w_runnable : about1.curStatus? = some .runnable := by decide +kernel
set_option maxRecDepth 65536 in
theorem w_alone : about1.alone = true := by decide +kernel
set_option maxRecDepth 65536 in
theorem w_named : about1.methodNamed? x = some theMethod := by decide +kernel
set_option maxRecDepth 65536 in
theorem w_hears : about1.hears theMethod below0 = true := by decide +kernel
set_option maxRecDepth 65536 in
theorem w_ripe : about1.ripe theMethod args0 below0 = true := by decide +kernel
theorem w_running : about1.status = .running := rfl
set_option maxRecDepth 65536 in
theorem w_room : about1.hasRoom e0.platform room_1 = true :=
  launch0.hasRoom_least _ room_1 (by decide +kernel) (by decide +kernel) (by decide +kernel) (by decide +kernel) (by decide +kernel) (by decide +kernel)
theorem allAtoms_all (ts : List Jvm.Cond) (a : Array Jvm.Value) (st : Jvm.State) : (allAtoms ts).before a st = ts.all (fun c => c.before a st) := by
  induction ts with
  | nil => rfl
  | cons c t ih =>
    show (Jvm.Cond.and c (allAtoms t)).before a st = _
    rw [Jvm.Cond.before_and, ih, List.all_cons]
def words1 : List Jvm.Cond := Jvm.Cond.code x code maxLocals ret :: tables_1
/-- a 'code' word, met by the world's own term for the bytes: nothing is compared byte by byte -/
theorem code_word {y : MethodName} {bytes : ByteArray} {mx : Nat} {rt : Option FieldType} {a : Array Value} {s : State} {m : MethodId} {meth : Method} {c : Code} (h1 : s.methodNamed? y = some m) (h2 : s.vm.method? m = some meth) (h3 : meth.code = some c) (h4 : c.code = bytes)
    (h5 : (c.maxLocals == mx && c.exceptionTable.isEmpty && decide (c.maxStack ≤ mostOperands) && decide (meth.sig.returnType = rt) && !meth.locks && decide (parseMethodDescriptor y.desc = some meth.sig)) = true) : (Jvm.Cond.code y bytes mx rt).before a s = true := by
  simp only [Bool.and_eq_true, beq_iff_eq, Bool.not_eq_true', decide_eq_true_eq] at h5
  obtain ⟨⟨⟨⟨⟨g1, g2⟩, g3⟩, g4⟩, g5⟩, g6⟩ := h5
  simp [Cond.before, Cond.holds, Cond.value, h1, h2, h3, h4, g1, g2, g3, g4, g5, g6]
def isCode : Jvm.Cond → Bool
  | .code _ _ _ _ => true
  | _ => false
theorem all_split {L : List Jvm.Cond} {P : Jvm.Cond → Bool} (h1 : L.all (fun c => isCode c || P c) = true) (h2 : ∀ c ∈ L.filter isCode, P c = true) : L.all P = true := by
  refine List.all_eq_true.mpr fun c hc => ?_
  have h := List.all_eq_true.mp h1 c hc
  rcases Bool.eq_false_or_eq_true (isCode c) with hi | hi
  · exact h2 c (List.mem_filter.mpr ⟨hc, hi⟩)
  · simpa [hi] using h
set_option maxRecDepth 65536 in
theorem w_c0 : (Jvm.Cond.code x code maxLocals ret).before args0 about1 = true := code_word (m := ⟨1, 1⟩) (meth := k1m1) (c := k1c1) (by decide +kernel) rfl rfl rfl (by decide +kernel)
set_option maxRecDepth 65536 in
theorem w_c1 : (Jvm.Cond.code ({ cls := "java/lang/Math", name := "max", desc := "(JJ)J" } : Jvm.MethodName) jdk_29_method_66_code (4 : Nat) (Option.some Jvm.ClassFile.FieldType.long)).before args0 about1 = true := code_word (m := ⟨2, 1⟩) (meth := k2m1) (c := k2c1) (by decide +kernel) rfl rfl rfl (by decide +kernel)
set_option maxRecDepth 65536 in
theorem w_c2 : (Jvm.Cond.code ({ cls := "com/example/ballast/ballast/Pacer", name := "<init>", desc := "(JJ)V" } : Jvm.MethodName) prog_11_method_1_code (5 : Nat) (Option.none : Option Jvm.ClassFile.FieldType)).before args0 about1 = true := code_word (m := ⟨3, 0⟩) (meth := k3m0) (c := k3c0) (by decide +kernel) rfl rfl rfl (by decide +kernel)
set_option maxRecDepth 65536 in
theorem w_c3 : (Jvm.Cond.code ({ cls := "java/lang/Object", name := "<init>", desc := "()V" } : Jvm.MethodName) object_method_1_code (1 : Nat) (Option.none : Option Jvm.ClassFile.FieldType)).before args0 about1 = true := code_word (m := ⟨0, 0⟩) (meth := k0m0) (c := k0c0) (by decide +kernel) rfl rfl rfl (by decide +kernel)
set_option maxRecDepth 65536 in
theorem w_c4 : (Jvm.Cond.code ({ cls := "com/example/ballast/ballast/Pacer", name := "due", desc := "()J" } : Jvm.MethodName) prog_11_method_2_code (1 : Nat) (Option.some Jvm.ClassFile.FieldType.long)).before args0 about1 = true := code_word (m := ⟨3, 1⟩) (meth := k3m1) (c := k3c1) (by decide +kernel) rfl rfl rfl (by decide +kernel)
set_option maxRecDepth 65536 in
theorem w_c5 : (Jvm.Cond.code ({ cls := "com/example/ballast/ballast/Pacer", name := "take", desc := "(J)V" } : Jvm.MethodName) prog_11_method_3_code (5 : Nat) (Option.none : Option Jvm.ClassFile.FieldType)).before args0 about1 = true := code_word (m := ⟨3, 2⟩) (meth := k3m2) (c := k3c2) (by decide +kernel) rfl rfl rfl (by decide +kernel)
def codes1 : List Jvm.Cond := [Jvm.Cond.code x code maxLocals ret, Jvm.Cond.code ({ cls := "java/lang/Math", name := "max", desc := "(JJ)J" } : Jvm.MethodName) jdk_29_method_66_code (4 : Nat) (Option.some Jvm.ClassFile.FieldType.long), Jvm.Cond.code ({ cls := "com/example/ballast/ballast/Pacer", name := "<init>", desc := "(JJ)V" } : Jvm.MethodName) prog_11_method_1_code (5 : Nat) (Option.none : Option Jvm.ClassFile.FieldType), Jvm.Cond.code ({ cls := "java/lang/Object", name := "<init>", desc := "()V" } : Jvm.MethodName) object_method_1_code (1 : Nat) (Option.none : Option Jvm.ClassFile.FieldType), Jvm.Cond.code ({ cls := "com/example/ballast/ballast/Pacer", name := "due", desc := "()J" } : Jvm.MethodName) prog_11_method_2_code (1 : Nat) (Option.some Jvm.ClassFile.FieldType.long), Jvm.Cond.code ({ cls := "com/example/ballast/ballast/Pacer", name := "take", desc := "(J)V" } : Jvm.MethodName) prog_11_method_3_code (5 : Nat) (Option.none : Option Jvm.ClassFile.FieldType)]
set_option maxRecDepth 65536 in
theorem codes_eq : words1.filter isCode = codes1 := rfl
theorem w_codes : ∀ c ∈ words1.filter isCode, c.before args0 about1 = true := by
  rw [codes_eq]
  intro c hc
  simp only [codes1, List.mem_cons, List.not_mem_nil, or_false] at hc
  rcases hc with rfl | rfl | rfl | rfl | rfl | rfl
  · exact w_c0
  · exact w_c1
  · exact w_c2
  · exact w_c3
  · exact w_c4
  · exact w_c5
set_option maxRecDepth 65536 in
theorem w_t1 : (words1.take 24).all (fun c => isCode c || c.before args0 about1) = true := by decide +kernel
set_option maxRecDepth 65536 in
theorem w_t2 : ((words1.drop 24).take 24).all (fun c => isCode c || c.before args0 about1) = true := by decide +kernel
set_option maxRecDepth 65536 in
theorem w_t3 : ((words1.drop 24).drop 24).all (fun c => isCode c || c.before args0 about1) = true := by decide +kernel
theorem w_tables : (allAtoms (Jvm.Cond.code x code maxLocals ret :: tables_1)).before args0 about1 = true := by
  rw [allAtoms_all]
  show words1.all (fun c => c.before args0 about1) = true
  refine all_split ?_ w_codes
  rw [← List.take_append_drop 24 words1, List.all_append, w_t1, ← List.take_append_drop 24 (words1.drop 24), List.all_append, w_t2, w_t3]
  rfl
set_option maxRecDepth 65536 in
theorem w_case : (Jvm.Cond.and given_1 narrow_1).before args0 about1 = true := by decide +kernel
theorem w_applies : (headSpec (Jvm.Cond.code x code maxLocals ret :: tables_1) room_1).applies x e0.platform about1 = true :=
  (Spec.applies_iff w_frames).mpr ⟨w_running, w_runnable, w_alone, w_named, w_hears, w_ripe, w_room, w_tables⟩
theorem atStart : AtStart classFile x code maxLocals ret World_1 tables_1 room_1 Calls_1 rest_1 Pre_1 launch0 p0 e0 about1 theMethod args0 below0 :=
  ⟨lists_1, trivial, launch0.admits_env _ _ _, launch0.least_env, fairChoices_fair.cas, fairChoices_fair.clock, w_frames, w_args, w_heap, w_applies, trivial, trivial, w_case⟩
end start1
theorem witness_1 : WitnessClaimed_1 := ⟨start1.p0, start1.e0, start1.about1, start1.theMethod, start1.args0, start1.below0, start1.atStart⟩
end Jvm.Pilot.@@N@@
