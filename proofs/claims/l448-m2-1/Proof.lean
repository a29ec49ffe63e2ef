import JvmDerived
import JvmDerived.Pilot.@@N@@Statement
import JvmDerived.Pilot.@@N@@Code
set_option linter.unusedVariables false
set_option linter.unusedSimpArgs false
@@BLOCK:NumsL.lean.txt@@
namespace Jvm.RoadKit
open Sem ClassFile Op Lib Jvm.Stand Jvm.Free Jvm.LawKit
section OwnSteps
variable {tb : Tables} [Ours tb] {e : Env} {below : List Frame} {T target : State} {m : MethodId} {c : Code} {g : JFrame}
theorem own_dloadN (h : At T m c below) (hx : tb.exec = Jvm.exec) (hg : g.method = m) {k : Fin 4} {v : UInt64} (hd : decode c.code g.pc = .ok (.dload_n k, 1)) (hl : g.locals[k.val]? = some (.val (.double v)))
    (hr : Steps tb e below (T.setTop { g with pc := g.pc + 1, stack := .double v :: g.stack }) target) : Steps tb e below (T.setTop g) target := by
  subst hg
  jvm_step h [h.top, hx, hd, hl]
  exact hr
theorem own_dload (h : At T m c below) (hx : tb.exec = Jvm.exec) (hg : g.method = m) {k : Nat} {v : UInt64} (hd : decode c.code g.pc = .ok (.dload k, 2)) (hl : g.locals[k]? = some (.val (.double v)))
    (hr : Steps tb e below (T.setTop { g with pc := g.pc + 2, stack := .double v :: g.stack }) target) : Steps tb e below (T.setTop g) target := by
  subst hg
  jvm_step h [h.top, hx, hd, hl]
  exact hr
theorem own_dstoreN (h : At T m c below) (hx : tb.exec = Jvm.exec) (hg : g.method = m) {k : Fin 4} {x : UInt64} {rest : List Value} {l' : Array Slot} (hd : decode c.code g.pc = .ok (.dstore_n k, 1)) (hs : g.stack = .double x :: rest) (hl : storeLocals g.locals k.val (.double x) = some l')
    (hr : Steps tb e below (T.setTop { g with pc := g.pc + 1, stack := rest, locals := l' }) target) : Steps tb e below (T.setTop g) target := by
  subst hg
  jvm_step h [h.top, hx, hd, hs, hl]
  exact hr
theorem own_dstore (h : At T m c below) (hx : tb.exec = Jvm.exec) (hg : g.method = m) {k : Nat} {x : UInt64} {rest : List Value} {l' : Array Slot} (hd : decode c.code g.pc = .ok (.dstore k, 2)) (hs : g.stack = .double x :: rest) (hl : storeLocals g.locals k (.double x) = some l')
    (hr : Steps tb e below (T.setTop { g with pc := g.pc + 2, stack := rest, locals := l' }) target) : Steps tb e below (T.setTop g) target := by
  subst hg
  jvm_step h [h.top, hx, hd, hs, hl]
  exact hr
theorem own_i2d (h : At T m c below) (hx : tb.exec = Jvm.exec) (hg : g.method = m) {x : Int32} {rest : List Value} (hd : decode c.code g.pc = .ok (.i2d, 1)) (hs : g.stack = .int x :: rest)
    (hr : Steps tb e below (T.setTop { g with pc := g.pc + 1, stack := .double (FP.i2d x) :: rest }) target) : Steps tb e below (T.setTop g) target := by
  subst hg
  jvm_step h [h.top, hx, hd, hs]
  exact hr
theorem own_l2d (h : At T m c below) (hx : tb.exec = Jvm.exec) (hg : g.method = m) {x : Int64} {rest : List Value} (hd : decode c.code g.pc = .ok (.l2d, 1)) (hs : g.stack = .long x :: rest)
    (hr : Steps tb e below (T.setTop { g with pc := g.pc + 1, stack := .double (FP.l2d x) :: rest }) target) : Steps tb e below (T.setTop g) target := by
  subst hg
  jvm_step h [h.top, hx, hd, hs]
  exact hr
theorem own_d2l (h : At T m c below) (hx : tb.exec = Jvm.exec) (hg : g.method = m) {x : UInt64} {rest : List Value} (hd : decode c.code g.pc = .ok (.d2l, 1)) (hs : g.stack = .double x :: rest)
    (hr : Steps tb e below (T.setTop { g with pc := g.pc + 1, stack := .long (FP.d2l x) :: rest }) target) : Steps tb e below (T.setTop g) target := by
  subst hg
  jvm_step h [h.top, hx, hd, hs]
  exact hr
theorem own_d2i (h : At T m c below) (hx : tb.exec = Jvm.exec) (hg : g.method = m) {x : UInt64} {rest : List Value} (hd : decode c.code g.pc = .ok (.d2i, 1)) (hs : g.stack = .double x :: rest)
    (hr : Steps tb e below (T.setTop { g with pc := g.pc + 1, stack := .int (FP.d2i x) :: rest }) target) : Steps tb e below (T.setTop g) target := by
  subst hg
  jvm_step h [h.top, hx, hd, hs]
  exact hr
theorem own_dneg (h : At T m c below) (hx : tb.exec = Jvm.exec) (hg : g.method = m) {x : UInt64} {rest : List Value} (hd : decode c.code g.pc = .ok (.dneg, 1)) (hs : g.stack = .double x :: rest)
    (hr : Steps tb e below (T.setTop { g with pc := g.pc + 1, stack := .double (FP.dneg x) :: rest }) target) : Steps tb e below (T.setTop g) target := by
  subst hg
  jvm_step h [h.top, hx, hd, hs]
  exact hr
theorem own_dcmp (h : At T m c below) (hx : tb.exec = Jvm.exec) (hg : g.method = m) {op : CmpOp} {x y : UInt64} {rest : List Value} (hd : decode c.code g.pc = .ok (.dcmp op, 1)) (hs : g.stack = .double y :: .double x :: rest)
    (hr : Steps tb e below (T.setTop { g with pc := g.pc + 1, stack := .int (cmpValue (FP.dcmp x y) op) :: rest }) target) : Steps tb e below (T.setTop g) target := by
  subst hg
  jvm_step h [h.top, hx, hd, hs]
  exact hr
theorem own_dconst0 (h : At T m c below) (hx : tb.exec = Jvm.exec) (hg : g.method = m) (hd : decode c.code g.pc = .ok (.dconst 0, 1))
    (hr : Steps tb e below (T.setTop { g with pc := g.pc + 1, stack := .double (0 : UInt64) :: g.stack }) target) : Steps tb e below (T.setTop g) target := by
  subst hg
  jvm_step h [h.top, hx, hd]
  exact hr
theorem own_dconst1 (h : At T m c below) (hx : tb.exec = Jvm.exec) (hg : g.method = m) (hd : decode c.code g.pc = .ok (.dconst 1, 1))
    (hr : Steps tb e below (T.setTop { g with pc := g.pc + 1, stack := .double (4607182418800017408 : UInt64) :: g.stack }) target) : Steps tb e below (T.setTop g) target := by
  subst hg
  jvm_step h [h.top, hx, hd]
  exact hr
/-- no NaN, as the steps' law asks it -/
abbrev OwnNum (x : UInt64) : Prop := x &&& 0x7fffffffffffffff ≤ 0x7ff0000000000000
theorem own_dadd (h : At T m c below) (hx : tb.exec = Jvm.exec) (hg : g.method = m) {x y : UInt64} {rest : List Value} (hd : decode c.code g.pc = .ok (.dadd, 1)) (hs : g.stack = .double y :: .double x :: rest) (hn : OwnNum (FP.dadd x y))
    (hr : Steps tb e below (T.setTop { g with pc := g.pc + 1, stack := .double (FP.dadd x y) :: rest }) target) : Steps tb e below (T.setTop g) target := by
  subst hg
  obtain ⟨gm, gpc, gl, gs, gk, ge, gr⟩ := g
  cases hs
  jvm_step h [h.top, hx, hd, Op.dadd.at_number h.top hn]
  exact hr
theorem own_dsub (h : At T m c below) (hx : tb.exec = Jvm.exec) (hg : g.method = m) {x y : UInt64} {rest : List Value} (hd : decode c.code g.pc = .ok (.dsub, 1)) (hs : g.stack = .double y :: .double x :: rest) (hn : OwnNum (FP.dsub x y))
    (hr : Steps tb e below (T.setTop { g with pc := g.pc + 1, stack := .double (FP.dsub x y) :: rest }) target) : Steps tb e below (T.setTop g) target := by
  subst hg
  obtain ⟨gm, gpc, gl, gs, gk, ge, gr⟩ := g
  cases hs
  jvm_step h [h.top, hx, hd, Op.dsub.at_number h.top hn]
  exact hr
theorem own_dmul (h : At T m c below) (hx : tb.exec = Jvm.exec) (hg : g.method = m) {x y : UInt64} {rest : List Value} (hd : decode c.code g.pc = .ok (.dmul, 1)) (hs : g.stack = .double y :: .double x :: rest) (hn : OwnNum (FP.dmul x y))
    (hr : Steps tb e below (T.setTop { g with pc := g.pc + 1, stack := .double (FP.dmul x y) :: rest }) target) : Steps tb e below (T.setTop g) target := by
  subst hg
  obtain ⟨gm, gpc, gl, gs, gk, ge, gr⟩ := g
  cases hs
  jvm_step h [h.top, hx, hd, Op.dmul.at_number h.top hn]
  exact hr
theorem own_ddiv (h : At T m c below) (hx : tb.exec = Jvm.exec) (hg : g.method = m) {x y : UInt64} {rest : List Value} (hd : decode c.code g.pc = .ok (.ddiv, 1)) (hs : g.stack = .double y :: .double x :: rest) (hn : OwnNum (FP.ddiv x y))
    (hr : Steps tb e below (T.setTop { g with pc := g.pc + 1, stack := .double (FP.ddiv x y) :: rest }) target) : Steps tb e below (T.setTop g) target := by
  subst hg
  obtain ⟨gm, gpc, gl, gs, gk, ge, gr⟩ := g
  cases hs
  jvm_step h [h.top, hx, hd, Op.ddiv.at_number h.top hn]
  exact hr
end OwnSteps
/-- the run from S ends by a return, with what Q says of its value, the heap and the places written -/
def Go (tb : Tables) (e : Env) (below : List Frame) (s : State) (k n : Nat) (Q : Option Value → Heap → List Loc → Prop) (S : State) : Prop :=
  ∃ s₂ o, Steps tb e below S s₂ ∧ s₂.status = .running ∧ Ended s₂ below o ∧ ∃ v L, o = .returned v ∧ Q v s₂.heap L ∧ FrameEnd s o s₂ L k n
theorem Go.adv {tb : Tables} {e : Env} {below : List Frame} {s : State} {k n : Nat} {Q : Option Value → Heap → List Loc → Prop} {S S' : State} (h : ∀ t, Steps tb e below S' t → Steps tb e below S t) (g : Go tb e below s k n Q S') : Go tb e below s k n Q S := by
  obtain ⟨s₂, o, h1, h2⟩ := g
  exact ⟨s₂, o, h _ h1, h2⟩
theorem Go.tr {tb : Tables} {e : Env} {below : List Frame} {s : State} {k n : Nat} {Q : Option Value → Heap → List Loc → Prop} {S S' : State} (h : Steps tb e below S S') (g : Go tb e below s k n Q S') : Go tb e below s k n Q S := by
  obtain ⟨s₂, o, h1, h2⟩ := g
  exact ⟨s₂, o, h.trans h1, h2⟩
theorem Go.start {tb : Tables} {e : Env} {below : List Frame} {s : State} {k n : Nat} {Q : Option Value → Heap → List Loc → Prop} {T : State} {g g' : JFrame} (q : g = g') (h : Go tb e below s k n Q (T.setTop g')) :
    ∃ s₂ o, Steps tb e below (T.setTop g) s₂ ∧ s₂.status = .running ∧ Ended s₂ below o ∧ ∃ v L, o = .returned v ∧ Q v s₂.heap L ∧ FrameEnd s o s₂ L k n := by
  subst q; exact h
theorem own_lrem {tb : Tables} [Ours tb] {e : Env} {below : List Frame} {T target : State} {m : MethodId} {c : Code} {g : JFrame} (h : At T m c below) (hx : tb.exec = Jvm.exec) (hg : g.method = m) {x y : Int64} {rest : List Value} (hd : decode c.code g.pc = .ok (.lrem, 1)) (hs : g.stack = .long y :: .long x :: rest) (hy : ¬ y = 0)
    (hr : Steps tb e below (T.setTop { g with pc := g.pc + 1, stack := .long (x - (x / y) * y) :: rest }) target) : Steps tb e below (T.setTop g) target := by
  subst hg
  jvm_step h [h.top, hx, hd, hs, hy]
  exact hr
theorem own_hide {p : Program} {l : Launch} {e : Env} {R : Room} {s : State} {m : MethodId} {args : Array Value} {below : List Frame} {meth : Method} {c : Code} {T : State} {L : List Loc} {k n a : Nat} (X : Stand p l e R s m args below meth c T L k n) (N : Fr a L) : ∃ L', Stand p l e R s m args below meth c T L' k n ∧ Fr a L' := ⟨L, X, N⟩
theorem own_staKeep0 {Z : State} {h h' : Heap} {C n d : String} {w : Value} (F : Sta Z h C n d w) (K : Keep h h' []) : Sta Z h' C n d w := by
  obtain ⟨cf, i, k, f, st, cell, h1, h2, h3, h4, h5, h6, h7⟩ := F
  exact ⟨cf, i, k, f, st, cell, h1, h2, h3, h4, K.2.1 st cell h5 nin0, h6, h7⟩
theorem own_staKeep {Z : State} {h h' : Heap} {C n d D : String} {w : Value} {a : Addr} (F : Sta Z h C n d w) (K : Keep h h' [a]) (E : Exa Z h a D) : Sta Z h' C n d w := by
  obtain ⟨cf, i, k, f, st, cell, h1, h2, h3, h4, h5, h6, h7⟩ := F
  obtain ⟨c2, k2, e1, -, -, e4, -⟩ := E
  refine ⟨cf, i, k, f, st, cell, h1, h2, h3, h4, K.2.1 st cell h5 fun hm => ?_, h6, h7⟩
  cases List.mem_singleton.mp hm
  cases h5.symm.trans e1
  rw [h6] at e4; cases e4
section OwnRet
variable {p : Program} {l : Launch} {e : Env} {R : Room} {s : State} {m : MethodId} {args : Array Value} {below : List Frame} {meth : Method} {c : Code} {T : State} {locs : List Loc} {cells slots : Nat}
theorem Go.ret (X : Stand p l e R s m args below meth c T locs cells slots) {v : Option Value} (hv : meth.sig.returnType = none → v = none) (hlk : meth.locks = false) {k n : Nat} {Q : Option Value → Heap → List Loc → Prop} {S : State}
    (hs : ∀ fs, (∀ (f : JFrame) (acts : List Action), f.method = m → f.locked = none → f.entered = [] → (doReturn e (T.setTop f) acts v).1 = T.setFrames fs) → Steps p.tables e below S (T.setFrames fs))
    (hQ : Q v T.heap locs) (hk : cells ≤ k) (hn : slots ≤ n) : Go p.tables e below s k n Q S := by
  obtain ⟨fs, hr, hrun, hended, hW, hsame⟩ := X.leave (v := v) hv hlk
  exact ⟨_, _, hs fs hr, hrun, hended, _, _, rfl, hQ, ⟨_, rfl⟩, hW, hsame.mono hk hn⟩
/-- the same, where String constants may have been made: the wide frame -/
def GoW (tb : Tables) (e : Env) (below : List Frame) (s : State) (k n : Nat) (Q : Option Value → Heap → List Loc → Prop) (S : State) : Prop :=
  ∃ s₂ o, Steps tb e below S s₂ ∧ s₂.status = .running ∧ Ended s₂ below o ∧ ∃ v L, o = .returned v ∧ Q v s₂.heap L ∧ ReturnedEndW s o s₂ L k n
theorem GoW.adv {tb : Tables} {e : Env} {below : List Frame} {s : State} {k n : Nat} {Q : Option Value → Heap → List Loc → Prop} {S S' : State} (h : ∀ t, Steps tb e below S' t → Steps tb e below S t) (g : GoW tb e below s k n Q S') : GoW tb e below s k n Q S := by
  obtain ⟨s₂, o, h1, h2⟩ := g
  exact ⟨s₂, o, h _ h1, h2⟩
theorem GoW.tr {tb : Tables} {e : Env} {below : List Frame} {s : State} {k n : Nat} {Q : Option Value → Heap → List Loc → Prop} {S S' : State} (h : Steps tb e below S S') (g : GoW tb e below s k n Q S') : GoW tb e below s k n Q S := by
  obtain ⟨s₂, o, h1, h2⟩ := g
  exact ⟨s₂, o, h.trans h1, h2⟩
theorem GoW.start {tb : Tables} {e : Env} {below : List Frame} {s : State} {k n : Nat} {Q : Option Value → Heap → List Loc → Prop} {T : State} {g g' : JFrame} (q : g = g') (h : GoW tb e below s k n Q (T.setTop g')) :
    ∃ s₂ o, Steps tb e below (T.setTop g) s₂ ∧ s₂.status = .running ∧ Ended s₂ below o ∧ ∃ v L, o = .returned v ∧ Q v s₂.heap L ∧ ReturnedEndW s o s₂ L k n := by
  subst q; exact h
theorem GoW.ret {vm : Vm} (X : Stand p l e R (s.setVm vm) m args below meth c T locs cells slots) {kk : Nat} (hS : s.Since vm kk) (hkk : kk ≤ T.heap.size) {v : Option Value} (hv : meth.sig.returnType = none → v = none) (hlk : meth.locks = false) {k n : Nat} {Q : Option Value → Heap → List Loc → Prop} {S : State}
    (hs : ∀ fs, (∀ (f : JFrame) (acts : List Action), f.method = m → f.locked = none → f.entered = [] → (doReturn e (T.setTop f) acts v).1 = T.setFrames fs) → Steps p.tables e below S (T.setFrames fs))
    (hQ : Q v T.heap locs) (hk : cells ≤ k) (hn : slots ≤ n) : GoW p.tables e below s k n Q S := by
  obtain ⟨fs, hr, hrun, hended, h1, h2, h3, h4⟩ := X.leaveW hS hkk (v := v) hv hlk
  exact ⟨_, _, hs fs hr, hrun, hended, _, _, rfl, hQ, h1, h2, h3, h4.mono hk hn⟩
end OwnRet
end Jvm.RoadKit
namespace Jvm.Own
open Jvm.FP.Core
/-- a datum times 2^k -/
def sh (k : Int) : Datum → Datum
  | .nan => .nan
  | .inf s => .inf s
  | .fin s c q => .fin s c (q + k)
/-- the double a is i / 2^k -/
def Dy (k : Nat) (i : Int) (a : UInt64) : Prop := Whole i (sh k (val64 a))
theorem whole_shape {i : Int} {d : Datum} (h : Whole i d) : ∃ s c q, d = .fin s c q := by
  cases d with
  | nan => exact h.elim
  | inf => exact h.elim
  | fin s c q => exact ⟨s, c, q, rfl⟩
theorem sh_shape {k : Int} {i : Int} {d : Datum} (h : Whole i (sh k d)) : ∃ s c q, d = .fin s c q := by
  cases d with
  | nan => exact h.elim
  | inf => exact h.elim
  | fin s c q => exact ⟨s, c, q, rfl⟩
theorem units_sh (c : Nat) (q e k : Int) : inUnits c (q + k) (e + k) = inUnits c q e := by
  show c * 2 ^ (q + k - (e + k)).toNat = c * 2 ^ (q - e).toNat
  rw [show q + k - (e + k) = q - e by omega]
theorem sum_sh (k : Int) (s : Bool) (c : Nat) (q : Int) (t : Bool) (d : Nat) (r : Int) : exactSum (.fin s c (q + k)) (.fin t d (r + k)) = sh k (exactSum (.fin s c q) (.fin t d r)) := by
  have hm : min (q + k) (r + k) = min q r + k := by omega
  have hu : sumUnits s c (q + k) t d (r + k) (min q r + k) = sumUnits s c q t d r (min q r) := by
    show signed s (inUnits c (q + k) (min q r + k)) + signed t (inUnits d (r + k) (min q r + k)) = signed s (inUnits c q (min q r)) + signed t (inUnits d r (min q r))
    rw [units_sh, units_sh]
  show Datum.fin (sumSign s t (sumUnits s c (q + k) t d (r + k) (min (q + k) (r + k)))) (sumUnits s c (q + k) t d (r + k) (min (q + k) (r + k))).natAbs (min (q + k) (r + k)) = Datum.fin (sumSign s t (sumUnits s c q t d r (min q r))) (sumUnits s c q t d r (min q r)).natAbs (min q r + k)
  rw [hm, hu]
theorem round_sh {k : Nat} (hk : k ≤ 900) {i : Int} (hi : i.natAbs ≤ 2 ^ 53) {d : Datum} (h : Whole i (sh k d)) : Whole i (sh k (round b64 d)) := by
  obtain ⟨s, c, q, rfl⟩ := sh_shape h
  have h' : Whole i (.fin s c (q + k)) := h
  by_cases h0 : i = 0
  · have hc : c = 0 := (whole_zero h').mpr h0
    subst hc
    subst h0
    have e1 : round b64 (.fin s 0 q) = .fin s 0 b64.qmin := (if_pos rfl : roundRatio b64 s 0 1 q = _)
    rw [e1]
    show signed s (0 * 2 ^ (b64.qmin + k).toNat) = 0 * _
    rw [Nat.zero_mul, Int.zero_mul]
    exact signed_zero s
  · obtain ⟨c0, q0, hfit, hv⟩ := natFit good_b64 wide_b64 s (n := i.natAbs) (show _ ≤ 2 ^ 53 from hi)
    have hs := whole_sign h' h0
    have hn := whole_natAbs h'
    have hW : Whole i (.fin s i.natAbs 0) := by rw [hs]; exact whole_ofInt i
    have e1 : round b64 (.fin s i.natAbs 0) = .fin s c0 q0 := roundRatio_exact good_b64 (by decide) hfit hv
    have hW2 := whole_round good_b64 wide_b64 (show _ ≤ 2 ^ 53 from hi) hW
    rw [e1] at hW2
    have hq : -100 ≤ q0 := by
      refine Int.not_lt.mp fun hlt => ?_
      have p1 : (q0 - 0).toNat = 0 := by omega
      have p2 : 2 ^ 101 ≤ 2 ^ (0 - q0).toNat := Nat.pow_le_pow_right (by decide) (by omega)
      have p3 : 1 * 2 ^ (0 - q0).toNat ≤ i.natAbs * 2 ^ (0 - q0).toNat := Nat.mul_le_mul_right _ (by omega)
      have p4 : c0 < 2 ^ 53 := hfit.1
      rw [hv, p1, Nat.pow_zero, Nat.mul_one, Nat.mul_one, Nat.one_mul] at p3
      have p5 : (2 : Nat) ^ 53 ≤ 2 ^ 101 := Nat.pow_le_pow_right (by decide) (by decide)
      exact absurd (Nat.lt_of_le_of_lt (Nat.le_trans p2 p3) p4) (Nat.not_lt.mpr p5)
    have hfit' : Jvm.FP.Core.fits b64 (.fin s c0 (q0 - k)) := by
      obtain ⟨f1, f2, f3, f4⟩ := hfit
      refine ⟨f1, ?_, by omega, Or.inr ?_⟩
      · rw [qmin_b64]; omega
      · rcases f4 with f4 | f4
        · rw [qmin_b64] at f4; omega
        · exact f4
    have e2 : round b64 (.fin s c q) = .fin s c0 (q0 - k) := by
      show roundRatio b64 s c 1 q = _
      rw [roundRatio_congr (A' := i.natAbs) (B' := 1) (e' := -(k : Int)) (by decide) (by decide) (by
        rw [show q - -(k : Int) = q + k by omega, show -(k : Int) - q = -(q + k) by omega, Nat.mul_one, Nat.mul_one]; exact hn)]
      exact roundRatio_exact good_b64 (by decide) hfit' (by
        rw [show -(k : Int) - (q0 - k) = 0 - q0 by omega, show q0 - k - -(k : Int) = q0 - 0 by omega]; exact hv)
    rw [e2]
    show Whole i (.fin s c0 (q0 - k + k))
    rw [Int.sub_add_cancel]
    exact hW2
theorem Dy.of {i : Int} {a : UInt64} (h : DInt i a) : Dy 0 i a := by
  have h1 : Whole i (val64 a) := h
  obtain ⟨s, c, q, e⟩ := whole_shape h1
  show Whole i (sh 0 (val64 a))
  rw [e] at h1 ⊢
  show Whole i (.fin s c (q + 0))
  rw [Int.add_zero]; exact h1
theorem Dy.int {i : Int} {a : UInt64} (h : Dy 0 i a) : DInt i a := by
  have h1 : Whole i (sh 0 (val64 a)) := h
  obtain ⟨s, c, q, e⟩ := sh_shape h1
  show Whole i (val64 a)
  rw [e] at h1 ⊢
  have h2 : Whole i (.fin s c (q + 0)) := h1
  rw [Int.add_zero] at h2; exact h2
theorem Dy.fin {k : Nat} {i : Int} {a : UInt64} (h : Dy k i a) : DFin a := sh_shape h
theorem Dy.add {k : Nat} {i j : Int} {a b : UInt64} (ha : Dy k i a) (hb : Dy k j b) (hk : k ≤ 900) (h : (i + j).natAbs ≤ 2 ^ 53) : Dy k (i + j) (dadd a b) := by
  show Whole _ (sh k (val64 (dadd a b)))
  rw [val64_dadd]
  refine round_sh hk h ?_
  have ha' : Whole i (sh k (val64 a)) := ha
  have hb' : Whole j (sh k (val64 b)) := hb
  obtain ⟨s, c, q, e1⟩ := sh_shape ha'
  obtain ⟨t, d, r, e2⟩ := sh_shape hb'
  rw [e1] at ha' ⊢
  rw [e2] at hb' ⊢
  rw [← sum_sh]
  exact whole_sum ha' hb'
theorem Dy.sub {k : Nat} {i j : Int} {a b : UInt64} (ha : Dy k i a) (hb : Dy k j b) (hk : k ≤ 900) (h : (i - j).natAbs ≤ 2 ^ 53) : Dy k (i - j) (dsub a b) := by
  show Whole _ (sh k (val64 (dsub a b)))
  rw [val64_dsub]
  refine round_sh hk h ?_
  have ha' : Whole i (sh k (val64 a)) := ha
  have hb' : Whole j (sh k (val64 b)) := hb
  obtain ⟨s, c, q, e1⟩ := sh_shape ha'
  obtain ⟨t, d, r, e2⟩ := sh_shape hb'
  rw [e1] at ha' ⊢
  rw [e2] at hb' ⊢
  show Whole (i - j) (sh k (exactSum (.fin s c q) (.fin (!t) d r)))
  rw [← sum_sh]
  exact whole_sum ha' (whole_negate hb')
theorem Dy.mul {k n : Nat} {i j : Int} {a b : UInt64} (ha : Dy k i a) (hb : Dy n j b) (hk : k + n ≤ 900) (h : (i * j).natAbs ≤ 2 ^ 53) : Dy (k + n) (i * j) (dmul a b) := by
  show Whole _ (sh ((k + n : Nat) : Int) (val64 (dmul a b)))
  rw [val64_dmul]
  refine round_sh hk h ?_
  have ha' : Whole i (sh k (val64 a)) := ha
  have hb' : Whole j (sh n (val64 b)) := hb
  obtain ⟨s, c, q, e1⟩ := sh_shape ha'
  obtain ⟨t, d, r, e2⟩ := sh_shape hb'
  rw [e1] at ha' ⊢
  rw [e2] at hb' ⊢
  have hp : Whole (i * j) (.fin (s != t) (c * d) ((q + k) + (r + n))) := whole_product ha' hb'
  show Whole (i * j) (.fin (s != t) (c * d) (q + r + ((k + n : Nat) : Int)))
  rw [show q + r + ((k + n : Nat) : Int) = (q + k) + (r + n) by omega]
  exact hp
theorem Dy.cmp {k : Nat} {i j : Int} {a b : UInt64} (ha : Dy k i a) (hb : Dy k j b) : dcmp a b = some (compare i j) := by
  have ha' : Whole i (sh k (val64 a)) := ha
  have hb' : Whole j (sh k (val64 b)) := hb
  show order (val64 a) (val64 b) = _
  obtain ⟨s, c, q, e1⟩ := sh_shape ha'
  obtain ⟨t, d, r, e2⟩ := sh_shape hb'
  rw [e1] at ha' ⊢
  rw [e2] at hb' ⊢
  rw [← order_whole ha' hb']
  show some (compare (signed s (inUnits c q (min q r))) (signed t (inUnits d r (min q r)))) = some (compare (signed s (inUnits c (q + k) (min (q + k) (r + k)))) (signed t (inUnits d (r + k) (min (q + k) (r + k)))))
  rw [show min (q + (k : Int)) (r + k) = min q r + k by omega, units_sh, units_sh]
theorem whole_up {i : Int} {s : Bool} {c : Nat} {q : Int} (n : Nat) (h : Whole i (.fin s c q)) : Whole (i * ((2 ^ n : Nat) : Int)) (.fin s c (q + n)) := by
  have h1 : signed s (c * 2 ^ q.toNat) = i * ((2 ^ (-q).toNat : Nat) : Int) := h
  show signed s (c * 2 ^ (q + n).toNat) = i * ((2 ^ n : Nat) : Int) * ((2 ^ (-(q + n)).toNat : Nat) : Int)
  have p2 : ((2 ^ (-q).toNat : Nat) : Int) ≠ 0 := by
    have := Nat.two_pow_pos (-q).toNat; omega
  refine Int.eq_of_mul_eq_mul_right p2 ?_
  have hx : (q + n).toNat + (-q).toNat = q.toNat + (n + (-(q + n)).toNat) := by omega
  rw [← signed_mul, Nat.mul_assoc, ← Nat.pow_add, hx, Nat.pow_add, ← Nat.mul_assoc, signed_mul, h1, Nat.pow_add, Int.natCast_mul]
  ac_rfl
theorem Dy.up {k : Nat} {i : Int} {a : UInt64} (n : Nat) (h : Dy k i a) : Dy (k + n) (i * ((2 ^ n : Nat) : Int)) a := by
  have h1 : Whole i (sh k (val64 a)) := h
  obtain ⟨s, c, q, e⟩ := sh_shape h1
  show Whole _ (sh ((k + n : Nat) : Int) (val64 a))
  rw [e] at h1 ⊢
  have h2 : Whole i (.fin s c (q + k)) := h1
  have h3 := whole_up n h2
  show Whole _ (.fin s c (q + ((k + n : Nat) : Int)))
  rw [show q + ((k + n : Nat) : Int) = q + k + n by omega]
  exact h3
/-- divided by 2^n -/
theorem Dy.div2 {k n : Nat} {i : Int} {a b : UInt64} {mm : Nat} {r : Int} (h : Dy k i a) (hb : val64 b = .fin false (2 ^ mm) r) (hr : r + mm = n) (hk : k + n ≤ 900) (hi : i.natAbs ≤ 2 ^ 53) : Dy (k + n) i (ddiv a b) := by
  have h1 : Whole i (sh k (val64 a)) := h
  obtain ⟨s, c, q, e⟩ := sh_shape h1
  show Whole _ (sh ((k + n : Nat) : Int) (val64 (ddiv a b)))
  rw [val64_ddiv, hb]
  rw [e] at h1 ⊢
  have hp : 0 < 2 ^ mm := Nat.two_pow_pos mm
  have e1 : quotient b64 (.fin s c q) (.fin false (2 ^ mm) r) = round b64 (.fin s c (q - n)) := by
    show (if 2 ^ mm = 0 then _ else roundRatio b64 (s != false) c (2 ^ mm) (q - r)) = roundRatio b64 s c 1 (q - n)
    rw [if_neg (by omega), show (s != false) = s by cases s <;> rfl]
    refine roundRatio_congr hp (by decide) ?_
    rw [show (q - r - (q - (n : Int))).toNat = mm by omega, show (q - (n : Int) - (q - r)).toNat = 0 by omega, Nat.pow_zero, Nat.mul_one, Nat.mul_one]
  rw [e1]
  refine round_sh hk hi ?_
  have h2 : Whole i (.fin s c (q + k)) := h1
  show Whole i (.fin s c (q - n + ((k + n : Nat) : Int)))
  rw [show q - (n : Int) + ((k + n : Nat) : Int) = q + k by omega]
  exact h2
/-- the quotient of two whole numbers, as a rounded ratio -/
theorem div_ratio {i j : Int} {a b : UInt64} (ha : DInt i a) (hb : DInt j b) (hi : 0 ≤ i) (hj : 0 < j) : ∃ s, val64 (ddiv a b) = roundRatio b64 s i.natAbs j.natAbs 0 ∧ (0 < i → s = false) := by
  have ha' : Whole i (val64 a) := ha
  have hb' : Whole j (val64 b) := hb
  obtain ⟨s, c, q, e1⟩ := whole_shape ha'
  obtain ⟨t, d, r, e2⟩ := whole_shape hb'
  rw [val64_ddiv]
  rw [e1] at ha' ⊢
  rw [e2] at hb' ⊢
  have hd : d ≠ 0 := fun h => by have := (whole_zero hb').mp h; omega
  have ht : t = false := by rw [whole_sign hb' (by omega)]; exact decide_eq_false (by omega)
  have h1 := whole_natAbs ha'
  have h2 := whole_natAbs hb'
  refine ⟨s, ?_, fun h => by rw [whole_sign ha' (by omega)]; exact decide_eq_false (by omega)⟩
  subst ht
  show (if d = 0 then _ else roundRatio b64 (s != false) c d (q - r)) = _
  rw [if_neg hd, show (s != false) = s by cases s <;> rfl]
  refine roundRatio_congr (by omega) (by omega) ?_
  have hx : (q - r - 0).toNat + (-q).toNat + r.toNat = (0 - (q - r)).toNat + q.toNat + (-r).toNat := by omega
  generalize (q - r - 0).toNat = u at hx ⊢
  generalize (0 - (q - r)).toNat = v at hx ⊢
  generalize q.toNat = a1 at hx h1
  generalize (-q).toNat = a2 at hx h1
  generalize r.toNat = b1 at hx h2
  generalize (-r).toNat = b2 at hx h2
  generalize i.natAbs = I at h1 ⊢
  generalize j.natAbs = J at h2 ⊢
  refine Nat.eq_of_mul_eq_mul_right (Nat.two_pow_pos (a1 + b2)) ?_
  calc c * J * 2 ^ u * 2 ^ (a1 + b2) = (c * 2 ^ a1) * (J * 2 ^ b2) * 2 ^ u := by rw [Nat.pow_add]; ac_rfl
    _ = (I * 2 ^ a2) * (d * 2 ^ b1) * 2 ^ u := by rw [h1, ← h2]
    _ = I * d * 2 ^ (u + a2 + b1) := by simp only [Nat.pow_add]; ac_rfl
    _ = I * d * 2 ^ (v + a1 + b2) := by rw [hx]
    _ = I * d * 2 ^ v * 2 ^ (a1 + b2) := by simp only [Nat.pow_add]; ac_rfl
theorem units0 (A : Nat) : inUnits A 0 b64.qmin = A * one64 := by
  show A * 2 ^ (0 - b64.qmin).toNat = A * 2 ^ 1074
  have h1 : (0 - b64.qmin).toNat = 1074 := by decide
  rw [h1]
theorem ratio_le {s : Bool} {A B : Nat} (hB : 0 < B) {V : UInt64} (hV : DFin V) (h : A * one64 ≤ zmag b64 (val64 V) * B) : zmag b64 (roundRatio b64 s A B 0) ≤ zmag b64 (val64 V) := by
  refine zmag_roundRatio_le good_b64 hB (val64_fits V) hV.ne_nan (Int.le_refl _) (by rw [qmin_b64]; decide) ?_
  rw [units0, Int.sub_self]
  show A * one64 ≤ zmag b64 (val64 V) * 1 * B
  rw [Nat.mul_one]; exact h
theorem ratio_ge {s : Bool} {A B : Nat} (hB : 0 < B) {V : UInt64} (h : zmag b64 (val64 V) * B ≤ A * one64) : zmag b64 (val64 V) ≤ zmag b64 (roundRatio b64 s A B 0) := by
  refine zmag_roundRatio_ge good_b64 hB (val64_fits V) (Int.le_refl _) (by rw [qmin_b64]; decide) ?_
  rw [units0, Int.sub_self]
  show zmag b64 (val64 V) * 1 * B ≤ A * one64
  rw [Nat.mul_one]; exact h
/-- 1, the number next below it, and 2^-53, in units -/
theorem z_one : zmag b64 (val64 4607182418800017408) = 2 ^ 53 * 2 ^ 1021 := by decide +kernel
theorem z_pred : zmag b64 (val64 4607182418800017407) = (2 ^ 53 - 1) * 2 ^ 1021 := by decide +kernel
theorem z_tiny : zmag b64 (val64 4368491638549381120) = 2 ^ 1021 := by decide +kernel
theorem f_one : DFin 4607182418800017408 := (fin_bits _).mpr (by decide +kernel)
theorem f_pred : DFin 4607182418800017407 := (fin_bits _).mpr (by decide +kernel)
theorem one_split : one64 = 2 ^ 53 * 2 ^ 1021 := by
  show 2 ^ 1074 = _
  rw [← Nat.pow_add]
theorem zv_one : zval b64 (val64 4607182418800017408) = ((2 ^ 53 * 2 ^ 1021 : Nat) : Int) := by decide +kernel
theorem ratio_one {s : Bool} {A B : Nat} (hB : 0 < B) (h : A ≤ B) : zmag b64 (roundRatio b64 s A B 0) ≤ 2 ^ 53 * 2 ^ 1021 := by
  rw [← z_one]
  refine ratio_le hB f_one ?_
  rw [z_one, ← one_split, Nat.mul_comm]
  exact Nat.mul_le_mul_left _ h
theorem ratio_eq {s : Bool} {B : Nat} (hB : 0 < B) : zmag b64 (roundRatio b64 s B B 0) = 2 ^ 53 * 2 ^ 1021 := by
  refine Nat.le_antisymm (ratio_one hB (Nat.le_refl _)) ?_
  rw [← z_one]
  refine ratio_ge hB ?_
  rw [z_one, ← one_split, Nat.mul_comm]
  exact Nat.le_refl _
theorem ratio_lt {s : Bool} {A B : Nat} (h : A < B) (hB : B ≤ 2 ^ 53) : zmag b64 (roundRatio b64 s A B 0) < 2 ^ 53 * 2 ^ 1021 := by
  have h1 : zmag b64 (roundRatio b64 s A B 0) ≤ zmag b64 (val64 4607182418800017407) := by
    refine ratio_le (by omega) f_pred ?_
    rw [z_pred, one_split]
    have h2 : A * 2 ^ 53 ≤ (2 ^ 53 - 1) * B := by omega
    calc A * (2 ^ 53 * 2 ^ 1021) = A * 2 ^ 53 * 2 ^ 1021 := by rw [Nat.mul_assoc]
      _ ≤ (2 ^ 53 - 1) * B * 2 ^ 1021 := Nat.mul_le_mul_right _ h2
      _ = (2 ^ 53 - 1) * 2 ^ 1021 * B := Nat.mul_right_comm _ _ _
  rw [z_pred] at h1
  refine Nat.lt_of_le_of_lt h1 ?_
  exact Nat.mul_lt_mul_of_pos_right (by decide) (Nat.two_pow_pos _)
theorem ratio_pos {s : Bool} {A B : Nat} (hA : 0 < A) (hB : 0 < B) (h : B ≤ 2 ^ 53) : 0 < zmag b64 (roundRatio b64 s A B 0) := by
  have h1 : zmag b64 (val64 4368491638549381120) ≤ zmag b64 (roundRatio b64 s A B 0) := by
    refine ratio_ge hB ?_
    rw [z_tiny, one_split]
    have h2 : B ≤ A * 2 ^ 53 := Nat.le_trans h (Nat.le_mul_of_pos_left _ hA)
    calc 2 ^ 1021 * B = B * 2 ^ 1021 := Nat.mul_comm _ _
      _ ≤ A * 2 ^ 53 * 2 ^ 1021 := Nat.mul_le_mul_right _ h2
      _ = A * (2 ^ 53 * 2 ^ 1021) := by rw [Nat.mul_assoc]
  rw [z_tiny] at h1
  exact Nat.lt_of_lt_of_le (Nat.two_pow_pos _) h1
theorem ratio_zero {s : Bool} {B : Nat} : zmag b64 (roundRatio b64 s 0 B 0) = 0 := by
  have e1 : roundRatio b64 s 0 B 0 = .fin s 0 b64.qmin := if_pos rfl
  rw [e1]
  show 0 * _ = 0
  exact Nat.zero_mul _
theorem ratio_ne_nan {s : Bool} {A B : Nat} {e : Int} : roundRatio b64 s A B e ≠ .nan := roundRatio_ne_nan _ _ _ _ _
theorem zv0 : zval b64 (val64 0) = 0 := zval64_zero
theorem nn0 : val64 0 ≠ .nan := by rw [val64_zero]; exact Datum.noConfusion
theorem nn1 : val64 4607182418800017408 ≠ .nan := f_one.ne_nan
/-- a quotient of two whole numbers i ≤ j stands to 1 and to 0 as i stands to j and to 0 -/
theorem div_cmp {i j : Int} {a b : UInt64} (ha : DInt i a) (hb : DInt j b) (hi : 0 ≤ i) (hij : i ≤ j) (hj : 0 < j) (hJ : j ≤ 2 ^ 53) :
    dcmp (ddiv a b) 4607182418800017408 = some (if i = j then .eq else .lt) ∧ dcmp (ddiv a b) 0 = some (if i = 0 then .eq else .gt) ∧ dcmp 0 (ddiv a b) = some (if i = 0 then .eq else .lt) := by
  obtain ⟨s, hv, hs⟩ := div_ratio ha hb hi hj
  have nn : val64 (ddiv a b) ≠ .nan := by rw [hv]; exact ratio_ne_nan
  have hB : 0 < j.natAbs := by omega
  have hz : zval b64 (val64 (ddiv a b)) = ((zmag b64 (roundRatio b64 s i.natAbs j.natAbs 0) : Nat) : Int) := by
    rw [hv]
    show signed (sgn (roundRatio b64 s i.natAbs j.natAbs 0)) _ = _
    rw [sgn_roundRatio]
    by_cases h0 : 0 < i
    · rw [hs h0]; rfl
    · rw [show i.natAbs = 0 by omega, ratio_zero]; exact signed_zero s
  have hlt : ¬ i = j → zmag b64 (roundRatio b64 s i.natAbs j.natAbs 0) < 2 ^ 53 * 2 ^ 1021 := fun h => ratio_lt (by omega) (by omega)
  have heq : i = j → zmag b64 (roundRatio b64 s i.natAbs j.natAbs 0) = 2 ^ 53 * 2 ^ 1021 := fun h => by rw [h]; exact ratio_eq hB
  have hp : ¬ i = 0 → 0 < zmag b64 (roundRatio b64 s i.natAbs j.natAbs 0) := fun h => ratio_pos (by omega) hB (by omega)
  have hzero : i = 0 → zmag b64 (roundRatio b64 s i.natAbs j.natAbs 0) = 0 := fun h => by rw [show i.natAbs = 0 by omega]; exact ratio_zero
  generalize zmag b64 (roundRatio b64 s i.natAbs j.natAbs 0) = w at *
  have z1 := zv_one
  generalize 2 ^ 53 * 2 ^ 1021 = o1 at *
  refine ⟨?_, ?_, ?_⟩
  · by_cases h : i = j
    · rw [if_pos h]; exact dcmp_eq.mpr ⟨nn, nn1, by rw [hz, z1, heq h]⟩
    · rw [if_neg h]; exact dcmp_lt.mpr ⟨nn, nn1, by rw [hz, z1]; have := hlt h; omega⟩
  · by_cases h : i = 0
    · rw [if_pos h]; exact dcmp_eq.mpr ⟨nn, nn0, by rw [hz, zv0, hzero h]; rfl⟩
    · rw [if_neg h]; exact dcmp_gt.mpr ⟨nn, nn0, by rw [hz, zv0]; have := hp h; omega⟩
  · by_cases h : i = 0
    · rw [if_pos h]; exact dcmp_eq.mpr ⟨nn0, nn, by rw [hz, zv0, hzero h]; rfl⟩
    · rw [if_neg h]; exact dcmp_lt.mpr ⟨nn0, nn, by rw [hz, zv0]; have := hp h; omega⟩
/-- two quotients of one ratio compare as equal -/
theorem div_same {i j i' j' : Int} {a b a' b' : UInt64} (ha : DInt i a) (hb : DInt j b) (ha' : DInt i' a') (hb' : DInt j' b') (hi : 0 ≤ i) (hj : 0 < j) (hi' : 0 ≤ i') (hj' : 0 < j') (h : i * j' = i' * j) :
    dcmp (ddiv a b) (ddiv a' b') = some .eq := by
  obtain ⟨s, hv, hs⟩ := div_ratio ha hb hi hj
  obtain ⟨s', hv', hs'⟩ := div_ratio ha' hb' hi' hj'
  have nn : val64 (ddiv a b) ≠ .nan := by rw [hv]; exact ratio_ne_nan
  have nn' : val64 (ddiv a' b') ≠ .nan := by rw [hv']; exact ratio_ne_nan
  refine dcmp_eq.mpr ⟨nn, nn', ?_⟩
  rw [hv, hv']
  by_cases h0 : i = 0
  · have h1 : i' = 0 := by
      rw [h0, Int.zero_mul] at h
      rcases Int.mul_eq_zero.mp h.symm with h | h
      · exact h
      · omega
    rw [h0, h1]
    have e1 : ∀ (t : Bool) (B : Nat), zval b64 (roundRatio b64 t 0 B 0) = 0 := fun t B => by
      show signed _ (zmag b64 (roundRatio b64 t 0 B 0)) = 0
      rw [ratio_zero]; exact signed_zero _
    exact (e1 _ _).trans (e1 _ _).symm
  · have h1 : 0 < i' := by
      rcases Int.lt_or_eq_of_le hi' with h2 | h2
      · exact h2
      · exfalso
        rw [← h2, Int.zero_mul] at h
        rcases Int.mul_eq_zero.mp h with h | h <;> omega
    rw [hs (by omega), hs' h1]
    congr 1
    refine roundRatio_congr (by omega) (by omega) ?_
    have := congrArg Int.natAbs h
    rw [Int.natAbs_mul, Int.natAbs_mul] at this
    rw [this]
/-- a quotient that is whole -/
theorem div_int {i j k : Int} {a b : UInt64} (ha : DInt i a) (hb : DInt j b) (hi : 0 < i) (hj : 0 < j) (h : i = k * j) (hk : k.natAbs ≤ 2 ^ 53) : DInt k (ddiv a b) := by
  obtain ⟨s, hv, hs⟩ := div_ratio ha hb (by omega) hj
  obtain rfl := hs hi
  have hk0 : 0 < k := by
    refine Int.not_le.mp fun hn => ?_
    have := Int.mul_nonneg (show 0 ≤ -k by omega) (Int.le_of_lt hj)
    rw [Int.neg_mul] at this
    omega
  obtain ⟨c, q, hfit, hq⟩ := natFit good_b64 wide_b64 false (n := k.natAbs) (show _ ≤ 2 ^ 53 from hk)
  show Whole k (val64 (ddiv a b))
  rw [hv]
  have hn : i.natAbs = k.natAbs * j.natAbs := by rw [h, Int.natAbs_mul]
  have e1 : roundRatio b64 false i.natAbs j.natAbs 0 = .fin false c q := roundRatio_exact good_b64 (by omega) hfit (by
    rw [hn, Nat.mul_right_comm, hq]; rw [Nat.mul_one]; ac_rfl)
  have e2 : round b64 (.fin false k.natAbs 0) = .fin false c q := roundRatio_exact good_b64 (by decide) hfit hq
  have hW : Whole k (.fin false k.natAbs 0) := by
    have := whole_ofInt k
    have e3 : ofInt k = .fin false k.natAbs 0 := by
      show Datum.fin (decide (k < 0)) k.natAbs 0 = _
      rw [decide_eq_false (by omega)]
    rw [e3] at this; exact this
  have := whole_round good_b64 wide_b64 (show _ ≤ 2 ^ 53 from hk) hW
  rw [e2] at this
  rw [e1]; exact this
/-- no NaN, as the steps ask it -/
theorem num_of {x : UInt64} (h : DFin x) : x &&& 0x7fffffffffffffff ≤ 0x7ff0000000000000 := by
  have h1 := (fin_bits x).mp h
  rw [UInt64.le_iff_toNat_le, mask_toNat]
  show x.toNat % 2 ^ 63 ≤ 9218868437227405312
  omega
theorem num_nan {x : UInt64} (h : dIsNaN x = false) : x &&& 0x7fffffffffffffff ≤ 0x7ff0000000000000 := by
  have h1 := (ne_nan x).mp ((notNaN_iff x).mp h)
  rw [UInt64.le_iff_toNat_le, mask_toNat]
  show x.toNat % 2 ^ 63 ≤ 9218868437227405312
  exact h1
theorem cv_eq {x y : UInt64} {op : ClassFile.CmpOp} (h : dcmp x y = some .eq) : Jvm.Op.cmpValue (Jvm.FP.dcmp x y) op = 0 := by
  show Jvm.Op.cmpValue (dcmp x y) op = 0
  rw [h]; rfl
theorem cv_lt {x y : UInt64} {op : ClassFile.CmpOp} (h : dcmp x y = some .lt) : Jvm.Op.cmpValue (Jvm.FP.dcmp x y) op = -1 := by
  show Jvm.Op.cmpValue (dcmp x y) op = -1
  rw [h]; rfl
theorem cv_gt {x y : UInt64} {op : ClassFile.CmpOp} (h : dcmp x y = some .gt) : Jvm.Op.cmpValue (Jvm.FP.dcmp x y) op = 1 := by
  show Jvm.Op.cmpValue (dcmp x y) op = 1
  rw [h]; rfl
end Jvm.Own
namespace Jvm.RoadKit
open Sem ClassFile Op Lib Jvm.Stand Jvm.Free Jvm.LawKit
/-! Math.floor(double) where a claim's room is too small for the library's law of it: the frames above the native entry are walked by single steps; of the stack's limit only what the machine itself asks. -/
/-- a place in a run above other frames: no word on the room -/
def OwnAt (l : Launch) (e : Env) (s : State) (m : MethodId) (below : List Frame) (c : Code) (V : State) : Prop := l.admits e ∧ s.WarmedH V.vm ∧ At V m c below
section OwnRaw
variable {p : Program} {l : Launch} {e : Env} {s : State} {m : MethodId} {sargs : Array Value} {below : List Frame} {c : Code} {V : State}
theorem OwnAt.here (X : OwnAt l e s m below c V) : At V m c below := X.2.2
theorem OwnAt.warm (X : OwnAt l e s m below c V) : s.WarmedH V.vm := X.2.1
theorem OwnAt.noted (X : OwnAt l e s m below c V) {vm' : Vm} (hW : s.WarmedH vm') : OwnAt l e s m below c (V.setVm vm') := ⟨X.1, hW, X.here.setVm (X.warm.alike.symm.trans hW.alike)⟩
theorem OwnAt.ldc2DoubleC (X : OwnAt l e s m below c V) (hexec : p.tables.exec = Jvm.exec) {own : String} {index : Nat} {b : UInt64} (hown : s.vm.findClass own = some m.cls)
    (hconst : (Cond.constantDouble own index b).before sargs s = true) {g : JFrame} (hg : g.method = m) (hdg : decode c.code g.pc = .ok (.ldc2_w index, 3)) :
    ∀ target, Steps p.tables e below (V.setTop { g with pc := g.pc + 3, stack := .double b :: g.stack }) target → Steps p.tables e below (V.setTop g) target := by
  obtain ⟨k, cf, hk, hcf, hcp⟩ := Cond.constantDouble_spec hown hconst
  obtain ⟨k', hk', he⟩ := X.warm.alike.2.2 _ _ hk
  intro target hrest
  subst hg
  have hh := X.here
  jvm_step hh [hexec, hdg, ldc2_w.wp_double (s := V) (f := g) hh.top hk' (by rw [he]; exact hcf) hcp]
  exact hrest
theorem OwnAt.ldc2Long (X : OwnAt l e s m below c V) (hexec : p.tables.exec = Jvm.exec) {own : String} {index : Nat} {v : Int64} (hown : s.vm.findClass own = some m.cls)
    (hconst : (Cond.constantLong own index v).before sargs s = true) {g : JFrame} (hg : g.method = m) (hdg : decode c.code g.pc = .ok (.ldc2_w index, 3)) :
    ∀ target, Steps p.tables e below (V.setTop { g with pc := g.pc + 3, stack := .long v :: g.stack }) target → Steps p.tables e below (V.setTop g) target := by
  obtain ⟨k, cf, bytes, hk, hcf, hcp, hb⟩ := Cond.constantLong_spec hown hconst
  obtain ⟨k', hk', he⟩ := X.warm.alike.2.2 _ _ hk
  intro target hrest
  subst hg
  have hh := X.here
  jvm_step hh [hexec, hdg, ldc2_w.wp_long (s := V) (f := g) hh.top hk' (by rw [he]; exact hcf) hcp, hb]
  exact hrest
theorem OwnAt.gets (X : OwnAt l e s m below c V) (hexec : p.tables.exec = Jvm.exec) {own ref name desc : String} {index : Nat} (hown : s.vm.findClass own = some m.cls) (hlink : (Cond.fieldLink own index ref name desc).before sargs s = true)
    {cf i : Nat} {k : Class} {f : Field} (hi : s.fieldFound? ref name desc = some (cf, k, i, f)) (hst : f.isStatic = true) (hinit : k.init = .initialized)
    {a₁ : Addr} {cell₁ : Cell} {v : Value} (hstatics : k.statics = some a₁) (hcell : V.heap[a₁]? = some cell₁) (hknown : cell₁.vm ≠ .unknown) (hslot : cell₁.slots[f.slot]? = some v)
    {g : JFrame} (hg : g.method = m) (hdg : decode c.code g.pc = .ok (.getstatic index, 3)) :
    ∃ vm', OwnAt l e s m below c (V.setVm vm') ∧
      ∀ target, Steps p.tables e below ((V.setVm vm').setTop { g with pc := g.pc + 3, stack := v :: g.stack }) target → Steps p.tables e below (V.setTop g) target := by
  have hpl : e.platform.magicAccessors = ({} : Platform).magicAccessors := by rw [X.1.platform]
  obtain ⟨ci', cfl, k', i', f', hi', hlinks, hright⟩ := Cond.fieldLink_spec hown hlink e.platform hpl
  cases hi.symm.trans hi'
  obtain ⟨hk, hf⟩ := State.fieldFound?_spec hi
  obtain ⟨vm', hgives, hW', hready, hfi⟩ := State.fieldEntry (e := e) X.warm hlinks hright hk hf
  obtain ⟨kc, hkc, hekc⟩ := hW'.alike.2.2 _ _ hk
  refine ⟨vm', X.noted hW', fun target hrest => ?_⟩
  subst hg
  have hh := X.here
  jvm_step hh [hexec, hdg, getstatic.wp_cold (e := e) (s := V) (f := g) hh.top hgives hready hfi (Nat.le_of_eq (hW'.2.1.trans X.warm.2.1.symm)),
    getstatic.wp_ready (e := e) (s := V.setVm vm') (f := g) hh.top hready hst hkc (by rw [hekc]; exact hinit) (by rw [hekc]; exact hstatics) (show (V.setVm vm').heap[a₁]? = some cell₁ from hcell) hknown hslot]
  exact hrest
theorem OwnAt.invokestatic (X : OwnAt l e s m below c V) (hexec : p.tables.exec = Jvm.exec)
    {own : String} {index : Nat} {x : MethodName} (hown : s.vm.findClass own = some m.cls) (hlink : (Cond.methodLink own index x).before sargs s = true)
    {m' : MethodId} {meth' : Method} {k' : Class} (hn : s.methodNamed? x = some m') (hm' : s.vm.method? m' = some meth') (hstatic : meth'.isStatic = true)
    (hk' : s.vm.classes[m'.cls]? = some k') (hinit : k'.init = .initialized)
    (hx : x.cls ≠ "java/lang/invoke/MethodHandle" ∧ x.cls ≠ "java/lang/invoke/VarHandle")
    {g : JFrame} (hg : g.method = m) {argsL rest : List Value} (hlen : argsL.length = meth'.sig.parameters.length) (hstack : g.stack = argsL.reverse ++ rest)
    (hdg : decode c.code g.pc = .ok (.invokestatic index, 3)) :
    ∃ vm', OwnAt l e s m below c (V.setVm vm') ∧
      ∀ target, (∀ acts, Steps p.tables e below (doInvoke e ((V.setVm vm').setTop { g with stack := rest }) acts m' argsL.toArray).1 target) → Steps p.tables e below (V.setTop g) target := by
  have hpl : e.platform.magicAccessors = ({} : Platform).magicAccessors := by rw [X.1.platform]
  have hpv : e.platform.polymorphicOnlyByInvokevirtual = true := by rw [X.1.platform]
  obtain ⟨ci, hl, hright⟩ := Cond.methodLink_spec hown hn hlink e.platform hpl
  obtain ⟨kx, hkx, hnx⟩ := className_of_methodNamed hn
  cases hk'.symm.trans hkx
  have hE : s.MethodEntry e V.vm m.cls index m' ci := State.methodEntry X.warm hl hright fun k hk => by
    cases hk'.symm.trans hk
    rw [hnx]; exact hx
  obtain ⟨dk, cfile, nt, mname, mdesc, via, ck, _, hd, hcf, hcp, hnt, -, -, hck, -, hnopoly, -⟩ := hl.here
  cases hk'.symm.trans hck
  have alike := hE.warmed.alike
  obtain ⟨dk₂, hdk₂, hed₂⟩ := alike.2.2 _ _ hd
  obtain ⟨k₂, hk₂, he₂⟩ := alike.2.2 _ _ hk'
  have hnone : (k'.methods.any fun y => y.name == mname && !y.isStatic && signaturePolymorphic k' y) = false := by simp [hnopoly]
  have hnone₂ : (k₂.methods.any fun y => y.name == mname && !y.isStatic && signaturePolymorphic k₂ y) = false := by rw [he₂]; exact hnone
  refine ⟨V.vm.called m.cls ci index m', X.noted hE.warmed, fun target hrest => ?_⟩
  subst hg
  have hh := X.here
  jvm_step hh [hexec, hdg, invokestatic.wp_cold (e := e) (s := V) (s₀ := s) (f := g) hh.top hpv X.warm hE hd hcf hcp hnt hk' hnone,
    invokestatic.wp_ready (e := e) (s := V.setVm (V.vm.called g.method.cls ci index m')) (k := k₂) (meth := meth') (m := m') (args := argsL) (rest := rest) (f := g)
      hh.top ⟨ci, mname, mdesc, via, m'.cls, k₂, memberRef_ask_via (e := e) hdk₂ (by rw [hed₂]; exact hcf) hcp hnt, hE.classReady, hk₂, hnone₂⟩ hE.ready hk₂
      (by show (V.vm.called g.method.cls ci index m').method? m' = some meth'; rw [alike.method?]; exact hm') (by rw [he₂]; exact hnopoly meth') hstatic (by rw [he₂]; exact hinit) hlen hstack]
  exact fun acts => hrest _
/-- room for one frame more, as the machine asks it -/
theorem own_room {f0 g : JFrame} {r : List Frame} (hF : V.frames = .java f0 :: r) {vars : Nat} (h1 : r.length + 1 < (e.platform.stackLimits V.me).1)
    (h2 : (stackUse r).2 + (g.locals.size + 11 + 2 * g.monitorRoom + operandWords g.stack) + vars + 11 ≤ (e.platform.stackLimits V.me).2) :
    e.platform.stackFull (((V.setTop g).threads[(V.setTop g).cur]?).getD { frames := [] }) (V.setTop g).frames vars = false := by
  have ht : V.topJava?.isSome := by rw [State.topJava?_of_frames hF]; rfl
  have hl : e.platform.stackLimits (V.setTop g).me = e.platform.stackLimits V.me := State.stackLimits_setTop _ ht g
  show e.platform.stackFull (V.setTop g).me (V.setTop g).frames vars = false
  rw [State.frames_setTop g hF]
  refine Platform.stackFull_eq_false ?_ ?_
  · rw [hl, List.length_cons]; exact h1
  · rw [hl, stackUse_java]; exact h2
theorem own_plain {V : State} (hW : s.WarmedH V.vm) {m' : MethodId} (h : s.plainMethod m') : V.plainMethod m' := by
  intro k' hk'
  cases hk : s.vm.classes[m'.cls]? with
  | none => rw [hW.alike.none hk] at hk'; cases hk'
  | some k =>
    obtain ⟨k'', hk'', he⟩ := hW.alike.2.2 _ _ hk
    cases hk'.symm.trans hk''
    rw [he]; exact h k hk
theorem own_nw1 : nativeFrameWords "java/lang/Double" "doubleToRawLongBits" 2 = 4 := by decide +kernel
theorem own_nw2 : nativeFrameWords "java/lang/Double" "longBitsToDouble" 2 = 4 := by decide +kernel
/-- the two natives between bits and doubles -/
theorem OwnAt.rawBits (X : OwnAt l e s m below c V) (hexec : p.tables.exec = Jvm.exec) {own : String} {index : Nat} (hown : s.vm.findClass own = some m.cls)
    (hlink : (Cond.methodLink own index ⟨"java/lang/Double", "doubleToRawLongBits", "(D)J"⟩).before sargs s = true) (hnat : (Cond.native ⟨"java/lang/Double", "doubleToRawLongBits", "(D)J"⟩).before sargs s = true) (hstat : (Cond.static ⟨"java/lang/Double", "doubleToRawLongBits", "(D)J"⟩).before sargs s = true) (hinit : (Cond.initialized "java/lang/Double").before sargs s = true)
    {g : JFrame} (hg : g.method = m) {rest : List Value} {b : UInt64} (hstack : g.stack = .double b :: rest) (hdg : decode c.code g.pc = .ok (.invokestatic index, 3))
    {f0 : JFrame} {r : List Frame} (hF : V.frames = .java f0 :: r) (h1 : r.length + 1 < (e.platform.stackLimits V.me).1) (h2 : (stackUse r).2 + (g.locals.size + 11 + 2 * g.monitorRoom + operandWords rest) + 4 + 11 ≤ (e.platform.stackLimits V.me).2) :
    ∃ vm', OwnAt l e s m below c (V.setVm vm') ∧ ∀ target, Steps p.tables e below ((V.setVm vm').setTop { g with pc := g.pc + 3, stack := .long b.toInt64 :: rest }) target → Steps p.tables e below (V.setTop g) target := by
  obtain ⟨r0, kS, methS, hnS, hmS, hkS, N⟩ := NativeOf.of_static hnat hstat (ps := [.double]) (ret := some .long) (by decide +kernel)
  have hinitS : kS.init = .initialized := Cond.initialized_spec (findClass_of_methodNamed hnS) hkS hinit
  obtain ⟨vm', X', step⟩ := X.invokestatic hexec hown hlink hnS hmS N.static hkS hinitS (by decide) hg (argsL := [.double b]) (rest := rest) (by rw [N.sig]; rfl) hstack hdg
  refine ⟨vm', X', fun target hrest => step target fun acts => ?_⟩
  subst hg
  obtain ⟨kS', N'⟩ := N.alike X'.warm.alike
  exact Steps.doubleToRawLongBitsOf (g := { g with stack := rest }) (ig := .invokestatic index) (len := 3) p X'.here acts N' b (own_room (V := V.setVm vm') (g := { g with stack := rest }) hF h1 (by rw [own_nw1]; exact h2)) hdg hrest
theorem OwnAt.bitsRaw (X : OwnAt l e s m below c V) (hexec : p.tables.exec = Jvm.exec) {own : String} {index : Nat} (hown : s.vm.findClass own = some m.cls)
    (hlink : (Cond.methodLink own index ⟨"java/lang/Double", "longBitsToDouble", "(J)D"⟩).before sargs s = true) (hnat : (Cond.native ⟨"java/lang/Double", "longBitsToDouble", "(J)D"⟩).before sargs s = true) (hstat : (Cond.static ⟨"java/lang/Double", "longBitsToDouble", "(J)D"⟩).before sargs s = true) (hinit : (Cond.initialized "java/lang/Double").before sargs s = true)
    {g : JFrame} (hg : g.method = m) {rest : List Value} {b : Int64} (hv : (b.toUInt64 &&& 0x7fffffffffffffff > 0x7ff0000000000000 && b.toUInt64 &&& 0x0008000000000000 == 0) = false) (hstack : g.stack = .long b :: rest) (hdg : decode c.code g.pc = .ok (.invokestatic index, 3))
    {f0 : JFrame} {r : List Frame} (hF : V.frames = .java f0 :: r) (h1 : r.length + 1 < (e.platform.stackLimits V.me).1) (h2 : (stackUse r).2 + (g.locals.size + 11 + 2 * g.monitorRoom + operandWords rest) + 4 + 11 ≤ (e.platform.stackLimits V.me).2) :
    ∃ vm', OwnAt l e s m below c (V.setVm vm') ∧ ∀ target, Steps p.tables e below ((V.setVm vm').setTop { g with pc := g.pc + 3, stack := .double b.toUInt64 :: rest }) target → Steps p.tables e below (V.setTop g) target := by
  obtain ⟨r0, kS, methS, hnS, hmS, hkS, N⟩ := NativeOf.of_static hnat hstat (ps := [.long]) (ret := some .double) (by decide +kernel)
  have hinitS : kS.init = .initialized := Cond.initialized_spec (findClass_of_methodNamed hnS) hkS hinit
  obtain ⟨vm', X', step⟩ := X.invokestatic hexec hown hlink hnS hmS N.static hkS hinitS (by decide) hg (argsL := [.long b]) (rest := rest) (by rw [N.sig]; rfl) hstack hdg
  refine ⟨vm', X', fun target hrest => step target fun acts => ?_⟩
  subst hg
  obtain ⟨kS', N'⟩ := N.alike X'.warm.alike
  exact Steps.longBitsToDoubleOf (g := { g with stack := rest }) (ig := .invokestatic index) (len := 3) p X'.here acts N' b (own_room (V := V.setVm vm') (g := { g with stack := rest }) hF h1 (by rw [own_nw2]; exact h2)) hv hdg hrest
/-- returns, into whatever lies below -/
theorem own_retI {T target : State} {meth : Method} (h : At T m c below) (hx : p.tables.exec = Jvm.exec) (hm : T.vm.method? m = some meth) (hret : meth.sig.returnType = some .int) {pc : Nat} {Ls : Array Slot} {z : Int32} {rest : List Value} (hd : decode c.code pc = .ok (.ireturn, 1))
    (hl : ∀ (f : JFrame) (acts : List Action), f.method = m → f.locked = none → f.entered = [] → Steps p.tables e below (doReturn e (T.setTop f) acts (some (.int z))).1 target) : Steps p.tables e below (T.setTop (mkF m pc Ls (.int z :: rest))) target := by
  have hn : narrow .int (.int z) = .int z := rfl
  show Steps p.tables e below (T.setTop { method := m, pc := pc, locals := Ls, stack := _ :: rest, locked := none }) _
  jvm_step h [h.top, hx, hd, hm, hret, hn]
  first | (intro acts; exact hl _ acts rfl rfl rfl) | exact hl _ _ rfl rfl rfl | (refine ⟨meth, hm, ⟨_, hret, rfl⟩, fun acts => ?_⟩; exact hl _ acts rfl rfl rfl)
theorem own_retD {T target : State} {meth : Method} (h : At T m c below) (hx : p.tables.exec = Jvm.exec) (hm : T.vm.method? m = some meth) (hret : meth.sig.returnType = some .double) {pc : Nat} {Ls : Array Slot} {z : UInt64} {rest : List Value} (hd : decode c.code pc = .ok (.dreturn, 1))
    (hl : ∀ (f : JFrame) (acts : List Action), f.method = m → f.locked = none → f.entered = [] → Steps p.tables e below (doReturn e (T.setTop f) acts (some (.double z))).1 target) : Steps p.tables e below (T.setTop (mkF m pc Ls (.double z :: rest))) target := by
  have hn : narrow .double (.double z) = .double z := rfl
  show Steps p.tables e below (T.setTop { method := m, pc := pc, locals := Ls, stack := _ :: rest, locked := none }) _
  jvm_step h [h.top, hx, hd, hm, hret, hn]
  first | (intro acts; exact hl _ acts rfl rfl rfl) | exact hl _ _ rfl rfl rfl | (refine ⟨meth, hm, ⟨_, hret, rfl⟩, fun acts => ?_⟩; exact hl _ acts rfl rfl rfl)
/-- what 'code' says of a method -/
theorem own_body {x : MethodName} {code : ByteArray} {n : Nat} {ret : Option FieldType} (hC : (Cond.code x code n ret).before sargs s = true) :
    ∃ m meth c k, s.methodNamed? x = some m ∧ s.vm.method? m = some meth ∧ meth.code = some c ∧ c.code = code ∧ c.maxLocals = n ∧ meth.sig.returnType = ret ∧ meth.locks = false ∧ parseMethodDescriptor x.desc = some meth.sig ∧ s.vm.classes[m.cls]? = some k ∧ k.name = x.cls ∧ s.vm.findClass x.cls = some m.cls := by
  obtain ⟨m, hn⟩ := Cond.code_named hC
  obtain ⟨meth, c, h1, h2, h3, h4, h5, h6, -, h8⟩ := Cond.code_spec hn hC
  obtain ⟨k, hk, hkn⟩ := className_of_methodNamed hn
  exact ⟨m, meth, c, k, hn, h1, h2, h3, h4, h5, h6, h8, hk, hkn, findClass_of_methodNamed hn⟩
set_option maxHeartbeats 4000000 in
/-- a static call whose callee is walked too -/
theorem OwnAt.call (X : OwnAt l e s m below c V) (hexec : p.tables.exec = Jvm.exec) {own : String} {index : Nat} {x : MethodName} (hown : s.vm.findClass own = some m.cls) (hlink : (Cond.methodLink own index x).before sargs s = true)
    {m' : MethodId} {meth' : Method} {k' : Class} {c' : Code} (hn : s.methodNamed? x = some m') (hm' : s.vm.method? m' = some meth') (hstatic : meth'.isStatic = true)
    (hk' : s.vm.classes[m'.cls]? = some k') (hinit : k'.init = .initialized) (hx : x.cls ≠ "java/lang/invoke/MethodHandle" ∧ x.cls ≠ "java/lang/invoke/VarHandle")
    (hc' : meth'.code = some c') (hlk : meth'.locks = false) (hpl : plainFor x = true)
    {g : JFrame} (hg : g.method = m) {argsL rest : List Value} (hlen : argsL.length = meth'.sig.parameters.length) (hstack : g.stack = argsL.reverse ++ rest) (hdg : decode c.code g.pc = .ok (.invokestatic index, 3))
    {f0 : JFrame} {r : List Frame} (hF : V.frames = .java f0 :: r) (h1 : r.length + 1 < (e.platform.stackLimits V.me).1) (h2 : (stackUse r).2 + (g.locals.size + 11 + 2 * g.monitorRoom + operandWords rest) + c'.maxLocals + 11 ≤ (e.platform.stackLimits V.me).2) {v : Value}
    (hbody : ∀ (U : State), OwnAt l e s m' below c' U → U.frames = .java (entryFrame m' argsL.toArray c'.maxLocals) :: .java { g with stack := rest } :: r → U.heap = V.heap → e.platform.stackLimits U.me = e.platform.stackLimits V.me →
      ∃ vm', s.WarmedH vm' ∧ ∀ target, (∀ (f : JFrame) (acts : List Action), f.method = m' → f.locked = none → f.entered = [] → Steps p.tables e below (doReturn e ((U.setVm vm').setTop f) acts (some v)).1 target) → Steps p.tables e below (U.setTop (entryFrame m' argsL.toArray c'.maxLocals)) target) :
    ∃ vm', OwnAt l e s m below c (V.setVm vm') ∧ ∀ target, Steps p.tables e below ((V.setVm vm').setTop { g with pc := g.pc + 3, stack := v :: rest }) target → Steps p.tables e below (V.setTop g) target := by
  obtain ⟨vm1, X1, step⟩ := X.invokestatic hexec hown hlink hn hm' hstatic hk' hinit hx hg hlen hstack hdg
  subst hg
  have hcur : V.cur < V.threads.size := State.cur_lt_of_frames hF
  have hF1 : (V.setVm vm1).frames = .java f0 :: r := hF
  have hU : ((V.setVm vm1).setTop { g with stack := rest }).pushFrame (.java (entryFrame m' argsL.toArray c'.maxLocals)) = (V.setVm vm1).setFrames (.java (entryFrame m' argsL.toArray c'.maxLocals) :: .java { g with stack := rest } :: r) := by
    rw [State.pushFrame, State.frames_setTop _ hF1, State.setTop_of_frames _ hF1, State.setFrames_setFrames]
  have hmV : (V.setVm vm1).vm.method? m' = some meth' := by rw [X1.warm.alike.method?]; exact hm'
  have hAt := At.enter (g := { g with stack := rest }) X1.here argsL.toArray hmV hc' (own_plain X1.warm (State.plainMethod.of_named hpl hn hm'))
  have hent := fun acts => doInvoke_enter (e := e) (g := { g with stack := rest }) X1.here.top (args := argsL.toArray) acts hmV hc' hlk (own_room (V := V.setVm vm1) (g := { g with stack := rest }) hF1 h1 h2)
  rw [hU] at hAt hent
  have hfU : ((V.setVm vm1).setFrames (.java (entryFrame m' argsL.toArray c'.maxLocals) :: .java { g with stack := rest } :: r)).frames = .java (entryFrame m' argsL.toArray c'.maxLocals) :: .java { g with stack := rest } :: r := State.frames_setFrames _ hcur
  have XU : OwnAt l e s m' below c' ((V.setVm vm1).setFrames (.java (entryFrame m' argsL.toArray c'.maxLocals) :: .java { g with stack := rest } :: r)) := And.intro X.1 (And.intro (show s.WarmedH vm1 from X1.warm) hAt)
  obtain ⟨vm2, hW2, walk⟩ := hbody _ XU hfU rfl (State.stackLimits_setFrames _ _ _)
  refine ⟨vm2, X.noted hW2, fun target hrest => step target fun acts => ?_⟩
  rw [hent acts]
  refine walk target fun f acts2 q1 q2 q3 => ?_
  have hcg : (V.setVm vm2).code? g.method = some c := (X.noted hW2).here.code
  rw [doReturn_leave (e := e) (u := ((V.setVm vm1).setFrames (.java (entryFrame m' argsL.toArray c'.maxLocals) :: .java { g with stack := rest } :: r)).setVm vm2) (f := f) (g := { g with stack := rest }) (r := r) (meth := meth') (cg := c) (ig := .invokestatic index) (len := 3) (v := some v) acts2 hfU
    (by rw [q1]; show vm2.method? m' = some meth'; rw [hW2.alike.method?]; exact hm') hlk q2 q3 (by rw [State.code?_eq] at hcg ⊢; exact hcg) hdg]
  have hG : (((V.setVm vm1).setFrames (.java (entryFrame m' argsL.toArray c'.maxLocals) :: .java { g with stack := rest } :: r)).setVm vm2).setFrames (.java { g with stack := rest } :: r) = (V.setVm vm2).setTop { g with stack := rest } := by
    show ((V.setVm vm2).setFrames (.java (entryFrame m' argsL.toArray c'.maxLocals) :: .java { g with stack := rest } :: r)).setFrames (.java { g with stack := rest } :: r) = _
    rw [State.setFrames_setFrames, State.setTop_of_frames _ (show (V.setVm vm2).frames = .java f0 :: r from hF)]
  rw [hG, State.setTop_setTop]
  exact hrest
/-- Math.floor's entry: into StrictMath.floor, which is walked, and back -/
theorem own_mfloor (p : Program) {e : Env} {below : List Frame} {s : State} {g g₀ : JFrame} {r : List Frame} {c : Code} (hr : s.frames = .java g₀ :: r) (hbelow : ∃ mid, r = mid ++ below)
    (hrunning : s.status = .running) (hrunnable : s.curStatus? = some .runnable) (haloneS : s.alone = true) (hcodeG : s.code? g.method = some c)
    {m : MethodId} {meth : Method} {k : Class} {cm : Code} {b : UInt64} (acts : List Action)
    (hk : s.vm.classes[m.cls]? = some k) (hx : k.methods[m.idx]? = some meth) (hboot : k.loader = none)
    (hkn : k.name = "java/lang/Math") (hmn : meth.name = "floor") (hmd : meth.desc = "(D)D") (hsig : parseMethodDescriptor "(D)D" = some meth.sig)
    (hc : meth.code = some cm) (hml : cm.maxLocals = 2) (hl : meth.locks = false)
    (hfull : e.platform.stackFull (((s.setTop g).threads[(s.setTop g).cur]?).getD { frames := [] }) (s.setTop g).frames 2 = false)
    {cS : ClassId} {kS : Class} {i : Nat} (hfS : s.vm.findClass "java/lang/StrictMath" = some cS) (hkS : s.vm.classes[cS]? = some kS) (hiS : kS.init = .initialized) (hmS : kS.findMethod "floor" "(D)D" = some i)
    {methS : Method} {cd : Code} (hmethS : s.vm.method? ⟨cS, i⟩ = some methS) (hcS : methS.code = some cd) (hmlS : cd.maxLocals = 2) (hlS : methS.locks = false)
    {nf : NFrame} (hnf : nf = { method := m, args := #[.double b], stage := 1, saved := #[], awaiting := true, answer := none, words := 0 })
    (hfull2 : e.platform.stackFull (((s.setFrames (.native nf :: .java g :: r)).threads[(s.setFrames (.native nf :: .java g :: r)).cur]?).getD { frames := [] }) (s.setFrames (.native nf :: .java g :: r)).frames 2 = false)
    {vm2 : Vm} {v : UInt64} (hal : s.vm.Alike vm2) (hn : v &&& 0x7fffffffffffffff ≤ 0x7ff0000000000000) {ig : Instr} {len : Nat} (hdg : decode c.code g.pc = .ok (ig, len))
    (hwalk : ∀ target, (∀ (f : JFrame) (acts : List Action), f.method = ⟨cS, i⟩ → f.locked = none → f.entered = [] → Steps p.tables e below (doReturn e (((s.setFrames (.java (entryFrame ⟨cS, i⟩ #[.double b] 2) :: .native nf :: .java g :: r)).setVm vm2).setTop f) acts (some (.double v))).1 target) →
      Steps p.tables e below ((s.setFrames (.java (entryFrame ⟨cS, i⟩ #[.double b] 2) :: .native nf :: .java g :: r)).setTop (entryFrame ⟨cS, i⟩ #[.double b] 2)) target)
    {target : State} (hrest : Steps p.tables e below ((s.setVm vm2).setFrames (.java { g with pc := g.pc + len, stack := .double v :: g.stack } :: r)) target) :
    Steps p.tables e below (doInvoke e (s.setTop g) acts m #[.double b]).1 target := by
  obtain ⟨mid, hmid⟩ := hbelow
  subst hnf
  have hcur : s.cur < s.threads.size := State.cur_lt_of_frames hr
  have hm : s.vm.method? m = some meth := by simp [Vm.method?, hk, hx]
  have htop : s.setTop g = s.setFrames (.java g :: r) := State.setTop_of_frames _ hr
  rw [(doInvoke_java (s := s.setTop g) (e := e) (acts := acts) (args := #[.double b]) (meth := meth) (code := cm) hm hc hl (by rw [hml]; exact hfull)).1, hml]
  have hU : (s.setTop g).pushFrame (.java { method := m, pc := 0, locals := argsToLocals #[.double b] 2, stack := [], locked := none }) = s.setFrames (.java (entryFrame m #[.double b] 2) :: .java g :: r) := by
    rw [State.pushFrame, State.frames_setTop _ hr, htop, State.setFrames_setFrames]
    rfl
  rw [hU]
  have hf1 : (s.setFrames (.java (entryFrame m #[.double b] 2) :: .java g :: r)).frames = .java (entryFrame m #[.double b] 2) :: .java g :: r := State.frames_setFrames _ hcur
  have hov : overridden p.tables e (s.setFrames (.java (entryFrame m #[.double b] 2) :: .java g :: r)) (entryFrame m #[.double b] 2) = some Hsc.floorRow :=
    Jvm.Free.Fl.Abs.overridden_some (k := k) (x := meth) rfl hk (by rw [hkn]; decide) hboot hx (by rw [hkn, hmn, hmd]; exact Hsc.floor_row p)
  have hb2 : ∀ F : List Frame, ((s.setFrames F).vm.classes[m.cls]?.bind fun y => y.methods[m.idx]?) = some meth := by
    intro F
    show (s.vm.classes[m.cls]?.bind fun y => y.methods[m.idx]?) = some meth
    simp [hk, hx]
  have hsig2 : parseMethodDescriptor "(D)D" = some { parameters := [.double], returnType := some .double } := by decide +kernel
  have hparams : meth.sig.parameters.length = 1 := by
    have h3 := hsig
    rw [hsig2] at h3
    rw [← Option.some.inj h3]
    rfl
  have htake : ∀ n : Nat, List.take (1 + n) [Value.double b] = [Value.double b] := fun n => List.take_of_length_le (Nat.le_add_right 1 n)
  obtain ⟨acts₂, hr2⟩ := Hsc.floor_run b e (s.setFrames (.native { method := m, args := #[.double b] } :: .java g :: r)) (cS := cS) (kS := kS) (i := i) hfS hkS hiS hmS
  have hwords : ∀ F : List Frame, (((s.setFrames F).vm.classes[m.cls]?).bind fun k => (k.methods[m.idx]?).map fun n => upcallWords k.name n.name).getD 0 = 0 := by
    intro F
    show ((s.vm.classes[m.cls]?).bind fun k => (k.methods[m.idx]?).map fun n => upcallWords k.name n.name).getD 0 = 0
    simp [hk, hx, hkn, hmn, upcallWords]
  have hstep2 : (stepThread p.tables e (s.setFrames (.java (entryFrame m #[.double b] 2) :: .java g :: r))).1 = (doInvoke e (s.setFrames (.native { method := m, args := #[.double b], stage := 1, saved := #[], awaiting := true, answer := none, words := 0 } :: .java g :: r)) acts₂ ⟨cS, i⟩ #[.double b]).1 := by
    unfold stepThread
    simp only [hf1, hov]
    have hb3 : (s.vm.classes[m.cls]?.bind fun x => x.methods[m.idx]?) = some meth := by simp [hk, hx]
    have hw3 : ((s.vm.classes[m.cls]?).bind fun k => Option.map (fun n => upcallWords k.name n.name) k.methods[m.idx]?).getD 0 = 0 := by simp [hk, hx, hkn, hmn, upcallWords]
    simp [entryFrame, argsToLocals, Value.category, argCount, hb2, hb3, hparams, htake, hr2, afterNative, hwords, hw3, State.setFrames_setFrames]
  refine Steps.head ⟨hrunning, by simpa using hrunnable, by simpa using haloneS⟩ ⟨.java (entryFrame m #[.double b] 2) :: .java g :: mid, by rw [hf1, hmid]; rfl, by simp, by simp⟩ ?_
  rw [hstep2, (doInvoke_java (s := s.setFrames (.native { method := m, args := #[.double b], stage := 1, saved := #[], awaiting := true, answer := none, words := 0 } :: .java g :: r)) (e := e) (acts := acts₂) (args := #[.double b]) (meth := methS) (code := cd) hmethS hcS hlS (by rw [hmlS]; exact hfull2)).1, hmlS]
  have hf2 : (s.setFrames (.java (entryFrame ⟨cS, i⟩ #[.double b] 2) :: .native { method := m, args := #[.double b], stage := 1, saved := #[], awaiting := true, answer := none, words := 0 } :: .java g :: r)).frames = .java (entryFrame ⟨cS, i⟩ #[.double b] 2) :: .native { method := m, args := #[.double b], stage := 1, saved := #[], awaiting := true, answer := none, words := 0 } :: .java g :: r := State.frames_setFrames _ hcur
  have hU2 : (s.setFrames (.native { method := m, args := #[.double b], stage := 1, saved := #[], awaiting := true, answer := none, words := 0 } :: .java g :: r)).pushFrame (.java { method := ⟨cS, i⟩, pc := 0, locals := argsToLocals #[.double b] 2, stack := [], locked := none }) = (s.setFrames (.java (entryFrame ⟨cS, i⟩ #[.double b] 2) :: .native { method := m, args := #[.double b], stage := 1, saved := #[], awaiting := true, answer := none, words := 0 } :: .java g :: r)).setTop (entryFrame ⟨cS, i⟩ #[.double b] 2) := by
    rw [State.setTop_self (State.topJava?_of_frames hf2), State.pushFrame, State.frames_setFrames _ hcur, State.setFrames_setFrames]
    rfl
  rw [hU2]
  refine hwalk _ fun f acts3 q1 q2 q3 => ?_
  have hf3 : ((s.setFrames (.java (entryFrame ⟨cS, i⟩ #[.double b] 2) :: .native { method := m, args := #[.double b], stage := 1, saved := #[], awaiting := true, answer := none, words := 0 } :: .java g :: r)).setVm vm2).frames = .java (entryFrame ⟨cS, i⟩ #[.double b] 2) :: .native { method := m, args := #[.double b], stage := 1, saved := #[], awaiting := true, answer := none, words := 0 } :: .java g :: r := hf2
  rw [(doReturn_plain (e := e) (s := ((s.setFrames (.java (entryFrame ⟨cS, i⟩ #[.double b] 2) :: .native { method := m, args := #[.double b], stage := 1, saved := #[], awaiting := true, answer := none, words := 0 } :: .java g :: r)).setVm vm2).setTop f) (acts := acts3) (v := some (.double v)) (f := f) (below := .native { method := m, args := #[.double b], stage := 1, saved := #[], awaiting := true, answer := none, words := 0 } :: .java g :: r) (fs := .native { method := m, args := #[.double b], stage := 1, saved := #[], awaiting := false, answer := some (.returned (some (.double v))), words := 0 } :: .java g :: r) (meth := methS)
    (State.frames_setTop f hf3) (by rw [q1]; show vm2.method? ⟨cS, i⟩ = some methS; rw [hal.method?]; exact hmethS) hlS q2 q3 rfl).1]
  have e4 : ∀ G : List Frame, (((s.setFrames (.java (entryFrame ⟨cS, i⟩ #[.double b] 2) :: .native { method := m, args := #[.double b], stage := 1, saved := #[], awaiting := true, answer := none, words := 0 } :: .java g :: r)).setVm vm2).setTop f).setFrames G = (s.setVm vm2).setFrames G := by
    intro G
    rw [State.setTop_of_frames f hf3, State.setFrames_setFrames]
    show ((s.setVm vm2).setFrames _).setFrames G = _
    rw [State.setFrames_setFrames]
  rw [e4]
  have hf4 : ((s.setVm vm2).setFrames (.native { method := m, args := #[.double b], stage := 1, saved := #[], awaiting := false, answer := some (.returned (some (.double v))), words := 0 } :: .java g :: r)).frames = .native { method := m, args := #[.double b], stage := 1, saved := #[], awaiting := false, answer := some (.returned (some (.double v))), words := 0 } :: .java g :: r := State.frames_setFrames (s := s.setVm vm2) _ hcur
  obtain ⟨k', hk', ek⟩ := hal.2.2 _ _ hk
  have hboot' : k'.loader = none := by rw [ek]; exact hboot
  have hx' : k'.methods[m.idx]? = some meth := by rw [ek]; exact hx
  have hkn' : k'.name = "java/lang/Math" := by rw [ek]; exact hkn
  obtain ⟨acts₄, hr4⟩ := Hsc.floor_resume hn e ((s.setVm vm2).setFrames (.native { method := m, args := #[.double b], stage := 1, saved := #[], awaiting := false, answer := some (.returned (some (.double v))), words := 0 } :: .java g :: r))
  have hcode2 : ((s.setVm vm2).setFrames (.native { method := m, args := #[.double b], stage := 1, saved := #[], awaiting := false, answer := some (.returned (some (.double v))), words := 0 } :: .java g :: r)).code? g.method = some c := by
    rw [State.code?_eq] at hcodeG ⊢
    show (vm2.method? g.method).bind _ = _
    rw [hal.method?]; exact hcodeG
  have hfs : handOver ((s.setVm vm2).setFrames (.native { method := m, args := #[.double b], stage := 1, saved := #[], awaiting := false, answer := some (.returned (some (.double v))), words := 0 } :: .java g :: r)) (some (.double v)) (.java g :: r) = some (.java { g with pc := g.pc + len, stack := .double v :: g.stack } :: r) := by
    simp [handOver, hcode2, hdg, Except.toOption]
  have hstep4 : (stepThread p.tables e ((s.setVm vm2).setFrames (.native { method := m, args := #[.double b], stage := 1, saved := #[], awaiting := false, answer := some (.returned (some (.double v))), words := 0 } :: .java g :: r))).1 = (s.setVm vm2).setFrames (.java { g with pc := g.pc + len, stack := .double v :: g.stack } :: r) := by
    rw [Hsc.stepThread_resumed' (f := { method := m, args := #[.double b], stage := 1, saved := #[], awaiting := false, answer := some (.returned (some (.double v))), words := 0 }) (o := .returned (some (.double v))) hf4 hk' hboot' hx' (by rw [hkn', hmn, hmd]; exact Hsc.floor_row p) rfl]
    show (afterNative e _ _ ((Hsc.floorRow.resume 1 #[] (.returned (some (.double v)))).run e _)).1 = _
    rw [hr4]
    refine (doReturn_native (f := { method := m, args := #[.double b], stage := 1, saved := #[], awaiting := false, answer := some (.returned (some (.double v))), words := 0 }) hf4 rfl hfs).trans ?_
    rw [State.setFrames_setFrames]
  have hrun4 : (s.setVm vm2).curStatus? = some .runnable := hrunnable
  have hal4 : (s.setVm vm2).alone = true := haloneS
  refine Steps.head ⟨hrunning, by simpa using hrun4, by simpa using hal4⟩ ⟨.native { method := m, args := #[.double b], stage := 1, saved := #[], awaiting := false, answer := some (.returned (some (.double v))), words := 0 } :: .java g :: mid, by rw [hf4, hmid]; rfl, by simp, by simp⟩ ?_
  rw [hstep4]
  exact hrest
end OwnRaw
end Jvm.RoadKit
namespace Jvm.Pilot.@@N@@
open Jvm Jvm.ClassFile Sem Op Lib Jvm.Free Jvm.Stand Jvm.LawKit Jvm.RoadKit Bundle Jvm.Pilot.@@N@@.Jvm.D

def own_exp (d1 : UInt64) : Int32 := (((((d1.toInt64) &&& (9218868437227405312 : Int64)) >>> ((52 : Int32) &&& 0x3f).toInt64) - (1023 : Int64)).toInt32)
def own_cut (d1 : UInt64) : UInt64 := ((d1.toInt64) &&& (((4503599627370495 : Int64) >>> ((own_exp d1) &&& 0x3f).toInt64) ^^^ (-1 : Int64))).toUInt64
def OwnFloor (d1 : UInt64) : Prop := ¬ ((own_exp d1) < (0 : Int32)) ∧ (own_exp d1) < (52 : Int32) ∧ ¬ ((lcmpW (((4503599627370495 : Int64) >>> ((own_exp d1) &&& 0x3f).toInt64) &&& (d1.toInt64)) (0 : Int64)) = (0 : Int32)) ∧ OwnNum (FP.dmul (13830554455654793216 : UInt64) d1) ∧ ¬ ((0 : Int32) < (cmpValue (FP.dcmp (FP.dmul (13830554455654793216 : UInt64) d1) (0 : UInt64)) .l)) ∧
  (((d1.toInt64) &&& (((4503599627370495 : Int64) >>> ((own_exp d1) &&& 0x3f).toInt64) ^^^ (-1 : Int64))).toUInt64 &&& 0x7fffffffffffffff > 0x7ff0000000000000 && ((d1.toInt64) &&& (((4503599627370495 : Int64) >>> ((own_exp d1) &&& 0x3f).toInt64) ^^^ (-1 : Int64))).toUInt64 &&& 0x0008000000000000 == 0) = false ∧ OwnNum (own_cut d1)
def OwnRound (d1 : UInt64) : Prop := (lcmpW (((1074 : Int64) - (((d1.toInt64) &&& (9218868437227405312 : Int64)) >>> ((52 : Int32) &&& 0x3f).toInt64)) &&& (-64 : Int64)) (0 : Int64)) = (0 : Int32) ∧ ¬ ((lcmpW (d1.toInt64) (0 : Int64)) < (0 : Int32))
def own_round (d1 : UInt64) : Int64 := ((((((d1.toInt64) &&& (4503599627370495 : Int64)) ||| (4503599627370496 : Int64)) >>> ((((1074 : Int64) - (((d1.toInt64) &&& (9218868437227405312 : Int64)) >>> ((52 : Int32) &&& 0x3f).toInt64)).toInt32) &&& 0x3f).toInt64) + (1 : Int64)) >>> ((1 : Int32) &&& 0x3f).toInt64)
def own_minJ (x y : Int64) : Int64 := if (0 : Int32) < (lcmpW x y) then y else x
theorem own_minJ_a {x y : Int64} (h : (0 : Int32) < (lcmpW x y)) : own_minJ x y = y := if_pos h
theorem own_minJ_b {x y : Int64} (h : ¬ ((0 : Int32) < (lcmpW x y))) : own_minJ x y = x := if_neg h
def own_maxJ (x y : Int64) : Int64 := if (lcmpW x y) < (0 : Int32) then y else x
theorem own_maxJ_a {x y : Int64} (h : (lcmpW x y) < (0 : Int32)) : own_maxJ x y = y := if_pos h
theorem own_maxJ_b {x y : Int64} (h : ¬ ((lcmpW x y) < (0 : Int32))) : own_maxJ x y = x := if_neg h
def own_bit (x : Int32) : Int32 := if x = (0 : Int32) then 0 else 1
theorem own_bit_a {x : Int32} (h : x = (0 : Int32)) : own_bit x = (0 : Int32) := if_pos h
theorem own_bit_b {x : Int32} (h : ¬ (x = (0 : Int32))) : own_bit x = (1 : Int32) := if_neg h
theorem own_bit_01 (x : Int32) : own_bit x = (0 : Int32) ∨ own_bit x = (1 : Int32) := by
  by_cases h : x = (0 : Int32)
  · exact Or.inl (own_bit_a h)
  · exact Or.inr (own_bit_b h)
theorem own_nn {x : Int32} (h : x = (0 : Int32) ∨ x = (1 : Int32)) : ¬ (x < (0 : Int32)) := by rcases h with rfl | rfl <;> decide
def own_not (x : Int32) : Int32 := if x = (0 : Int32) then 1 else 0
theorem own_not_a {x : Int32} (h : x = (0 : Int32)) : own_not x = (1 : Int32) := if_pos h
theorem own_not_b {x : Int32} (h : ¬ (x = (0 : Int32))) : own_not x = (0 : Int32) := if_neg h
def OwnLink (d1 d2 d3 : UInt64) (p2 : Int32) : Prop := (0 : Int32) < (cmpValue (FP.dcmp d1 (0 : UInt64)) .l) ∧ ¬ ((cmpValue (FP.dcmp d2 (0 : UInt64)) .l) < (0 : Int32)) ∧ ¬ ((cmpValue (FP.dcmp d3 (0 : UInt64)) .l) < (0 : Int32)) ∧ ¬ (p2 < (1 : Int32))
theorem own_link : OwnLink (4655631299166339072 : UInt64) (4636737291354636288 : UInt64) (4621819117588971520 : UInt64) 1 := by unfold OwnLink; decide +kernel
theorem own_r10 : OwnRound (4621819117588971520 : UInt64) := by unfold OwnRound; decide +kernel
theorem own_n18 : OwnNum (FP.dmul (4655631299166339072 : UInt64) (4652007308841189376 : UInt64)) := by decide +kernel
theorem own_r18 : OwnRound (FP.dmul (4655631299166339072 : UInt64) (4652007308841189376 : UInt64)) := by unfold OwnRound; decide +kernel
theorem own_n1 : OwnNum (FP.dmul (4636737291354636288 : UInt64) (FP.i2d (1 : Int32))) := by decide +kernel
theorem own_n2 : OwnNum (FP.ddiv (FP.dmul (4636737291354636288 : UInt64) (FP.i2d (1 : Int32))) (4620130267728707584 : UInt64)) := by decide +kernel
theorem own_fl : OwnFloor (FP.ddiv (FP.dmul (4636737291354636288 : UInt64) (FP.i2d (1 : Int32))) (4620130267728707584 : UInt64)) := by unfold OwnFloor; decide +kernel
theorem own_nb : OwnNum (4746794007244308480 : UInt64) := by decide +kernel
theorem own_no : OwnNum (4607182418800017408 : UInt64) := by decide +kernel
theorem own_np : OwnNum (Native.java_lang_Math.nans.pick64 false (4746794007244308480 : UInt64) (own_cut (FP.ddiv (FP.dmul (4636737291354636288 : UInt64) (FP.i2d (1 : Int32))) (4620130267728707584 : UInt64)))) := by decide +kernel
theorem own_ef1 (m : MethodId) (x0 : UInt64) : entryFrame m #[(.double x0)] 2 = mkF m 0 #[.val (.double x0), .second] [] := by first | (simp [entryFrame, mkF, argsToLocals, Value.category]; done) | rfl
theorem own_ef4 (m : MethodId) (x0 x1 x2 x3 : UInt64) : entryFrame m #[(.double x0), (.double x1), (.double x2), (.double x3)] 15 = mkF m 0 #[.val (.double x0), .second, .val (.double x1), .second, .val (.double x2), .second, .val (.double x3), .second, .unset, .unset, .unset, .unset, .unset, .unset, .unset] [] := by first | (simp [entryFrame, mkF, argsToLocals, Value.category]; done) | rfl
theorem d16_1 : decode jdk_29_method_92_code 1 = .ok (.invokestatic 79, 3) := by decide +kernel
theorem d16_0 : decode jdk_29_method_92_code 0 = .ok (.dload_n 0, 1) := by decide +kernel
theorem d16_4 : decode jdk_29_method_92_code 4 = .ok (.ldc2_w 87, 3) := by decide +kernel
theorem d16_7 : decode jdk_29_method_92_code 7 = .ok (.land, 1) := by decide +kernel
theorem d16_8 : decode jdk_29_method_92_code 8 = .ok (.bipush 52, 2) := by decide +kernel
theorem d16_10 : decode jdk_29_method_92_code 10 = .ok (.lshr, 1) := by decide +kernel
theorem d16_11 : decode jdk_29_method_92_code 11 = .ok (.ldc2_w 322, 3) := by decide +kernel
theorem d16_14 : decode jdk_29_method_92_code 14 = .ok (.lsub, 1) := by decide +kernel
theorem d16_15 : decode jdk_29_method_92_code 15 = .ok (.l2i, 1) := by decide +kernel
theorem d16_16 : decode jdk_29_method_92_code 16 = .ok (.ireturn, 1) := by decide +kernel
set_option maxRecDepth 65536 in
set_option maxHeartbeats 40000000 in
theorem own_raw_exp {Z : State} {a0 : Array Value} (hw : ∀ d ∈ tables_1, d.before a0 Z = true) {p : Program} {l : Launch} {e : Env} {s U : State} {m : MethodId} {below : List Frame} {c : Code} {meth : Method} (hZ : Z.Warmed39 s.vm) (hx : p.tables.exec = Jvm.exec) (X0 : OwnAt l e s m below c U) (hby : c.code = jdk_29_method_92_code)
    (hown : s.vm.findClass "java/lang/Math" = some m.cls) (hm : s.vm.method? m = some meth) (hret : meth.sig.returnType = some .int) {f0 : JFrame} {r : List Frame} (hF : U.frames = .java f0 :: r) (h1 : r.length + 1 < (e.platform.stackLimits U.me).1) (h2 : (stackUse r).2 + 60 ≤ (e.platform.stackLimits U.me).2) (d1 : UInt64) :
    ∃ vm', s.WarmedH vm' ∧ ∀ target, (∀ (f : JFrame) (acts : List Action), f.method = m → f.locked = none → f.entered = [] → Steps p.tables e below (doReturn e ((U.setVm vm').setTop f) acts (some (.int (own_exp d1)))).1 target) → Steps p.tables e below (U.setTop (mkF m 0 #[.val (.double d1), .second] [])) target := by
  obtain ⟨vm1, X1, st1⟩ := X0.rawBits (sargs := a0) hx hown (mvT hZ (hw _ (List.mem_of_getElem? (i := 84) rfl))) (mvT hZ (hw _ (List.mem_of_getElem? (i := 87) rfl))) (mvT hZ (hw _ (List.mem_of_getElem? (i := 85) rfl))) (mvT hZ (hw _ (List.mem_of_getElem? (i := 86) rfl))) (g := (mkF m 1 #[.val (.double d1), .second] [(.double d1)])) rfl (rest := []) (b := d1) rfl (hb hby d16_1) hF h1 (by show (stackUse r).2 + (2 + 11 + 2 * 0 + 0) + 4 + 11 ≤ (e.platform.stackLimits U.me).2; omega)
  refine ⟨vm1, X1.warm, fun target hl => ?_⟩
  show Steps p.tables e below (U.setTop (mkF m 0 #[.val (.double d1), .second] [])) _
  have sg1 : ∀ t, Steps p.tables e below (U.setTop (mkF m 1 #[.val (.double d1), .second] [(.double d1)])) t → Steps p.tables e below (U.setTop (mkF m 0 #[.val (.double d1), .second] [])) t := by
    intro t kt
    show Steps p.tables e below (U.setTop (mkF m 0 #[.val (.double d1), .second] [])) _
    refine own_dloadN X0.here hx rfl (hb hby d16_0) rfl ?_
    exact kt
  refine sg1 _ ?_
  refine st1 _ ?_
  show Steps p.tables e below ((U.setVm vm1).setTop (mkF m 4 #[.val (.double d1), .second] [(.long (d1.toInt64))])) _
  have sg2 : ∀ t, Steps p.tables e below ((U.setVm vm1).setTop (mkF m 16 #[.val (.double d1), .second] [(.int (((((d1.toInt64) &&& (9218868437227405312 : Int64)) >>> ((52 : Int32) &&& 0x3f).toInt64) - (1023 : Int64)).toInt32))])) t → Steps p.tables e below ((U.setVm vm1).setTop (mkF m 4 #[.val (.double d1), .second] [(.long (d1.toInt64))])) t := by
    intro t kt
    show Steps p.tables e below ((U.setVm vm1).setTop (mkF m 4 #[.val (.double d1), .second] [(.long (d1.toInt64))])) _
    refine X1.ldc2Long (sargs := a0) hx hown (mvT hZ (hw _ (List.mem_of_getElem? (i := 88) rfl))) (g := (mkF m 4 #[.val (.double d1), .second] [(.long (d1.toInt64))])) rfl (hb hby d16_4) _ ?_
    show Steps p.tables e below ((U.setVm vm1).setTop (mkF m 7 #[.val (.double d1), .second] [(.long (9218868437227405312 : Int64)), (.long (d1.toInt64))])) _
    refine XS.land X1.here hx rfl (hb hby d16_7) rfl ?_
    show Steps p.tables e below ((U.setVm vm1).setTop (mkF m 8 #[.val (.double d1), .second] [(.long ((d1.toInt64) &&& (9218868437227405312 : Int64)))])) _
    refine XS.bipush X1.here hx rfl (hb hby d16_8) ?_
    show Steps p.tables e below ((U.setVm vm1).setTop (mkF m 10 #[.val (.double d1), .second] [(.int (52 : Int32)), (.long ((d1.toInt64) &&& (9218868437227405312 : Int64)))])) _
    refine XS.lshr X1.here hx rfl (hb hby d16_10) rfl ?_
    show Steps p.tables e below ((U.setVm vm1).setTop (mkF m 11 #[.val (.double d1), .second] [(.long (((d1.toInt64) &&& (9218868437227405312 : Int64)) >>> ((52 : Int32) &&& 0x3f).toInt64))])) _
    refine X1.ldc2Long (sargs := a0) hx hown (mvT hZ (hw _ (List.mem_of_getElem? (i := 127) rfl))) (g := (mkF m 11 #[.val (.double d1), .second] [(.long (((d1.toInt64) &&& (9218868437227405312 : Int64)) >>> ((52 : Int32) &&& 0x3f).toInt64))])) rfl (hb hby d16_11) _ ?_
    show Steps p.tables e below ((U.setVm vm1).setTop (mkF m 14 #[.val (.double d1), .second] [(.long (1023 : Int64)), (.long (((d1.toInt64) &&& (9218868437227405312 : Int64)) >>> ((52 : Int32) &&& 0x3f).toInt64))])) _
    refine XS.lsub X1.here hx rfl (hb hby d16_14) rfl ?_
    show Steps p.tables e below ((U.setVm vm1).setTop (mkF m 15 #[.val (.double d1), .second] [(.long ((((d1.toInt64) &&& (9218868437227405312 : Int64)) >>> ((52 : Int32) &&& 0x3f).toInt64) - (1023 : Int64)))])) _
    refine XS.l2i X1.here hx rfl (hb hby d16_15) rfl ?_
    exact kt
  refine sg2 _ ?_
  exact own_retI X1.here hx (by rw [X1.warm.alike.method?]; exact hm) hret (hb hby d16_16) hl
theorem pd_oDcI : parseMethodDescriptor "(D)I" = some ⟨[.double], some .int⟩ := by decide +kernel
theorem d15_1 : decode jdk_128_method_18_code 1 = .ok (.invokestatic 66, 3) := by decide +kernel
theorem d15_4 : decode jdk_128_method_18_code 4 = .ok (.istore 8, 2) := by decide +kernel
theorem d15_6 : decode jdk_128_method_18_code 6 = .ok (.iload 8, 2) := by decide +kernel
theorem d15_8 : decode jdk_128_method_18_code 8 = .ok (.ifCond .ge 26, 3) := by decide +kernel
theorem d15_34 : decode jdk_128_method_18_code 34 = .ok (.iload 8, 2) := by decide +kernel
theorem d15_36 : decode jdk_128_method_18_code 36 = .ok (.bipush 52, 2) := by decide +kernel
theorem d15_38 : decode jdk_128_method_18_code 38 = .ok (.if_icmp .lt 5, 3) := by decide +kernel
theorem d15_43 : decode jdk_128_method_18_code 43 = .ok (.getstatic 70, 3) := by decide +kernel
theorem d15_46 : decode jdk_128_method_18_code 46 = .ok (.ifCond .ne 23, 3) := by decide +kernel
theorem d15_69 : decode jdk_128_method_18_code 69 = .ok (.dload_n 0, 1) := by decide +kernel
theorem d15_70 : decode jdk_128_method_18_code 70 = .ok (.invokestatic 77, 3) := by decide +kernel
theorem d15_73 : decode jdk_128_method_18_code 73 = .ok (.lstore 9, 2) := by decide +kernel
theorem d15_75 : decode jdk_128_method_18_code 75 = .ok (.ldc2_w 85, 3) := by decide +kernel
theorem d15_78 : decode jdk_128_method_18_code 78 = .ok (.iload 8, 2) := by decide +kernel
theorem d15_80 : decode jdk_128_method_18_code 80 = .ok (.lshr, 1) := by decide +kernel
theorem d15_81 : decode jdk_128_method_18_code 81 = .ok (.lstore 11, 2) := by decide +kernel
theorem d15_83 : decode jdk_128_method_18_code 83 = .ok (.lload 11, 2) := by decide +kernel
theorem d15_85 : decode jdk_128_method_18_code 85 = .ok (.lload 9, 2) := by decide +kernel
theorem d15_87 : decode jdk_128_method_18_code 87 = .ok (.land, 1) := by decide +kernel
theorem d15_88 : decode jdk_128_method_18_code 88 = .ok (.lconst 0, 1) := by decide +kernel
theorem d15_89 : decode jdk_128_method_18_code 89 = .ok (.lcmp, 1) := by decide +kernel
theorem d15_90 : decode jdk_128_method_18_code 90 = .ok (.ifCond .ne 5, 3) := by decide +kernel
theorem d15_95 : decode jdk_128_method_18_code 95 = .ok (.lload 9, 2) := by decide +kernel
theorem d15_97 : decode jdk_128_method_18_code 97 = .ok (.lload 11, 2) := by decide +kernel
theorem d15_99 : decode jdk_128_method_18_code 99 = .ok (.ldc2_w 87, 3) := by decide +kernel
theorem d15_102 : decode jdk_128_method_18_code 102 = .ok (.lxor, 1) := by decide +kernel
theorem d15_103 : decode jdk_128_method_18_code 103 = .ok (.land, 1) := by decide +kernel
theorem d15_104 : decode jdk_128_method_18_code 104 = .ok (.invokestatic 89, 3) := by decide +kernel
theorem d15_107 : decode jdk_128_method_18_code 107 = .ok (.dstore 13, 2) := by decide +kernel
theorem d15_109 : decode jdk_128_method_18_code 109 = .ok (.dload 6, 2) := by decide +kernel
theorem d15_111 : decode jdk_128_method_18_code 111 = .ok (.dload_n 0, 1) := by decide +kernel
theorem d15_112 : decode jdk_128_method_18_code 112 = .ok (.dmul, 1) := by decide +kernel
theorem d15_113 : decode jdk_128_method_18_code 113 = .ok (.dconst 0, 1) := by decide +kernel
theorem d15_114 : decode jdk_128_method_18_code 114 = .ok (.dcmp .l, 1) := by decide +kernel
theorem d15_115 : decode jdk_128_method_18_code 115 = .ok (.ifCond .le 10, 3) := by decide +kernel
theorem d15_125 : decode jdk_128_method_18_code 125 = .ok (.dload 13, 2) := by decide +kernel
theorem d15_0 : decode jdk_128_method_18_code 0 = .ok (.dload_n 0, 1) := by decide +kernel
theorem d15_127 : decode jdk_128_method_18_code 127 = .ok (.dreturn, 1) := by decide +kernel
set_option maxRecDepth 65536 in
set_option maxHeartbeats 40000000 in
theorem own_raw_foc {Z : State} {a0 : Array Value} (hw : ∀ d ∈ tables_1, d.before a0 Z = true) {p : Program} {l : Launch} {e : Env} {s U : State} {m : MethodId} {below : List Frame} {c : Code} {meth : Method} (hZ : Z.Warmed39 s.vm) (hx : p.tables.exec = Jvm.exec) (X0 : OwnAt l e s m below c U) (hby : c.code = jdk_128_method_18_code)
    (hown : s.vm.findClass "java/lang/StrictMath" = some m.cls) (hm : s.vm.method? m = some meth) (hret : meth.sig.returnType = some .double) {f0 : JFrame} {r : List Frame} (hF : U.frames = .java f0 :: r) (h1 : r.length + 2 < (e.platform.stackLimits U.me).1) (h2 : (stackUse r).2 + 150 ≤ (e.platform.stackLimits U.me).2) (hS : Sta Z U.heap "java/lang/StrictMath" "$assertionsDisabled" "Z" (.int (1 : Int32))) (d1 : UInt64) (hD : OwnFloor d1) :
    ∃ vm', s.WarmedH vm' ∧ ∀ target, (∀ (f : JFrame) (acts : List Action), f.method = m → f.locked = none → f.entered = [] → Steps p.tables e below (doReturn e ((U.setVm vm').setTop f) acts (some (.double (own_cut d1)))).1 target) → Steps p.tables e below (U.setTop (mkF m 0 #[.val (.double d1), .second, .val (.double (13830554455654793216 : UInt64)), .second, .val (.double (0 : UInt64)), .second, .val (.double (13830554455654793216 : UInt64)), .second, .unset, .unset, .unset, .unset, .unset, .unset, .unset] [])) target := by
  obtain ⟨mG, methG, cG, kG, nG, mmG, ccG, byG, mlG, retG, lkG, dsG, clG, cnG, fcG⟩ := own_body (sargs := a0) (mvT hZ (hw _ (List.mem_of_getElem? (i := 126) rfl)))
  have stG := Cond.static_spec nG mmG (mvT (args := a0) hZ (hw _ (List.mem_of_getElem? (i := 125) rfl)))
  have inG := Cond.initialized_spec fcG clG (mvT (args := a0) hZ (hw _ (List.mem_of_getElem? (i := 82) rfl)))
  have efG : entryFrame mG [Value.double d1].toArray cG.maxLocals = mkF mG 0 #[.val (.double d1), .second] [] := by rw [mlG]; exact own_ef1 mG d1
  obtain ⟨vm1, X1, st1⟩ := X0.call (sargs := a0) hx hown (mvT hZ (hw _ (List.mem_of_getElem? (i := 124) rfl))) nG mmG stG clG inG (by decide) ccG lkG (by decide +kernel) (g := (mkF m 1 #[.val (.double d1), .second, .val (.double (13830554455654793216 : UInt64)), .second, .val (.double (0 : UInt64)), .second, .val (.double (13830554455654793216 : UInt64)), .second, .unset, .unset, .unset, .unset, .unset, .unset, .unset] [(.double d1)])) rfl (argsL := [.double d1]) (rest := []) (lenOf pd_oDcI rfl _ dsG) rfl (hb hby d15_1) hF (by show r.length + 1 < (e.platform.stackLimits U.me).1; omega) (by rw [mlG]; show (stackUse r).2 + (15 + 11 + 2 * 0 + 0) + 2 + 11 ≤ (e.platform.stackLimits U.me).2; omega) (v := .int (own_exp d1)) (fun Uq Xq hFq heq hlq => by
    rw [efG]
    exact own_raw_exp hw hZ hx Xq byG fcG mmG retG hFq (by rw [hlq]; show r.length + 1 + 1 < (e.platform.stackLimits U.me).1; omega) (by rw [hlq, stackUse_java]; show (stackUse r).2 + (15 + 11 + 2 * 0 + 0) + 60 ≤ (e.platform.stackLimits U.me).2; omega) d1)
  obtain ⟨cf, i, k, f, sta, cell, y1, y2, y3, y4, y5, y6, y7⟩ := hS
  obtain ⟨k', hi, ek⟩ := State.fieldFound?_setVm (s := Z) hZ.alike y1
  obtain ⟨vm2, X2, st2⟩ := X1.gets (sargs := a0) hx hown (mvT hZ (hw _ (List.mem_of_getElem? (i := 128) rfl))) hi y2 (by rw [ek]; exact y3) (a₁ := sta) (by rw [ek]; exact y4) y5 (fun q => by rw [q] at y6; cases y6) y7 (g := (mkF m 43 #[.val (.double d1), .second, .val (.double (13830554455654793216 : UInt64)), .second, .val (.double (0 : UInt64)), .second, .val (.double (13830554455654793216 : UInt64)), .second, .val (.int (own_exp d1)), .unset, .unset, .unset, .unset, .unset, .unset] [])) rfl (hb hby d15_43)
  have X2' : OwnAt l e s m below c (U.setVm vm2) := X2
  obtain ⟨vm3, X3, st3⟩ := X2'.rawBits (sargs := a0) hx hown (mvT hZ (hw _ (List.mem_of_getElem? (i := 129) rfl))) (mvT hZ (hw _ (List.mem_of_getElem? (i := 87) rfl))) (mvT hZ (hw _ (List.mem_of_getElem? (i := 85) rfl))) (mvT hZ (hw _ (List.mem_of_getElem? (i := 86) rfl))) (g := (mkF m 70 #[.val (.double d1), .second, .val (.double (13830554455654793216 : UInt64)), .second, .val (.double (0 : UInt64)), .second, .val (.double (13830554455654793216 : UInt64)), .second, .val (.int (own_exp d1)), .unset, .unset, .unset, .unset, .unset, .unset] [(.double d1)])) rfl (rest := []) (b := d1) rfl (hb hby d15_70) hF (by show r.length + 1 < (e.platform.stackLimits U.me).1; omega) (by show (stackUse r).2 + (15 + 11 + 2 * 0 + 0) + 4 + 11 ≤ (e.platform.stackLimits U.me).2; omega)
  have X3' : OwnAt l e s m below c (U.setVm vm3) := X3
  obtain ⟨vm4, X4, st4⟩ := X3'.bitsRaw (sargs := a0) hx hown (mvT hZ (hw _ (List.mem_of_getElem? (i := 132) rfl))) (mvT hZ (hw _ (List.mem_of_getElem? (i := 134) rfl))) (mvT hZ (hw _ (List.mem_of_getElem? (i := 133) rfl))) (mvT hZ (hw _ (List.mem_of_getElem? (i := 86) rfl))) (g := (mkF m 104 #[.val (.double d1), .second, .val (.double (13830554455654793216 : UInt64)), .second, .val (.double (0 : UInt64)), .second, .val (.double (13830554455654793216 : UInt64)), .second, .val (.int (own_exp d1)), .val (.long (d1.toInt64)), .second, .val (.long ((4503599627370495 : Int64) >>> ((own_exp d1) &&& 0x3f).toInt64)), .second, .unset, .unset] [(.long ((d1.toInt64) &&& (((4503599627370495 : Int64) >>> ((own_exp d1) &&& 0x3f).toInt64) ^^^ (-1 : Int64))))])) rfl (rest := []) (b := ((d1.toInt64) &&& (((4503599627370495 : Int64) >>> ((own_exp d1) &&& 0x3f).toInt64) ^^^ (-1 : Int64)))) hD.2.2.2.2.2.1 rfl (hb hby d15_104) hF (by show r.length + 1 < (e.platform.stackLimits U.me).1; omega) (by show (stackUse r).2 + (15 + 11 + 2 * 0 + 0) + 4 + 11 ≤ (e.platform.stackLimits U.me).2; omega)
  have X4' : OwnAt l e s m below c (U.setVm vm4) := X4
  refine ⟨vm4, X4'.warm, fun target hl => ?_⟩
  show Steps p.tables e below (U.setTop (mkF m 0 #[.val (.double d1), .second, .val (.double (13830554455654793216 : UInt64)), .second, .val (.double (0 : UInt64)), .second, .val (.double (13830554455654793216 : UInt64)), .second, .unset, .unset, .unset, .unset, .unset, .unset, .unset] [])) _
  have sg5 : ∀ t, Steps p.tables e below (U.setTop (mkF m 1 #[.val (.double d1), .second, .val (.double (13830554455654793216 : UInt64)), .second, .val (.double (0 : UInt64)), .second, .val (.double (13830554455654793216 : UInt64)), .second, .unset, .unset, .unset, .unset, .unset, .unset, .unset] [(.double d1)])) t → Steps p.tables e below (U.setTop (mkF m 0 #[.val (.double d1), .second, .val (.double (13830554455654793216 : UInt64)), .second, .val (.double (0 : UInt64)), .second, .val (.double (13830554455654793216 : UInt64)), .second, .unset, .unset, .unset, .unset, .unset, .unset, .unset] [])) t := by
    intro t kt
    show Steps p.tables e below (U.setTop (mkF m 0 #[.val (.double d1), .second, .val (.double (13830554455654793216 : UInt64)), .second, .val (.double (0 : UInt64)), .second, .val (.double (13830554455654793216 : UInt64)), .second, .unset, .unset, .unset, .unset, .unset, .unset, .unset] [])) _
    refine own_dloadN X0.here hx rfl (hb hby d15_0) rfl ?_
    exact kt
  refine sg5 _ ?_
  refine st1 _ ?_
  show Steps p.tables e below ((U.setVm vm1).setTop (mkF m 4 #[.val (.double d1), .second, .val (.double (13830554455654793216 : UInt64)), .second, .val (.double (0 : UInt64)), .second, .val (.double (13830554455654793216 : UInt64)), .second, .unset, .unset, .unset, .unset, .unset, .unset, .unset] [(.int (own_exp d1))])) _
  have sg1 : ∀ t, Steps p.tables e below ((U.setVm vm1).setTop (mkF m 43 #[.val (.double d1), .second, .val (.double (13830554455654793216 : UInt64)), .second, .val (.double (0 : UInt64)), .second, .val (.double (13830554455654793216 : UInt64)), .second, .val (.int (own_exp d1)), .unset, .unset, .unset, .unset, .unset, .unset] [])) t → Steps p.tables e below ((U.setVm vm1).setTop (mkF m 4 #[.val (.double d1), .second, .val (.double (13830554455654793216 : UInt64)), .second, .val (.double (0 : UInt64)), .second, .val (.double (13830554455654793216 : UInt64)), .second, .unset, .unset, .unset, .unset, .unset, .unset, .unset] [(.int (own_exp d1))])) t := by
    intro t kt
    show Steps p.tables e below ((U.setVm vm1).setTop (mkF m 4 #[.val (.double d1), .second, .val (.double (13830554455654793216 : UInt64)), .second, .val (.double (0 : UInt64)), .second, .val (.double (13830554455654793216 : UInt64)), .second, .unset, .unset, .unset, .unset, .unset, .unset, .unset] [(.int (own_exp d1))])) _
    refine XS.istore X1.here hx rfl (hb hby d15_4) rfl (l' := #[.val (.double d1), .second, .val (.double (13830554455654793216 : UInt64)), .second, .val (.double (0 : UInt64)), .second, .val (.double (13830554455654793216 : UInt64)), .second, .val (.int (own_exp d1)), .unset, .unset, .unset, .unset, .unset, .unset]) rfl ?_
    show Steps p.tables e below ((U.setVm vm1).setTop (mkF m 6 #[.val (.double d1), .second, .val (.double (13830554455654793216 : UInt64)), .second, .val (.double (0 : UInt64)), .second, .val (.double (13830554455654793216 : UInt64)), .second, .val (.int (own_exp d1)), .unset, .unset, .unset, .unset, .unset, .unset] [])) _
    refine XS.iload X1.here hx rfl (hb hby d15_6) rfl ?_
    show Steps p.tables e below ((U.setVm vm1).setTop (mkF m 8 #[.val (.double d1), .second, .val (.double (13830554455654793216 : UInt64)), .second, .val (.double (0 : UInt64)), .second, .val (.double (13830554455654793216 : UInt64)), .second, .val (.int (own_exp d1)), .unset, .unset, .unset, .unset, .unset, .unset] [(.int (own_exp d1))])) _
    refine XS.ifYes X1.here hx rfl (pc0 := 8) (pc' := 34) rfl (hb hby d15_8) rfl ((if0 _ _).trans (flt (hD.1 : ¬ ((own_exp d1) < (0 : Int32)))).2.1) (by decide) (by decide) ?_
    show Steps p.tables e below ((U.setVm vm1).setTop (mkF m 34 #[.val (.double d1), .second, .val (.double (13830554455654793216 : UInt64)), .second, .val (.double (0 : UInt64)), .second, .val (.double (13830554455654793216 : UInt64)), .second, .val (.int (own_exp d1)), .unset, .unset, .unset, .unset, .unset, .unset] [])) _
    refine XS.iload X1.here hx rfl (hb hby d15_34) rfl ?_
    show Steps p.tables e below ((U.setVm vm1).setTop (mkF m 36 #[.val (.double d1), .second, .val (.double (13830554455654793216 : UInt64)), .second, .val (.double (0 : UInt64)), .second, .val (.double (13830554455654793216 : UInt64)), .second, .val (.int (own_exp d1)), .unset, .unset, .unset, .unset, .unset, .unset] [(.int (own_exp d1))])) _
    refine XS.bipush X1.here hx rfl (hb hby d15_36) ?_
    show Steps p.tables e below ((U.setVm vm1).setTop (mkF m 38 #[.val (.double d1), .second, .val (.double (13830554455654793216 : UInt64)), .second, .val (.double (0 : UInt64)), .second, .val (.double (13830554455654793216 : UInt64)), .second, .val (.int (own_exp d1)), .unset, .unset, .unset, .unset, .unset, .unset] [(.int (52 : Int32)), (.int (own_exp d1))])) _
    refine XS.icmpYes X1.here hx rfl (pc0 := 38) (pc' := 43) rfl (hb hby d15_38) rfl (tlt (hD.2.1 : (own_exp d1) < (52 : Int32))).1 (by decide) (by decide) ?_
    exact kt
  refine sg1 _ ?_
  refine st2 _ ?_
  show Steps p.tables e below ((U.setVm vm2).setTop (mkF m 46 #[.val (.double d1), .second, .val (.double (13830554455654793216 : UInt64)), .second, .val (.double (0 : UInt64)), .second, .val (.double (13830554455654793216 : UInt64)), .second, .val (.int (own_exp d1)), .unset, .unset, .unset, .unset, .unset, .unset] [(.int (1 : Int32))])) _
  have sg2 : ∀ t, Steps p.tables e below ((U.setVm vm2).setTop (mkF m 70 #[.val (.double d1), .second, .val (.double (13830554455654793216 : UInt64)), .second, .val (.double (0 : UInt64)), .second, .val (.double (13830554455654793216 : UInt64)), .second, .val (.int (own_exp d1)), .unset, .unset, .unset, .unset, .unset, .unset] [(.double d1)])) t → Steps p.tables e below ((U.setVm vm2).setTop (mkF m 46 #[.val (.double d1), .second, .val (.double (13830554455654793216 : UInt64)), .second, .val (.double (0 : UInt64)), .second, .val (.double (13830554455654793216 : UInt64)), .second, .val (.int (own_exp d1)), .unset, .unset, .unset, .unset, .unset, .unset] [(.int (1 : Int32))])) t := by
    intro t kt
    show Steps p.tables e below ((U.setVm vm2).setTop (mkF m 46 #[.val (.double d1), .second, .val (.double (13830554455654793216 : UInt64)), .second, .val (.double (0 : UInt64)), .second, .val (.double (13830554455654793216 : UInt64)), .second, .val (.int (own_exp d1)), .unset, .unset, .unset, .unset, .unset, .unset] [(.int (1 : Int32))])) _
    refine XS.ifYes X2'.here hx rfl (pc0 := 46) (pc' := 69) rfl (hb hby d15_46) rfl ((if0 _ _).trans (feq (by decide : ¬ ((1 : Int32) = (0 : Int32)))).2) (by decide) (by decide) ?_
    show Steps p.tables e below ((U.setVm vm2).setTop (mkF m 69 #[.val (.double d1), .second, .val (.double (13830554455654793216 : UInt64)), .second, .val (.double (0 : UInt64)), .second, .val (.double (13830554455654793216 : UInt64)), .second, .val (.int (own_exp d1)), .unset, .unset, .unset, .unset, .unset, .unset] [])) _
    refine own_dloadN X2'.here hx rfl (hb hby d15_69) rfl ?_
    exact kt
  refine sg2 _ ?_
  refine st3 _ ?_
  show Steps p.tables e below ((U.setVm vm3).setTop (mkF m 73 #[.val (.double d1), .second, .val (.double (13830554455654793216 : UInt64)), .second, .val (.double (0 : UInt64)), .second, .val (.double (13830554455654793216 : UInt64)), .second, .val (.int (own_exp d1)), .unset, .unset, .unset, .unset, .unset, .unset] [(.long (d1.toInt64))])) _
  have sg3 : ∀ t, Steps p.tables e below ((U.setVm vm3).setTop (mkF m 104 #[.val (.double d1), .second, .val (.double (13830554455654793216 : UInt64)), .second, .val (.double (0 : UInt64)), .second, .val (.double (13830554455654793216 : UInt64)), .second, .val (.int (own_exp d1)), .val (.long (d1.toInt64)), .second, .val (.long ((4503599627370495 : Int64) >>> ((own_exp d1) &&& 0x3f).toInt64)), .second, .unset, .unset] [(.long ((d1.toInt64) &&& (((4503599627370495 : Int64) >>> ((own_exp d1) &&& 0x3f).toInt64) ^^^ (-1 : Int64))))])) t → Steps p.tables e below ((U.setVm vm3).setTop (mkF m 73 #[.val (.double d1), .second, .val (.double (13830554455654793216 : UInt64)), .second, .val (.double (0 : UInt64)), .second, .val (.double (13830554455654793216 : UInt64)), .second, .val (.int (own_exp d1)), .unset, .unset, .unset, .unset, .unset, .unset] [(.long (d1.toInt64))])) t := by
    intro t kt
    show Steps p.tables e below ((U.setVm vm3).setTop (mkF m 73 #[.val (.double d1), .second, .val (.double (13830554455654793216 : UInt64)), .second, .val (.double (0 : UInt64)), .second, .val (.double (13830554455654793216 : UInt64)), .second, .val (.int (own_exp d1)), .unset, .unset, .unset, .unset, .unset, .unset] [(.long (d1.toInt64))])) _
    refine XS.lstore X3'.here hx rfl (hb hby d15_73) rfl (l' := #[.val (.double d1), .second, .val (.double (13830554455654793216 : UInt64)), .second, .val (.double (0 : UInt64)), .second, .val (.double (13830554455654793216 : UInt64)), .second, .val (.int (own_exp d1)), .val (.long (d1.toInt64)), .second, .unset, .unset, .unset, .unset]) rfl ?_
    show Steps p.tables e below ((U.setVm vm3).setTop (mkF m 75 #[.val (.double d1), .second, .val (.double (13830554455654793216 : UInt64)), .second, .val (.double (0 : UInt64)), .second, .val (.double (13830554455654793216 : UInt64)), .second, .val (.int (own_exp d1)), .val (.long (d1.toInt64)), .second, .unset, .unset, .unset, .unset] [])) _
    refine X3'.ldc2Long (sargs := a0) hx hown (mvT hZ (hw _ (List.mem_of_getElem? (i := 130) rfl))) (g := (mkF m 75 #[.val (.double d1), .second, .val (.double (13830554455654793216 : UInt64)), .second, .val (.double (0 : UInt64)), .second, .val (.double (13830554455654793216 : UInt64)), .second, .val (.int (own_exp d1)), .val (.long (d1.toInt64)), .second, .unset, .unset, .unset, .unset] [])) rfl (hb hby d15_75) _ ?_
    show Steps p.tables e below ((U.setVm vm3).setTop (mkF m 78 #[.val (.double d1), .second, .val (.double (13830554455654793216 : UInt64)), .second, .val (.double (0 : UInt64)), .second, .val (.double (13830554455654793216 : UInt64)), .second, .val (.int (own_exp d1)), .val (.long (d1.toInt64)), .second, .unset, .unset, .unset, .unset] [(.long (4503599627370495 : Int64))])) _
    refine XS.iload X3'.here hx rfl (hb hby d15_78) rfl ?_
    show Steps p.tables e below ((U.setVm vm3).setTop (mkF m 80 #[.val (.double d1), .second, .val (.double (13830554455654793216 : UInt64)), .second, .val (.double (0 : UInt64)), .second, .val (.double (13830554455654793216 : UInt64)), .second, .val (.int (own_exp d1)), .val (.long (d1.toInt64)), .second, .unset, .unset, .unset, .unset] [(.int (own_exp d1)), (.long (4503599627370495 : Int64))])) _
    refine XS.lshr X3'.here hx rfl (hb hby d15_80) rfl ?_
    show Steps p.tables e below ((U.setVm vm3).setTop (mkF m 81 #[.val (.double d1), .second, .val (.double (13830554455654793216 : UInt64)), .second, .val (.double (0 : UInt64)), .second, .val (.double (13830554455654793216 : UInt64)), .second, .val (.int (own_exp d1)), .val (.long (d1.toInt64)), .second, .unset, .unset, .unset, .unset] [(.long ((4503599627370495 : Int64) >>> ((own_exp d1) &&& 0x3f).toInt64))])) _
    refine XS.lstore X3'.here hx rfl (hb hby d15_81) rfl (l' := #[.val (.double d1), .second, .val (.double (13830554455654793216 : UInt64)), .second, .val (.double (0 : UInt64)), .second, .val (.double (13830554455654793216 : UInt64)), .second, .val (.int (own_exp d1)), .val (.long (d1.toInt64)), .second, .val (.long ((4503599627370495 : Int64) >>> ((own_exp d1) &&& 0x3f).toInt64)), .second, .unset, .unset]) rfl ?_
    show Steps p.tables e below ((U.setVm vm3).setTop (mkF m 83 #[.val (.double d1), .second, .val (.double (13830554455654793216 : UInt64)), .second, .val (.double (0 : UInt64)), .second, .val (.double (13830554455654793216 : UInt64)), .second, .val (.int (own_exp d1)), .val (.long (d1.toInt64)), .second, .val (.long ((4503599627370495 : Int64) >>> ((own_exp d1) &&& 0x3f).toInt64)), .second, .unset, .unset] [])) _
    refine XS.lload X3'.here hx rfl (hb hby d15_83) rfl ?_
    show Steps p.tables e below ((U.setVm vm3).setTop (mkF m 85 #[.val (.double d1), .second, .val (.double (13830554455654793216 : UInt64)), .second, .val (.double (0 : UInt64)), .second, .val (.double (13830554455654793216 : UInt64)), .second, .val (.int (own_exp d1)), .val (.long (d1.toInt64)), .second, .val (.long ((4503599627370495 : Int64) >>> ((own_exp d1) &&& 0x3f).toInt64)), .second, .unset, .unset] [(.long ((4503599627370495 : Int64) >>> ((own_exp d1) &&& 0x3f).toInt64))])) _
    refine XS.lload X3'.here hx rfl (hb hby d15_85) rfl ?_
    show Steps p.tables e below ((U.setVm vm3).setTop (mkF m 87 #[.val (.double d1), .second, .val (.double (13830554455654793216 : UInt64)), .second, .val (.double (0 : UInt64)), .second, .val (.double (13830554455654793216 : UInt64)), .second, .val (.int (own_exp d1)), .val (.long (d1.toInt64)), .second, .val (.long ((4503599627370495 : Int64) >>> ((own_exp d1) &&& 0x3f).toInt64)), .second, .unset, .unset] [(.long (d1.toInt64)), (.long ((4503599627370495 : Int64) >>> ((own_exp d1) &&& 0x3f).toInt64))])) _
    refine XS.land X3'.here hx rfl (hb hby d15_87) rfl ?_
    show Steps p.tables e below ((U.setVm vm3).setTop (mkF m 88 #[.val (.double d1), .second, .val (.double (13830554455654793216 : UInt64)), .second, .val (.double (0 : UInt64)), .second, .val (.double (13830554455654793216 : UInt64)), .second, .val (.int (own_exp d1)), .val (.long (d1.toInt64)), .second, .val (.long ((4503599627370495 : Int64) >>> ((own_exp d1) &&& 0x3f).toInt64)), .second, .unset, .unset] [(.long (((4503599627370495 : Int64) >>> ((own_exp d1) &&& 0x3f).toInt64) &&& (d1.toInt64)))])) _
    refine XS.lconst X3'.here hx rfl (hb hby d15_88) ?_
    show Steps p.tables e below ((U.setVm vm3).setTop (mkF m 89 #[.val (.double d1), .second, .val (.double (13830554455654793216 : UInt64)), .second, .val (.double (0 : UInt64)), .second, .val (.double (13830554455654793216 : UInt64)), .second, .val (.int (own_exp d1)), .val (.long (d1.toInt64)), .second, .val (.long ((4503599627370495 : Int64) >>> ((own_exp d1) &&& 0x3f).toInt64)), .second, .unset, .unset] [(.long (0 : Int64)), (.long (((4503599627370495 : Int64) >>> ((own_exp d1) &&& 0x3f).toInt64) &&& (d1.toInt64)))])) _
    refine XS.lcmp X3'.here hx rfl (hb hby d15_89) rfl ?_
    show Steps p.tables e below ((U.setVm vm3).setTop (mkF m 90 #[.val (.double d1), .second, .val (.double (13830554455654793216 : UInt64)), .second, .val (.double (0 : UInt64)), .second, .val (.double (13830554455654793216 : UInt64)), .second, .val (.int (own_exp d1)), .val (.long (d1.toInt64)), .second, .val (.long ((4503599627370495 : Int64) >>> ((own_exp d1) &&& 0x3f).toInt64)), .second, .unset, .unset] [(.int (lcmpW (((4503599627370495 : Int64) >>> ((own_exp d1) &&& 0x3f).toInt64) &&& (d1.toInt64)) (0 : Int64)))])) _
    refine XS.ifYes X3'.here hx rfl (pc0 := 90) (pc' := 95) rfl (hb hby d15_90) rfl ((if0 _ _).trans (feq (hD.2.2.1 : ¬ ((lcmpW (((4503599627370495 : Int64) >>> ((own_exp d1) &&& 0x3f).toInt64) &&& (d1.toInt64)) (0 : Int64)) = (0 : Int32)))).2) (by decide) (by decide) ?_
    show Steps p.tables e below ((U.setVm vm3).setTop (mkF m 95 #[.val (.double d1), .second, .val (.double (13830554455654793216 : UInt64)), .second, .val (.double (0 : UInt64)), .second, .val (.double (13830554455654793216 : UInt64)), .second, .val (.int (own_exp d1)), .val (.long (d1.toInt64)), .second, .val (.long ((4503599627370495 : Int64) >>> ((own_exp d1) &&& 0x3f).toInt64)), .second, .unset, .unset] [])) _
    refine XS.lload X3'.here hx rfl (hb hby d15_95) rfl ?_
    show Steps p.tables e below ((U.setVm vm3).setTop (mkF m 97 #[.val (.double d1), .second, .val (.double (13830554455654793216 : UInt64)), .second, .val (.double (0 : UInt64)), .second, .val (.double (13830554455654793216 : UInt64)), .second, .val (.int (own_exp d1)), .val (.long (d1.toInt64)), .second, .val (.long ((4503599627370495 : Int64) >>> ((own_exp d1) &&& 0x3f).toInt64)), .second, .unset, .unset] [(.long (d1.toInt64))])) _
    refine XS.lload X3'.here hx rfl (hb hby d15_97) rfl ?_
    show Steps p.tables e below ((U.setVm vm3).setTop (mkF m 99 #[.val (.double d1), .second, .val (.double (13830554455654793216 : UInt64)), .second, .val (.double (0 : UInt64)), .second, .val (.double (13830554455654793216 : UInt64)), .second, .val (.int (own_exp d1)), .val (.long (d1.toInt64)), .second, .val (.long ((4503599627370495 : Int64) >>> ((own_exp d1) &&& 0x3f).toInt64)), .second, .unset, .unset] [(.long ((4503599627370495 : Int64) >>> ((own_exp d1) &&& 0x3f).toInt64)), (.long (d1.toInt64))])) _
    refine X3'.ldc2Long (sargs := a0) hx hown (mvT hZ (hw _ (List.mem_of_getElem? (i := 131) rfl))) (g := (mkF m 99 #[.val (.double d1), .second, .val (.double (13830554455654793216 : UInt64)), .second, .val (.double (0 : UInt64)), .second, .val (.double (13830554455654793216 : UInt64)), .second, .val (.int (own_exp d1)), .val (.long (d1.toInt64)), .second, .val (.long ((4503599627370495 : Int64) >>> ((own_exp d1) &&& 0x3f).toInt64)), .second, .unset, .unset] [(.long ((4503599627370495 : Int64) >>> ((own_exp d1) &&& 0x3f).toInt64)), (.long (d1.toInt64))])) rfl (hb hby d15_99) _ ?_
    show Steps p.tables e below ((U.setVm vm3).setTop (mkF m 102 #[.val (.double d1), .second, .val (.double (13830554455654793216 : UInt64)), .second, .val (.double (0 : UInt64)), .second, .val (.double (13830554455654793216 : UInt64)), .second, .val (.int (own_exp d1)), .val (.long (d1.toInt64)), .second, .val (.long ((4503599627370495 : Int64) >>> ((own_exp d1) &&& 0x3f).toInt64)), .second, .unset, .unset] [(.long (-1 : Int64)), (.long ((4503599627370495 : Int64) >>> ((own_exp d1) &&& 0x3f).toInt64)), (.long (d1.toInt64))])) _
    refine XS.lxor X3'.here hx rfl (hb hby d15_102) rfl ?_
    show Steps p.tables e below ((U.setVm vm3).setTop (mkF m 103 #[.val (.double d1), .second, .val (.double (13830554455654793216 : UInt64)), .second, .val (.double (0 : UInt64)), .second, .val (.double (13830554455654793216 : UInt64)), .second, .val (.int (own_exp d1)), .val (.long (d1.toInt64)), .second, .val (.long ((4503599627370495 : Int64) >>> ((own_exp d1) &&& 0x3f).toInt64)), .second, .unset, .unset] [(.long (((4503599627370495 : Int64) >>> ((own_exp d1) &&& 0x3f).toInt64) ^^^ (-1 : Int64))), (.long (d1.toInt64))])) _
    refine XS.land X3'.here hx rfl (hb hby d15_103) rfl ?_
    exact kt
  refine sg3 _ ?_
  refine st4 _ ?_
  show Steps p.tables e below ((U.setVm vm4).setTop (mkF m 107 #[.val (.double d1), .second, .val (.double (13830554455654793216 : UInt64)), .second, .val (.double (0 : UInt64)), .second, .val (.double (13830554455654793216 : UInt64)), .second, .val (.int (own_exp d1)), .val (.long (d1.toInt64)), .second, .val (.long ((4503599627370495 : Int64) >>> ((own_exp d1) &&& 0x3f).toInt64)), .second, .unset, .unset] [(.double (own_cut d1))])) _
  have sg4 : ∀ t, Steps p.tables e below ((U.setVm vm4).setTop (mkF m 127 #[.val (.double d1), .second, .val (.double (13830554455654793216 : UInt64)), .second, .val (.double (0 : UInt64)), .second, .val (.double (13830554455654793216 : UInt64)), .second, .val (.int (own_exp d1)), .val (.long (d1.toInt64)), .second, .val (.long ((4503599627370495 : Int64) >>> ((own_exp d1) &&& 0x3f).toInt64)), .second, .val (.double (own_cut d1)), .second] [(.double (own_cut d1))])) t → Steps p.tables e below ((U.setVm vm4).setTop (mkF m 107 #[.val (.double d1), .second, .val (.double (13830554455654793216 : UInt64)), .second, .val (.double (0 : UInt64)), .second, .val (.double (13830554455654793216 : UInt64)), .second, .val (.int (own_exp d1)), .val (.long (d1.toInt64)), .second, .val (.long ((4503599627370495 : Int64) >>> ((own_exp d1) &&& 0x3f).toInt64)), .second, .unset, .unset] [(.double (own_cut d1))])) t := by
    intro t kt
    show Steps p.tables e below ((U.setVm vm4).setTop (mkF m 107 #[.val (.double d1), .second, .val (.double (13830554455654793216 : UInt64)), .second, .val (.double (0 : UInt64)), .second, .val (.double (13830554455654793216 : UInt64)), .second, .val (.int (own_exp d1)), .val (.long (d1.toInt64)), .second, .val (.long ((4503599627370495 : Int64) >>> ((own_exp d1) &&& 0x3f).toInt64)), .second, .unset, .unset] [(.double (own_cut d1))])) _
    refine own_dstore X4'.here hx rfl (hb hby d15_107) rfl (l' := #[.val (.double d1), .second, .val (.double (13830554455654793216 : UInt64)), .second, .val (.double (0 : UInt64)), .second, .val (.double (13830554455654793216 : UInt64)), .second, .val (.int (own_exp d1)), .val (.long (d1.toInt64)), .second, .val (.long ((4503599627370495 : Int64) >>> ((own_exp d1) &&& 0x3f).toInt64)), .second, .val (.double (own_cut d1)), .second]) rfl ?_
    show Steps p.tables e below ((U.setVm vm4).setTop (mkF m 109 #[.val (.double d1), .second, .val (.double (13830554455654793216 : UInt64)), .second, .val (.double (0 : UInt64)), .second, .val (.double (13830554455654793216 : UInt64)), .second, .val (.int (own_exp d1)), .val (.long (d1.toInt64)), .second, .val (.long ((4503599627370495 : Int64) >>> ((own_exp d1) &&& 0x3f).toInt64)), .second, .val (.double (own_cut d1)), .second] [])) _
    refine own_dload X4'.here hx rfl (hb hby d15_109) rfl ?_
    show Steps p.tables e below ((U.setVm vm4).setTop (mkF m 111 #[.val (.double d1), .second, .val (.double (13830554455654793216 : UInt64)), .second, .val (.double (0 : UInt64)), .second, .val (.double (13830554455654793216 : UInt64)), .second, .val (.int (own_exp d1)), .val (.long (d1.toInt64)), .second, .val (.long ((4503599627370495 : Int64) >>> ((own_exp d1) &&& 0x3f).toInt64)), .second, .val (.double (own_cut d1)), .second] [(.double (13830554455654793216 : UInt64))])) _
    refine own_dloadN X4'.here hx rfl (hb hby d15_111) rfl ?_
    show Steps p.tables e below ((U.setVm vm4).setTop (mkF m 112 #[.val (.double d1), .second, .val (.double (13830554455654793216 : UInt64)), .second, .val (.double (0 : UInt64)), .second, .val (.double (13830554455654793216 : UInt64)), .second, .val (.int (own_exp d1)), .val (.long (d1.toInt64)), .second, .val (.long ((4503599627370495 : Int64) >>> ((own_exp d1) &&& 0x3f).toInt64)), .second, .val (.double (own_cut d1)), .second] [(.double d1), (.double (13830554455654793216 : UInt64))])) _
    refine own_dmul X4'.here hx rfl (hb hby d15_112) rfl hD.2.2.2.1 ?_
    show Steps p.tables e below ((U.setVm vm4).setTop (mkF m 113 #[.val (.double d1), .second, .val (.double (13830554455654793216 : UInt64)), .second, .val (.double (0 : UInt64)), .second, .val (.double (13830554455654793216 : UInt64)), .second, .val (.int (own_exp d1)), .val (.long (d1.toInt64)), .second, .val (.long ((4503599627370495 : Int64) >>> ((own_exp d1) &&& 0x3f).toInt64)), .second, .val (.double (own_cut d1)), .second] [(.double (FP.dmul (13830554455654793216 : UInt64) d1))])) _
    refine own_dconst0 X4'.here hx rfl (hb hby d15_113) ?_
    show Steps p.tables e below ((U.setVm vm4).setTop (mkF m 114 #[.val (.double d1), .second, .val (.double (13830554455654793216 : UInt64)), .second, .val (.double (0 : UInt64)), .second, .val (.double (13830554455654793216 : UInt64)), .second, .val (.int (own_exp d1)), .val (.long (d1.toInt64)), .second, .val (.long ((4503599627370495 : Int64) >>> ((own_exp d1) &&& 0x3f).toInt64)), .second, .val (.double (own_cut d1)), .second] [(.double (0 : UInt64)), (.double (FP.dmul (13830554455654793216 : UInt64) d1))])) _
    refine own_dcmp X4'.here hx rfl (hb hby d15_114) rfl ?_
    show Steps p.tables e below ((U.setVm vm4).setTop (mkF m 115 #[.val (.double d1), .second, .val (.double (13830554455654793216 : UInt64)), .second, .val (.double (0 : UInt64)), .second, .val (.double (13830554455654793216 : UInt64)), .second, .val (.int (own_exp d1)), .val (.long (d1.toInt64)), .second, .val (.long ((4503599627370495 : Int64) >>> ((own_exp d1) &&& 0x3f).toInt64)), .second, .val (.double (own_cut d1)), .second] [(.int (cmpValue (FP.dcmp (FP.dmul (13830554455654793216 : UInt64) d1) (0 : UInt64)) .l))])) _
    refine XS.ifYes X4'.here hx rfl (pc0 := 115) (pc' := 125) rfl (hb hby d15_115) rfl ((if0 _ _).trans (flt (hD.2.2.2.2.1 : ¬ ((0 : Int32) < (cmpValue (FP.dcmp (FP.dmul (13830554455654793216 : UInt64) d1) (0 : UInt64)) .l)))).2.2.2) (by decide) (by decide) ?_
    show Steps p.tables e below ((U.setVm vm4).setTop (mkF m 125 #[.val (.double d1), .second, .val (.double (13830554455654793216 : UInt64)), .second, .val (.double (0 : UInt64)), .second, .val (.double (13830554455654793216 : UInt64)), .second, .val (.int (own_exp d1)), .val (.long (d1.toInt64)), .second, .val (.long ((4503599627370495 : Int64) >>> ((own_exp d1) &&& 0x3f).toInt64)), .second, .val (.double (own_cut d1)), .second] [])) _
    refine own_dload X4'.here hx rfl (hb hby d15_125) rfl ?_
    exact kt
  refine sg4 _ ?_
  exact own_retD X4'.here hx (by rw [X4'.warm.alike.method?]; exact hm) hret (hb hby d15_127) hl
theorem pd_oDDDDcD : parseMethodDescriptor "(DDDD)D" = some ⟨[.double, .double, .double, .double], some .double⟩ := by decide +kernel
theorem d14_8 : decode jdk_128_method_17_code 8 = .ok (.invokestatic 60, 3) := by decide +kernel
theorem d14_0 : decode jdk_128_method_17_code 0 = .ok (.dload_n 0, 1) := by decide +kernel
theorem d14_1 : decode jdk_128_method_17_code 1 = .ok (.ldc2_w 64, 3) := by decide +kernel
theorem d14_4 : decode jdk_128_method_17_code 4 = .ok (.dconst 0, 1) := by decide +kernel
theorem d14_5 : decode jdk_128_method_17_code 5 = .ok (.ldc2_w 64, 3) := by decide +kernel
theorem d14_11 : decode jdk_128_method_17_code 11 = .ok (.dreturn, 1) := by decide +kernel
set_option maxRecDepth 65536 in
set_option maxHeartbeats 40000000 in
theorem own_raw_floor {Z : State} {a0 : Array Value} (hw : ∀ d ∈ tables_1, d.before a0 Z = true) {p : Program} {l : Launch} {e : Env} {s U : State} {m : MethodId} {below : List Frame} {c : Code} {meth : Method} (hZ : Z.Warmed39 s.vm) (hx : p.tables.exec = Jvm.exec) (X0 : OwnAt l e s m below c U) (hby : c.code = jdk_128_method_17_code)
    (hown : s.vm.findClass "java/lang/StrictMath" = some m.cls) (hm : s.vm.method? m = some meth) (hret : meth.sig.returnType = some .double) {f0 : JFrame} {r : List Frame} (hF : U.frames = .java f0 :: r) (h1 : r.length + 3 < (e.platform.stackLimits U.me).1) (h2 : (stackUse r).2 + 200 ≤ (e.platform.stackLimits U.me).2) (hS : Sta Z U.heap "java/lang/StrictMath" "$assertionsDisabled" "Z" (.int (1 : Int32))) (d1 : UInt64) (hD : OwnFloor d1) :
    ∃ vm', s.WarmedH vm' ∧ ∀ target, (∀ (f : JFrame) (acts : List Action), f.method = m → f.locked = none → f.entered = [] → Steps p.tables e below (doReturn e ((U.setVm vm').setTop f) acts (some (.double (own_cut d1)))).1 target) → Steps p.tables e below (U.setTop (mkF m 0 #[.val (.double d1), .second] [])) target := by
  obtain ⟨mG, methG, cG, kG, nG, mmG, ccG, byG, mlG, retG, lkG, dsG, clG, cnG, fcG⟩ := own_body (sargs := a0) (mvT hZ (hw _ (List.mem_of_getElem? (i := 123) rfl)))
  have stG := Cond.static_spec nG mmG (mvT (args := a0) hZ (hw _ (List.mem_of_getElem? (i := 122) rfl)))
  have inG := Cond.initialized_spec fcG clG (mvT (args := a0) hZ (hw _ (List.mem_of_getElem? (i := 118) rfl)))
  have efG : entryFrame mG [(Value.double d1), (Value.double (13830554455654793216 : UInt64)), (Value.double (0 : UInt64)), (Value.double (13830554455654793216 : UInt64))].toArray cG.maxLocals = mkF mG 0 #[.val (.double d1), .second, .val (.double (13830554455654793216 : UInt64)), .second, .val (.double (0 : UInt64)), .second, .val (.double (13830554455654793216 : UInt64)), .second, .unset, .unset, .unset, .unset, .unset, .unset, .unset] [] := by rw [mlG]; exact own_ef4 mG d1 (13830554455654793216 : UInt64) (0 : UInt64) (13830554455654793216 : UInt64)
  obtain ⟨vm1, X1, st1⟩ := X0.call (sargs := a0) hx hown (mvT hZ (hw _ (List.mem_of_getElem? (i := 121) rfl))) nG mmG stG clG inG (by decide) ccG lkG (by decide +kernel) (g := (mkF m 8 #[.val (.double d1), .second] [(.double (13830554455654793216 : UInt64)), (.double (0 : UInt64)), (.double (13830554455654793216 : UInt64)), (.double d1)])) rfl (argsL := [(.double d1), (.double (13830554455654793216 : UInt64)), (.double (0 : UInt64)), (.double (13830554455654793216 : UInt64))]) (rest := []) (lenOf pd_oDDDDcD rfl _ dsG) rfl (hb hby d14_8) hF (by show r.length + 1 < (e.platform.stackLimits U.me).1; omega) (by rw [mlG]; show (stackUse r).2 + (2 + 11 + 2 * 0 + 0) + 15 + 11 ≤ (e.platform.stackLimits U.me).2; omega) (v := .double (own_cut d1)) (fun Uq Xq hFq heq hlq => by
    rw [efG]
    exact own_raw_foc hw hZ hx Xq byG fcG mmG retG hFq (by rw [hlq]; show r.length + 1 + 2 < (e.platform.stackLimits U.me).1; omega) (by rw [hlq, stackUse_java]; show (stackUse r).2 + (2 + 11 + 2 * 0 + 0) + 150 ≤ (e.platform.stackLimits U.me).2; omega) (by rw [heq]; exact hS) d1 hD)
  refine ⟨vm1, X1.warm, fun target hl => ?_⟩
  show Steps p.tables e below (U.setTop (mkF m 0 #[.val (.double d1), .second] [])) _
  have sg1 : ∀ t, Steps p.tables e below (U.setTop (mkF m 8 #[.val (.double d1), .second] [(.double (13830554455654793216 : UInt64)), (.double (0 : UInt64)), (.double (13830554455654793216 : UInt64)), (.double d1)])) t → Steps p.tables e below (U.setTop (mkF m 0 #[.val (.double d1), .second] [])) t := by
    intro t kt
    show Steps p.tables e below (U.setTop (mkF m 0 #[.val (.double d1), .second] [])) _
    refine own_dloadN X0.here hx rfl (hb hby d14_0) rfl ?_
    show Steps p.tables e below (U.setTop (mkF m 1 #[.val (.double d1), .second] [(.double d1)])) _
    refine X0.ldc2DoubleC (sargs := a0) hx hown (mvT hZ (hw _ (List.mem_of_getElem? (i := 120) rfl))) (g := (mkF m 1 #[.val (.double d1), .second] [(.double d1)])) rfl (hb hby d14_1) _ ?_
    show Steps p.tables e below (U.setTop (mkF m 4 #[.val (.double d1), .second] [(.double (13830554455654793216 : UInt64)), (.double d1)])) _
    refine own_dconst0 X0.here hx rfl (hb hby d14_4) ?_
    show Steps p.tables e below (U.setTop (mkF m 5 #[.val (.double d1), .second] [(.double (0 : UInt64)), (.double (13830554455654793216 : UInt64)), (.double d1)])) _
    refine X0.ldc2DoubleC (sargs := a0) hx hown (mvT hZ (hw _ (List.mem_of_getElem? (i := 120) rfl))) (g := (mkF m 5 #[.val (.double d1), .second] [(.double (0 : UInt64)), (.double (13830554455654793216 : UInt64)), (.double d1)])) rfl (hb hby d14_5) _ ?_
    exact kt
  refine sg1 _ ?_
  refine st1 _ ?_
  show Steps p.tables e below ((U.setVm vm1).setTop (mkF m 11 #[.val (.double d1), .second] [(.double (own_cut d1))])) _
  exact own_retD X1.here hx (by rw [X1.warm.alike.method?]; exact hm) hret (hb hby d14_11) hl
theorem pd_oDcD : parseMethodDescriptor "(D)D" = some ⟨[.double], some .double⟩ := by decide +kernel
set_option maxRecDepth 65536 in
set_option maxHeartbeats 40000000 in
theorem own_floor {Z : State} {a0 : Array Value} (hw : ∀ d ∈ tables_1, d.before a0 Z = true) {p : Program} {l : Launch} {e : Env} {R : Room} {s : State} {m : MethodId} {args : Array Value} {below : List Frame} {meth : Method} {c : Code} {T : State} {locs : List Loc} {cells slots : Nat} (X : Stand p l e R s m args below meth c T locs cells slots) (hx : p.tables.exec = Jvm.exec) (hZ : Z.Warmed39 s.vm) (hown : s.vm.findClass "com/example/nudged_routes/nudgedroutes/simulation/LinkQueue" = some m.cls)
    {h : Heap} (eT : T.heap = h) (hS : Sta Z h "java/lang/StrictMath" "$assertionsDisabled" "Z" (.int (1 : Int32))) {g : JFrame} (hg : g.method = m) (hsize : g.locals.size = c.maxLocals) {rest : List Value} {d1 : UInt64} (hstack : g.stack = .double d1 :: rest) (hdg : decode c.code g.pc = .ok (.invokestatic 51, 3)) (hfr : 5 ≤ R.frames) (hops : 2 * g.monitorRoom + operandWords rest ≤ 500) (hD : OwnFloor d1) :
    ∃ vm', Stand p l e R s m args below meth c (T.setVm vm') locs cells slots ∧ ∀ target, Steps p.tables e below ((T.setVm vm').setTop { g with pc := g.pc + 3, stack := .double (own_cut d1) :: rest }) target → Steps p.tables e below (T.setTop g) target := by
  obtain ⟨mF, methF, cF, kF, nF, mmF, ccF, byF, mlF, retF, lkF, dsF, clF, cnF, fcF⟩ := own_body (sargs := a0) (mvT hZ (hw _ (List.mem_of_getElem? (i := 115) rfl)))
  have stF := Cond.static_spec nF mmF (mvT (args := a0) hZ (hw _ (List.mem_of_getElem? (i := 114) rfl)))
  have inF := Cond.initialized_spec fcF clF (mvT (args := a0) hZ (hw _ (List.mem_of_getElem? (i := 82) rfl)))
  obtain ⟨mS, methS, cS, kS, nS, mmS, ccS, byS, mlS, retS, lkS, dsS, clS, cnS, fcS⟩ := own_body (sargs := a0) (mvT hZ (hw _ (List.mem_of_getElem? (i := 119) rfl)))
  have inS := Cond.initialized_spec fcS clS (mvT (args := a0) hZ (hw _ (List.mem_of_getElem? (i := 118) rfl)))
  obtain ⟨vm1, X1, st1⟩ := X.invokestatic hx hown (mvT hZ (hw _ (List.mem_of_getElem? (i := 113) rfl))) nF mmF stF clF inF (by decide) hg (argsL := [.double d1]) (rest := rest) (lenOf pd_oDcD rfl _ dsF) hstack hdg
  obtain ⟨g₀, hfr0⟩ := X1.frames_eq
  have hcur : (T.setVm vm1).cur < (T.setVm vm1).threads.size := State.cur_lt_of_frames hfr0
  subst hg
  obtain ⟨-, r2, -, r4⟩ := State.hasRoom_stack X.room
  rw [State.localsInUse_invoking X.frames X.method X.code] at r4
  rw [X.frames, List.length_cons] at r2
  have hlim : e.platform.stackLimits (T.setVm vm1).me = e.platform.stackLimits s.me := X1.limits
  have hus : (stackUse below).2 ≤ stackWeight below := stackUse_le_stackWeight below
  have hv : vmFrameWords = 1024 := rfl
  rw [hv] at r4
  rw [← hlim] at r2 r4
  obtain ⟨k1, hk1, ek1⟩ := X1.warmed.alike.2.2 _ _ clF
  have mm1 : (T.setVm vm1).vm.method? mF = some methF := by rw [X1.warmed.alike.method?]; exact mmF
  have hx1 : k1.methods[mF.idx]? = some methF := by
    have q1 : vm1.classes[mF.cls]? = some k1 := hk1
    have q2 : (vm1.classes[mF.cls]?.bind fun y => y.methods[mF.idx]?) = some methF := mm1
    rw [q1] at q2
    exact q2
  have bootF : kF.loader = none := Vm.bootOf_findClass fcF clF
  have boot1 : k1.loader = none := by rw [ek1]; exact bootF
  have kn1 : k1.name = "java/lang/Math" := by rw [ek1]; exact cnF
  obtain ⟨hmnF, hmdF⟩ := name_of_methodNamed nF mmF
  have fcS2 : s.vm.findClass "java/lang/StrictMath" = some mS.cls := fcS
  have hmS : kS.findMethod "floor" "(D)D" = some mS.idx := by
    have q := nS
    simp only [State.methodNamed?, Option.bind_eq_bind, Option.pure_def] at q
    rw [fcS2] at q
    simp only [Option.bind_some, clS] at q
    cases hfm : kS.findMethod "floor" "(D)D" with
    | none => rw [hfm] at q; cases q
    | some j => rw [hfm] at q; exact congrArg some (congrArg MethodId.idx (Option.some.inj q))
  obtain ⟨k2, hk2, ek2⟩ := X1.warmed.alike.2.2 _ _ clS
  have fc2 : (T.setVm vm1).vm.findClass "java/lang/StrictMath" = some mS.cls := by rw [X1.warmed.alike.findClass]; exact fcS2
  have in2 : k2.init = .initialized := by rw [ek2]; exact inS
  have hm2 : k2.findMethod "floor" "(D)D" = some mS.idx := by rw [ek2]; exact hmS
  have mm2 : (T.setVm vm1).vm.method? mS = some methS := by rw [X1.warmed.alike.method?]; exact mmS
  have hfull := own_room (e := e) (V := T.setVm vm1) (g := { g with stack := rest }) hfr0 (vars := 2) (by omega) (by show (stackUse below).2 + (g.locals.size + 11 + 2 * g.monitorRoom + operandWords rest) + 2 + 11 ≤ _; omega)
  have hfN : ((T.setVm vm1).setFrames (.native { method := mF, args := #[.double d1], stage := 1, saved := #[], awaiting := true, answer := none, words := 0 } :: .java { g with stack := rest } :: below)).frames = .native { method := mF, args := #[.double d1], stage := 1, saved := #[], awaiting := true, answer := none, words := 0 } :: .java { g with stack := rest } :: below := State.frames_setFrames _ hcur
  have huN : stackUse (.native { method := mF, args := #[.double d1], stage := 1, saved := #[], awaiting := true, answer := none, words := 0 } :: .java { g with stack := rest } :: below) = ((stackUse below).1 + 1 + 1, (stackUse below).2 + (g.locals.size + 11 + 2 * g.monitorRoom + operandWords rest)) := by rw [stackUse_light _ _ (fun f q => by cases q) rfl, stackUse_java] <;> rfl
  have hfull2 : e.platform.stackFull ((((T.setVm vm1).setFrames (.native { method := mF, args := #[.double d1], stage := 1, saved := #[], awaiting := true, answer := none, words := 0 } :: .java { g with stack := rest } :: below)).threads[((T.setVm vm1).setFrames (.native { method := mF, args := #[.double d1], stage := 1, saved := #[], awaiting := true, answer := none, words := 0 } :: .java { g with stack := rest } :: below)).cur]?).getD { frames := [] }) ((T.setVm vm1).setFrames (.native { method := mF, args := #[.double d1], stage := 1, saved := #[], awaiting := true, answer := none, words := 0 } :: .java { g with stack := rest } :: below)).frames 2 = false := by
    show e.platform.stackFull ((T.setVm vm1).setFrames (.native { method := mF, args := #[.double d1], stage := 1, saved := #[], awaiting := true, answer := none, words := 0 } :: .java { g with stack := rest } :: below)).me _ _ = false
    rw [hfN]
    refine Platform.stackFull_eq_false ?_ ?_
    · rw [State.stackLimits_setFrames]; show below.length + 1 + 1 < _; omega
    · rw [State.stackLimits_setFrames, huN]; show (stackUse below).2 + (g.locals.size + 11 + 2 * g.monitorRoom + operandWords rest) + 2 + 11 ≤ _; omega
  have hfU : ((T.setVm vm1).setFrames (.java (entryFrame mS #[.double d1] 2) :: .native { method := mF, args := #[.double d1], stage := 1, saved := #[], awaiting := true, answer := none, words := 0 } :: .java { g with stack := rest } :: below)).frames = .java (entryFrame mS #[.double d1] 2) :: .native { method := mF, args := #[.double d1], stage := 1, saved := #[], awaiting := true, answer := none, words := 0 } :: .java { g with stack := rest } :: below := State.frames_setFrames _ hcur
  have atU : At ((T.setVm vm1).setFrames (.java (entryFrame mS #[.double d1] 2) :: .native { method := mF, args := #[.double d1], stage := 1, saved := #[], awaiting := true, answer := none, words := 0 } :: .java { g with stack := rest } :: below)) mS cS below :=
    ⟨by rw [State.topJava?_of_frames hfU]; rfl, ⟨[.native { method := mF, args := #[.double d1], stage := 1, saved := #[], awaiting := true, answer := none, words := 0 }, .java { g with stack := rest }], by rw [hfU]; rfl⟩, X1.here.running, by simpa using X1.here.runnable, by simpa using X1.here.alone, by rw [State.code?_eq]; show ((T.setVm vm1).vm.method? mS).bind _ = _; rw [mm2]; exact ccS, own_plain X1.warmed (State.plainMethod.of_named (by decide +kernel) nS mmS)⟩
  have XU : OwnAt l e s mS below cS ((T.setVm vm1).setFrames (.java (entryFrame mS #[.double d1] 2) :: .native { method := mF, args := #[.double d1], stage := 1, saved := #[], awaiting := true, answer := none, words := 0 } :: .java { g with stack := rest } :: below)) := And.intro X.admits (And.intro (show s.WarmedH vm1 from X1.warmed) atU)
  obtain ⟨vm2, hW2, walk⟩ := own_raw_floor hw hZ hx (s := s) XU byS fcS mmS retS hfU (by rw [State.stackLimits_setFrames]; show below.length + 1 + 1 + 3 < _; omega) (by rw [State.stackLimits_setFrames, huN]; show (stackUse below).2 + (g.locals.size + 11 + 2 * g.monitorRoom + operandWords rest) + 200 ≤ _; omega) (by show Sta Z T.heap _ _ _ _; rw [eT]; exact hS) d1 hD
  refine ⟨vm2, X.noted hW2, fun target hrest => st1 target fun acts => ?_⟩
  refine own_mfloor p (s := T.setVm vm1) (g := { g with stack := rest }) (c := c) hfr0 ⟨[], rfl⟩ X1.here.running X1.here.runnable X1.here.alone X1.here.code acts hk1 hx1 boot1 kn1 hmnF hmdF dsF ccF mlF lkF hfull fc2 hk2 in2 hm2 mm2 ccS mlS lkS rfl hfull2 (vm2 := vm2) (v := own_cut d1) (X1.warmed.alike.symm.trans hW2.alike) hD.2.2.2.2.2.2 hdg (fun t q => ?_) ?_
  · exact (congrArg (fun z => Steps p.tables e below (((T.setVm vm1).setFrames (.java (entryFrame mS #[.double d1] 2) :: .native { method := mF, args := #[.double d1], stage := 1, saved := #[], awaiting := true, answer := none, words := 0 } :: .java { g with stack := rest } :: below)).setTop z) t) (own_ef1 mS d1)).mpr (walk t q)
  · rw [State.setTop_of_frames _ (show (T.setVm vm2).frames = .java g₀ :: below from hfr0)] at hrest
    exact hrest
theorem pn1 : plainName "com/example/nudged_routes/nudgedroutes/network/Link" = true := by first | (simp [plainName, overriddenIn]; done) | decide +kernel
theorem d1_0 : decode prog_57_method_2_code 0 = .ok (.aload_n 0, 1) := by decide +kernel
theorem d1_1 : decode prog_57_method_2_code 1 = .ok (.invokespecial 13, 3) := by decide +kernel
theorem d1_4 : decode prog_57_method_2_code 4 = .ok (.dload 5, 2) := by decide +kernel
theorem d1_6 : decode prog_57_method_2_code 6 = .ok (.dconst 0, 1) := by decide +kernel
theorem d1_7 : decode prog_57_method_2_code 7 = .ok (.dcmp .l, 1) := by decide +kernel
theorem d1_8 : decode prog_57_method_2_code 8 = .ok (.ifCond .gt 19, 3) := by decide +kernel
theorem d1_27 : decode prog_57_method_2_code 27 = .ok (.dload 7, 2) := by decide +kernel
theorem d1_29 : decode prog_57_method_2_code 29 = .ok (.dconst 0, 1) := by decide +kernel
theorem d1_30 : decode prog_57_method_2_code 30 = .ok (.dcmp .l, 1) := by decide +kernel
theorem d1_31 : decode prog_57_method_2_code 31 = .ok (.ifCond .ge 19, 3) := by decide +kernel
theorem d1_50 : decode prog_57_method_2_code 50 = .ok (.dload 9, 2) := by decide +kernel
theorem d1_52 : decode prog_57_method_2_code 52 = .ok (.dconst 0, 1) := by decide +kernel
theorem d1_53 : decode prog_57_method_2_code 53 = .ok (.dcmp .l, 1) := by decide +kernel
theorem d1_54 : decode prog_57_method_2_code 54 = .ok (.ifCond .ge 19, 3) := by decide +kernel
theorem d1_73 : decode prog_57_method_2_code 73 = .ok (.iload 11, 2) := by decide +kernel
theorem d1_75 : decode prog_57_method_2_code 75 = .ok (.iconst 1, 1) := by decide +kernel
theorem d1_76 : decode prog_57_method_2_code 76 = .ok (.if_icmp .ge 19, 3) := by decide +kernel
theorem d1_95 : decode prog_57_method_2_code 95 = .ok (.aload_n 0, 1) := by decide +kernel
theorem d1_96 : decode prog_57_method_2_code 96 = .ok (.iload_n 1, 1) := by decide +kernel
theorem d1_97 : decode prog_57_method_2_code 97 = .ok (.putfield 32, 3) := by decide +kernel
theorem d1_100 : decode prog_57_method_2_code 100 = .ok (.aload_n 0, 1) := by decide +kernel
theorem d1_101 : decode prog_57_method_2_code 101 = .ok (.aload_n 2, 1) := by decide +kernel
theorem d1_102 : decode prog_57_method_2_code 102 = .ok (.putfield 36, 3) := by decide +kernel
theorem d1_105 : decode prog_57_method_2_code 105 = .ok (.aload_n 0, 1) := by decide +kernel
theorem d1_106 : decode prog_57_method_2_code 106 = .ok (.aload_n 3, 1) := by decide +kernel
theorem d1_107 : decode prog_57_method_2_code 107 = .ok (.putfield 40, 3) := by decide +kernel
theorem d1_110 : decode prog_57_method_2_code 110 = .ok (.aload_n 0, 1) := by decide +kernel
theorem d1_111 : decode prog_57_method_2_code 111 = .ok (.aload 4, 2) := by decide +kernel
theorem d1_113 : decode prog_57_method_2_code 113 = .ok (.putfield 44, 3) := by decide +kernel
theorem d1_116 : decode prog_57_method_2_code 116 = .ok (.aload_n 0, 1) := by decide +kernel
theorem d1_117 : decode prog_57_method_2_code 117 = .ok (.dload 5, 2) := by decide +kernel
theorem d1_119 : decode prog_57_method_2_code 119 = .ok (.putfield 47, 3) := by decide +kernel
theorem d1_122 : decode prog_57_method_2_code 122 = .ok (.aload_n 0, 1) := by decide +kernel
theorem d1_123 : decode prog_57_method_2_code 123 = .ok (.dload 7, 2) := by decide +kernel
theorem d1_125 : decode prog_57_method_2_code 125 = .ok (.putfield 51, 3) := by decide +kernel
theorem d1_128 : decode prog_57_method_2_code 128 = .ok (.aload_n 0, 1) := by decide +kernel
theorem d1_129 : decode prog_57_method_2_code 129 = .ok (.dload 9, 2) := by decide +kernel
theorem d1_131 : decode prog_57_method_2_code 131 = .ok (.putfield 54, 3) := by decide +kernel
theorem d1_134 : decode prog_57_method_2_code 134 = .ok (.aload_n 0, 1) := by decide +kernel
theorem d1_135 : decode prog_57_method_2_code 135 = .ok (.iload 11, 2) := by decide +kernel
theorem d1_137 : decode prog_57_method_2_code 137 = .ok (.putfield 57, 3) := by decide +kernel
theorem d1_140 : decode prog_57_method_2_code 140 = .ok (.return_, 1) := by decide +kernel
theorem ef_rm_link (m : MethodId) (x0 : Addr) (x1 : Int32) (x2 : Addr) (x5 : UInt64) (x6 : UInt64) (x7 : UInt64) (x8 : Int32) : entryFrame m #[(.ref x0), (.int x1), (.ref x2), .null, .null, (.double x5), (.double x6), (.double x7), (.int x8)] 12 = mkF m 0 #[.val (.ref x0), .val (.int x1), .val (.ref x2), .val .null, .val .null, .val (.double x5), .second, .val (.double x6), .second, .val (.double x7), .second, .val (.int x8)] [] := by first | (simp [entryFrame, mkF, argsToLocals, Value.category]; done) | rfl
def Q_rm_link (Z : State) (a1 : Addr) (p1 : Int32) (a2 : Addr) (d1 : UInt64) (d2 : UInt64) (d3 : UInt64) (p2 : Int32) (u_index : Value) (u_id : Value) (u_from : Value) (u_to : Value) (u_capacityVph : Value) (u_lengthM : Value) (u_freeFlowTimeS : Value) (u_lanes : Value) (h0 : Heap) (n0 : Nat) (v : Option Value) (h : Heap) (L : List Loc) : Prop := v = none ∧ Fr n0 L ∧ Keep h0 h [a1] ∧ Exa Z h a1 "com/example/nudged_routes/nudgedroutes/network/Link" ∧ Fld Z h a1 "com/example/nudged_routes/nudgedroutes/network/Link" "index" "I" (.int p1) ∧ Fld Z h a1 "com/example/nudged_routes/nudgedroutes/network/Link" "id" "Ljava/lang/String;" (.ref a2) ∧ Fld Z h a1 "com/example/nudged_routes/nudgedroutes/network/Link" "from" "Lcom/example/nudged_routes/nudgedroutes/network/Node;" .null ∧ Fld Z h a1 "com/example/nudged_routes/nudgedroutes/network/Link" "to" "Lcom/example/nudged_routes/nudgedroutes/network/Node;" .null ∧ Fld Z h a1 "com/example/nudged_routes/nudgedroutes/network/Link" "capacityVph" "D" (.double d1) ∧ Fld Z h a1 "com/example/nudged_routes/nudgedroutes/network/Link" "lengthM" "D" (.double d2) ∧ Fld Z h a1 "com/example/nudged_routes/nudgedroutes/network/Link" "freeFlowTimeS" "D" (.double d3) ∧ Fld Z h a1 "com/example/nudged_routes/nudgedroutes/network/Link" "lanes" "I" (.int p2)
set_option maxRecDepth 65536 in
set_option maxHeartbeats 40000000 in
theorem rm_link (l : Launch) (Z : State) (a0 : Array Value) (hw : ∀ d ∈ tables_1, d.before a0 Z = true) (ws : List Jvm.Cond) (a1 : Addr) (p1 : Int32) (a2 : Addr) (d1 : UInt64) (d2 : UInt64) (d3 : UInt64) (p2 : Int32) (u_index : Value) (u_id : Value) (u_from : Value) (u_to : Value) (u_capacityVph : Value) (u_lengthM : Value) (u_freeFlowTimeS : Value) (u_lanes : Value) (h0 : Heap) (n0 : Nat) (Z0 : n0 ≤ h0.size) (E_a1 : Exa Z h0 a1 "com/example/nudged_routes/nudgedroutes/network/Link") (g_a1 : n0 ≤ a1) (F_index_a1 : Fld Z h0 a1 "com/example/nudged_routes/nudgedroutes/network/Link" "index" "I" u_index) (F_id_a1 : Fld Z h0 a1 "com/example/nudged_routes/nudgedroutes/network/Link" "id" "Ljava/lang/String;" u_id) (F_from_a1 : Fld Z h0 a1 "com/example/nudged_routes/nudgedroutes/network/Link" "from" "Lcom/example/nudged_routes/nudgedroutes/network/Node;" u_from) (F_to_a1 : Fld Z h0 a1 "com/example/nudged_routes/nudgedroutes/network/Link" "to" "Lcom/example/nudged_routes/nudgedroutes/network/Node;" u_to) (F_capacityVph_a1 : Fld Z h0 a1 "com/example/nudged_routes/nudgedroutes/network/Link" "capacityVph" "D" u_capacityVph) (F_lengthM_a1 : Fld Z h0 a1 "com/example/nudged_routes/nudgedroutes/network/Link" "lengthM" "D" u_lengthM) (F_freeFlowTimeS_a1 : Fld Z h0 a1 "com/example/nudged_routes/nudgedroutes/network/Link" "freeFlowTimeS" "D" u_freeFlowTimeS) (F_lanes_a1 : Fld Z h0 a1 "com/example/nudged_routes/nudgedroutes/network/Link" "lanes" "I" u_lanes) (hL : OwnLink d1 d2 d3 p2) :
    MetFree l (⟨"com/example/nudged_routes/nudgedroutes/network/Link", "<init>", "(ILjava/lang/String;Lcom/example/nudged_routes/nudgedroutes/network/Node;Lcom/example/nudged_routes/nudgedroutes/network/Node;DDDI)V"⟩ : MethodName) (head1 (Jvm.Cond.code (⟨"com/example/nudged_routes/nudgedroutes/network/Link", "<init>", "(ILjava/lang/String;Lcom/example/nudged_routes/nudgedroutes/network/Node;Lcom/example/nudged_routes/nudgedroutes/network/Node;DDDI)V"⟩ : MethodName) prog_57_method_2_code 12 none :: ws) ({ frames := 1, cells := 0, slots := 0, locals := 12 } : Room)) (fun a U => a = #[(.ref a1), (.int p1), (.ref a2), .null, .null, (.double d1), (.double d2), (.double d3), (.int p2)] ∧ Z.Warmed39 U.vm ∧ U.heap = h0) (fun _ _ _ _ _ => True) (fun _ U o U' => ∃ v L, o = .returned v ∧ Q_rm_link Z a1 p1 a2 d1 d2 d3 p2 u_index u_id u_from u_to u_capacityVph u_lengthM u_freeFlowTimeS u_lanes h0 n0 v U'.heap L ∧ FrameEnd U o U' L ({ frames := 1, cells := 0, slots := 0, locals := 12 } : Room).cells ({ frames := 1, cells := 0, slots := 0, locals := 12 } : Room).slots) := by
  refine MetFree.of_bodySF (plainFor_of_name pn1) hisR ?_
  intro p e s m args below meth c s₁ Bd hml0 hP hK
  obtain ⟨rfl, hZ, hh⟩ := hP
  have hx := Bd.exec
  have hby := Bd.bytes
  have hml : c.maxLocals = 12 := hml0
  have hown : s.vm.findClass "com/example/nudged_routes/nudgedroutes/network/Link" = some m.cls := findClass_of_methodNamed Bd.named
  have hnm := (name_of_methodNamed Bd.named Bd.method).1
  have X0 : Stand p l e ({ frames := 1, cells := 0, slots := 0, locals := 12 } : Room) s m #[(.ref a1), (.int p1), (.ref a2), .null, .null, (.double d1), (.double d2), (.double d3), (.int p2)] below meth c s₁ [] 0 0 := Stand.of_body Bd
  have e0 : s₁.heap = h0 := by rw [← hh, Bd.state]; rfl
  have N0 := Fr.nil n0
  refine Go.start (Q := Q_rm_link Z a1 p1 a2 d1 d2 d3 p2 u_index u_id u_from u_to u_capacityVph u_lengthM u_freeFlowTimeS u_lanes h0 n0) (ef_rm_link m a1 p1 a2 d1 d2 d3 p2) ?_
  have sg1 : ∀ t, Steps p.tables e below (s₁.setTop (mkF m 1 #[.val (.ref a1), .val (.int p1), .val (.ref a2), .val .null, .val .null, .val (.double d1), .second, .val (.double d2), .second, .val (.double d3), .second, .val (.int p2)] [(.ref a1)])) t → Steps p.tables e below (s₁.setTop (mkF m 0 #[.val (.ref a1), .val (.int p1), .val (.ref a2), .val .null, .val .null, .val (.double d1), .second, .val (.double d2), .second, .val (.double d3), .second, .val (.int p2)] [])) t := by
    intro t kt
    show Steps p.tables e below (s₁.setTop (mkF m 0 #[.val (.ref a1), .val (.int p1), .val (.ref a2), .val .null, .val .null, .val (.double d1), .second, .val (.double d2), .second, .val (.double d3), .second, .val (.int p2)] [])) _
    refine XS.aloadN X0.here hx rfl (hb hby d1_0) rfl rfl ?_
    exact kt
  refine Go.adv sg1 ?_
  obtain ⟨T2, X2, e2, st2⟩ := initO X0 hx hZ hown (hw _ (List.mem_of_getElem? (i := 17) rfl)) (hw _ (List.mem_of_getElem? (i := 18) rfl)) (hw _ (List.mem_of_getElem? (i := 19) rfl)) e0 (g := (mkF m 1 #[.val (.ref a1), .val (.int p1), .val (.ref a2), .val .null, .val .null, .val (.double d1), .second, .val (.double d2), .second, .val (.double d3), .second, .val (.int p2)] [(.ref a1)])) rfl (by rw [hml]; rfl) rfl (hb hby d1_1) (by decide) (W := 0) (by show 2 * 0 + _ ≤ _; exact Nat.le_of_eq rfl) (by decide)
  refine Go.adv st2 ?_
  show Go p.tables e below s _ _ _ (T2.setTop (mkF m 4 #[.val (.ref a1), .val (.int p1), .val (.ref a2), .val .null, .val .null, .val (.double d1), .second, .val (.double d2), .second, .val (.double d3), .second, .val (.int p2)] []))
  have sg3 : ∀ t, Steps p.tables e below (T2.setTop (mkF m 97 #[.val (.ref a1), .val (.int p1), .val (.ref a2), .val .null, .val .null, .val (.double d1), .second, .val (.double d2), .second, .val (.double d3), .second, .val (.int p2)] [(.int p1), (.ref a1)])) t → Steps p.tables e below (T2.setTop (mkF m 4 #[.val (.ref a1), .val (.int p1), .val (.ref a2), .val .null, .val .null, .val (.double d1), .second, .val (.double d2), .second, .val (.double d3), .second, .val (.int p2)] [])) t := by
    intro t kt
    show Steps p.tables e below (T2.setTop (mkF m 4 #[.val (.ref a1), .val (.int p1), .val (.ref a2), .val .null, .val .null, .val (.double d1), .second, .val (.double d2), .second, .val (.double d3), .second, .val (.int p2)] [])) _
    refine own_dload X2.here hx rfl (hb hby d1_4) rfl ?_
    show Steps p.tables e below (T2.setTop (mkF m 6 #[.val (.ref a1), .val (.int p1), .val (.ref a2), .val .null, .val .null, .val (.double d1), .second, .val (.double d2), .second, .val (.double d3), .second, .val (.int p2)] [(.double d1)])) _
    refine own_dconst0 X2.here hx rfl (hb hby d1_6) ?_
    show Steps p.tables e below (T2.setTop (mkF m 7 #[.val (.ref a1), .val (.int p1), .val (.ref a2), .val .null, .val .null, .val (.double d1), .second, .val (.double d2), .second, .val (.double d3), .second, .val (.int p2)] [(.double (0 : UInt64)), (.double d1)])) _
    refine own_dcmp X2.here hx rfl (hb hby d1_7) rfl ?_
    show Steps p.tables e below (T2.setTop (mkF m 8 #[.val (.ref a1), .val (.int p1), .val (.ref a2), .val .null, .val .null, .val (.double d1), .second, .val (.double d2), .second, .val (.double d3), .second, .val (.int p2)] [(.int (cmpValue (FP.dcmp d1 (0 : UInt64)) .l))])) _
    refine XS.ifYes X2.here hx rfl (pc0 := 8) (pc' := 27) rfl (hb hby d1_8) rfl ((if0 _ _).trans (tlt (hL.1 : (0 : Int32) < (cmpValue (FP.dcmp d1 (0 : UInt64)) .l))).2.2.1) (by decide) (by decide) ?_
    show Steps p.tables e below (T2.setTop (mkF m 27 #[.val (.ref a1), .val (.int p1), .val (.ref a2), .val .null, .val .null, .val (.double d1), .second, .val (.double d2), .second, .val (.double d3), .second, .val (.int p2)] [])) _
    refine own_dload X2.here hx rfl (hb hby d1_27) rfl ?_
    show Steps p.tables e below (T2.setTop (mkF m 29 #[.val (.ref a1), .val (.int p1), .val (.ref a2), .val .null, .val .null, .val (.double d1), .second, .val (.double d2), .second, .val (.double d3), .second, .val (.int p2)] [(.double d2)])) _
    refine own_dconst0 X2.here hx rfl (hb hby d1_29) ?_
    show Steps p.tables e below (T2.setTop (mkF m 30 #[.val (.ref a1), .val (.int p1), .val (.ref a2), .val .null, .val .null, .val (.double d1), .second, .val (.double d2), .second, .val (.double d3), .second, .val (.int p2)] [(.double (0 : UInt64)), (.double d2)])) _
    refine own_dcmp X2.here hx rfl (hb hby d1_30) rfl ?_
    show Steps p.tables e below (T2.setTop (mkF m 31 #[.val (.ref a1), .val (.int p1), .val (.ref a2), .val .null, .val .null, .val (.double d1), .second, .val (.double d2), .second, .val (.double d3), .second, .val (.int p2)] [(.int (cmpValue (FP.dcmp d2 (0 : UInt64)) .l))])) _
    refine XS.ifYes X2.here hx rfl (pc0 := 31) (pc' := 50) rfl (hb hby d1_31) rfl ((if0 _ _).trans (flt (hL.2.1 : ¬ ((cmpValue (FP.dcmp d2 (0 : UInt64)) .l) < (0 : Int32)))).2.1) (by decide) (by decide) ?_
    show Steps p.tables e below (T2.setTop (mkF m 50 #[.val (.ref a1), .val (.int p1), .val (.ref a2), .val .null, .val .null, .val (.double d1), .second, .val (.double d2), .second, .val (.double d3), .second, .val (.int p2)] [])) _
    refine own_dload X2.here hx rfl (hb hby d1_50) rfl ?_
    show Steps p.tables e below (T2.setTop (mkF m 52 #[.val (.ref a1), .val (.int p1), .val (.ref a2), .val .null, .val .null, .val (.double d1), .second, .val (.double d2), .second, .val (.double d3), .second, .val (.int p2)] [(.double d3)])) _
    refine own_dconst0 X2.here hx rfl (hb hby d1_52) ?_
    show Steps p.tables e below (T2.setTop (mkF m 53 #[.val (.ref a1), .val (.int p1), .val (.ref a2), .val .null, .val .null, .val (.double d1), .second, .val (.double d2), .second, .val (.double d3), .second, .val (.int p2)] [(.double (0 : UInt64)), (.double d3)])) _
    refine own_dcmp X2.here hx rfl (hb hby d1_53) rfl ?_
    show Steps p.tables e below (T2.setTop (mkF m 54 #[.val (.ref a1), .val (.int p1), .val (.ref a2), .val .null, .val .null, .val (.double d1), .second, .val (.double d2), .second, .val (.double d3), .second, .val (.int p2)] [(.int (cmpValue (FP.dcmp d3 (0 : UInt64)) .l))])) _
    refine XS.ifYes X2.here hx rfl (pc0 := 54) (pc' := 73) rfl (hb hby d1_54) rfl ((if0 _ _).trans (flt (hL.2.2.1 : ¬ ((cmpValue (FP.dcmp d3 (0 : UInt64)) .l) < (0 : Int32)))).2.1) (by decide) (by decide) ?_
    show Steps p.tables e below (T2.setTop (mkF m 73 #[.val (.ref a1), .val (.int p1), .val (.ref a2), .val .null, .val .null, .val (.double d1), .second, .val (.double d2), .second, .val (.double d3), .second, .val (.int p2)] [])) _
    refine XS.iload X2.here hx rfl (hb hby d1_73) rfl ?_
    show Steps p.tables e below (T2.setTop (mkF m 75 #[.val (.ref a1), .val (.int p1), .val (.ref a2), .val .null, .val .null, .val (.double d1), .second, .val (.double d2), .second, .val (.double d3), .second, .val (.int p2)] [(.int p2)])) _
    refine XS.iconst X2.here hx rfl (hb hby d1_75) ?_
    show Steps p.tables e below (T2.setTop (mkF m 76 #[.val (.ref a1), .val (.int p1), .val (.ref a2), .val .null, .val .null, .val (.double d1), .second, .val (.double d2), .second, .val (.double d3), .second, .val (.int p2)] [(.int (1 : Int32)), (.int p2)])) _
    refine XS.icmpYes X2.here hx rfl (pc0 := 76) (pc' := 95) rfl (hb hby d1_76) rfl (flt (hL.2.2.2 : ¬ (p2 < (1 : Int32)))).2.1 (by decide) (by decide) ?_
    show Steps p.tables e below (T2.setTop (mkF m 95 #[.val (.ref a1), .val (.int p1), .val (.ref a2), .val .null, .val .null, .val (.double d1), .second, .val (.double d2), .second, .val (.double d3), .second, .val (.int p2)] [])) _
    refine XS.aloadN X2.here hx rfl (hb hby d1_95) rfl rfl ?_
    show Steps p.tables e below (T2.setTop (mkF m 96 #[.val (.ref a1), .val (.int p1), .val (.ref a2), .val .null, .val .null, .val (.double d1), .second, .val (.double d2), .second, .val (.double d3), .second, .val (.int p2)] [(.ref a1)])) _
    refine XS.iloadN X2.here hx rfl (hb hby d1_96) rfl ?_
    exact kt
  refine Go.adv sg3 ?_
  obtain ⟨T4, h4, X4, e4, W4, st4⟩ := putF X2 hx hZ hown (host := "") (Or.inl (hw _ (List.mem_of_getElem? (i := 20) rfl))) Via.refl e2 F_index_a1 E_a1 (Or.inr ⟨(hw _ (List.mem_of_getElem? (i := 21) rfl)), rfl, hnm⟩) (hw _ (List.mem_of_getElem? (i := 1) rfl)) (ty := .int) (by decide) rfl rfl (g := (mkF m 97 #[.val (.ref a1), .val (.int p1), .val (.ref a2), .val .null, .val .null, .val (.double d1), .second, .val (.double d2), .second, .val (.double d3), .second, .val (.int p2)] [(.int p1), (.ref a1)])) rfl rfl (hb hby d1_97)
  have Fw4 := F_index_a1.same W4
  have K4 : Keep h0 h4 [a1] := (Keep.refl h0 [a1]).wr W4 (Or.inl (List.mem_of_getElem? (i := 0) rfl))
  have Z4 : n0 ≤ h4.size := Nat.le_trans Z0 (Keep.of_wr W4).1
  have N4 := Fr.snoc X4 N0 g_a1
  refine Go.adv st4 ?_
  show Go p.tables e below s _ _ _ (T4.setTop (mkF m 100 #[.val (.ref a1), .val (.int p1), .val (.ref a2), .val .null, .val .null, .val (.double d1), .second, .val (.double d2), .second, .val (.double d3), .second, .val (.int p2)] []))
  have sg5 : ∀ t, Steps p.tables e below (T4.setTop (mkF m 102 #[.val (.ref a1), .val (.int p1), .val (.ref a2), .val .null, .val .null, .val (.double d1), .second, .val (.double d2), .second, .val (.double d3), .second, .val (.int p2)] [(.ref a2), (.ref a1)])) t → Steps p.tables e below (T4.setTop (mkF m 100 #[.val (.ref a1), .val (.int p1), .val (.ref a2), .val .null, .val .null, .val (.double d1), .second, .val (.double d2), .second, .val (.double d3), .second, .val (.int p2)] [])) t := by
    intro t kt
    show Steps p.tables e below (T4.setTop (mkF m 100 #[.val (.ref a1), .val (.int p1), .val (.ref a2), .val .null, .val .null, .val (.double d1), .second, .val (.double d2), .second, .val (.double d3), .second, .val (.int p2)] [])) _
    refine XS.aloadN X4.here hx rfl (hb hby d1_100) rfl rfl ?_
    show Steps p.tables e below (T4.setTop (mkF m 101 #[.val (.ref a1), .val (.int p1), .val (.ref a2), .val .null, .val .null, .val (.double d1), .second, .val (.double d2), .second, .val (.double d3), .second, .val (.int p2)] [(.ref a1)])) _
    refine XS.aloadN X4.here hx rfl (hb hby d1_101) rfl rfl ?_
    exact kt
  refine Go.adv sg5 ?_
  have f6 := (F_id_a1.other W4 (Or.inr (slot_ne (Or.inr (hw _ (List.mem_of_getElem? (i := 23) rfl))) (Or.inr (hw _ (List.mem_of_getElem? (i := 21) rfl))) (by decide) (t := (.object "java/lang/String")) (t' := .int) (by decide) (by decide))))
  have f7 := (E_a1.wr W4)
  obtain ⟨T8, h8, X8, e8, W8, st8⟩ := putF X4 hx hZ hown (host := "") (Or.inl (hw _ (List.mem_of_getElem? (i := 22) rfl))) Via.refl e4 f6 f7 (Or.inr ⟨(hw _ (List.mem_of_getElem? (i := 23) rfl)), rfl, hnm⟩) (hw _ (List.mem_of_getElem? (i := 1) rfl)) (ty := (.object "java/lang/String")) (by decide) rfl rfl (g := (mkF m 102 #[.val (.ref a1), .val (.int p1), .val (.ref a2), .val .null, .val .null, .val (.double d1), .second, .val (.double d2), .second, .val (.double d3), .second, .val (.int p2)] [(.ref a2), (.ref a1)])) rfl rfl (hb hby d1_102)
  have Fw8 := f6.same W8
  have K8 : Keep h0 h8 [a1] := K4.wr W8 (Or.inl (List.mem_of_getElem? (i := 0) rfl))
  have Z8 : n0 ≤ h8.size := Nat.le_trans Z4 (Keep.of_wr W8).1
  have N8 := Fr.snoc X8 N4 g_a1
  refine Go.adv st8 ?_
  show Go p.tables e below s _ _ _ (T8.setTop (mkF m 105 #[.val (.ref a1), .val (.int p1), .val (.ref a2), .val .null, .val .null, .val (.double d1), .second, .val (.double d2), .second, .val (.double d3), .second, .val (.int p2)] []))
  have sg9 : ∀ t, Steps p.tables e below (T8.setTop (mkF m 107 #[.val (.ref a1), .val (.int p1), .val (.ref a2), .val .null, .val .null, .val (.double d1), .second, .val (.double d2), .second, .val (.double d3), .second, .val (.int p2)] [.null, (.ref a1)])) t → Steps p.tables e below (T8.setTop (mkF m 105 #[.val (.ref a1), .val (.int p1), .val (.ref a2), .val .null, .val .null, .val (.double d1), .second, .val (.double d2), .second, .val (.double d3), .second, .val (.int p2)] [])) t := by
    intro t kt
    show Steps p.tables e below (T8.setTop (mkF m 105 #[.val (.ref a1), .val (.int p1), .val (.ref a2), .val .null, .val .null, .val (.double d1), .second, .val (.double d2), .second, .val (.double d3), .second, .val (.int p2)] [])) _
    refine XS.aloadN X8.here hx rfl (hb hby d1_105) rfl rfl ?_
    show Steps p.tables e below (T8.setTop (mkF m 106 #[.val (.ref a1), .val (.int p1), .val (.ref a2), .val .null, .val .null, .val (.double d1), .second, .val (.double d2), .second, .val (.double d3), .second, .val (.int p2)] [(.ref a1)])) _
    refine XS.aloadN X8.here hx rfl (hb hby d1_106) rfl rfl ?_
    exact kt
  refine Go.adv sg9 ?_
  have f10 := ((F_from_a1.other W4 (Or.inr (slot_ne (Or.inr (hw _ (List.mem_of_getElem? (i := 25) rfl))) (Or.inr (hw _ (List.mem_of_getElem? (i := 21) rfl))) (by decide) (t := (.object "com/example/nudged_routes/nudgedroutes/network/Node")) (t' := .int) (by decide) (by decide)))).other W8 (Or.inr (slot_ne (Or.inr (hw _ (List.mem_of_getElem? (i := 25) rfl))) (Or.inr (hw _ (List.mem_of_getElem? (i := 23) rfl))) (by decide) (t := (.object "com/example/nudged_routes/nudgedroutes/network/Node")) (t' := (.object "java/lang/String")) (by decide) (by decide))))
  have f11 := (f7.wr W8)
  obtain ⟨T12, h12, X12, e12, W12, st12⟩ := putF X8 hx hZ hown (host := "") (Or.inl (hw _ (List.mem_of_getElem? (i := 24) rfl))) Via.refl e8 f10 f11 (Or.inr ⟨(hw _ (List.mem_of_getElem? (i := 25) rfl)), rfl, hnm⟩) (hw _ (List.mem_of_getElem? (i := 1) rfl)) (ty := (.object "com/example/nudged_routes/nudgedroutes/network/Node")) (by decide) rfl rfl (g := (mkF m 107 #[.val (.ref a1), .val (.int p1), .val (.ref a2), .val .null, .val .null, .val (.double d1), .second, .val (.double d2), .second, .val (.double d3), .second, .val (.int p2)] [.null, (.ref a1)])) rfl rfl (hb hby d1_107)
  have Fw12 := f10.same W12
  have K12 : Keep h0 h12 [a1] := K8.wr W12 (Or.inl (List.mem_of_getElem? (i := 0) rfl))
  have Z12 : n0 ≤ h12.size := Nat.le_trans Z8 (Keep.of_wr W12).1
  have N12 := Fr.snoc X12 N8 g_a1
  refine Go.adv st12 ?_
  show Go p.tables e below s _ _ _ (T12.setTop (mkF m 110 #[.val (.ref a1), .val (.int p1), .val (.ref a2), .val .null, .val .null, .val (.double d1), .second, .val (.double d2), .second, .val (.double d3), .second, .val (.int p2)] []))
  have sg13 : ∀ t, Steps p.tables e below (T12.setTop (mkF m 113 #[.val (.ref a1), .val (.int p1), .val (.ref a2), .val .null, .val .null, .val (.double d1), .second, .val (.double d2), .second, .val (.double d3), .second, .val (.int p2)] [.null, (.ref a1)])) t → Steps p.tables e below (T12.setTop (mkF m 110 #[.val (.ref a1), .val (.int p1), .val (.ref a2), .val .null, .val .null, .val (.double d1), .second, .val (.double d2), .second, .val (.double d3), .second, .val (.int p2)] [])) t := by
    intro t kt
    show Steps p.tables e below (T12.setTop (mkF m 110 #[.val (.ref a1), .val (.int p1), .val (.ref a2), .val .null, .val .null, .val (.double d1), .second, .val (.double d2), .second, .val (.double d3), .second, .val (.int p2)] [])) _
    refine XS.aloadN X12.here hx rfl (hb hby d1_110) rfl rfl ?_
    show Steps p.tables e below (T12.setTop (mkF m 111 #[.val (.ref a1), .val (.int p1), .val (.ref a2), .val .null, .val .null, .val (.double d1), .second, .val (.double d2), .second, .val (.double d3), .second, .val (.int p2)] [(.ref a1)])) _
    refine XS.aload X12.here hx rfl (hb hby d1_111) rfl rfl ?_
    exact kt
  refine Go.adv sg13 ?_
  have f14 := (((F_to_a1.other W4 (Or.inr (slot_ne (Or.inr (hw _ (List.mem_of_getElem? (i := 27) rfl))) (Or.inr (hw _ (List.mem_of_getElem? (i := 21) rfl))) (by decide) (t := (.object "com/example/nudged_routes/nudgedroutes/network/Node")) (t' := .int) (by decide) (by decide)))).other W8 (Or.inr (slot_ne (Or.inr (hw _ (List.mem_of_getElem? (i := 27) rfl))) (Or.inr (hw _ (List.mem_of_getElem? (i := 23) rfl))) (by decide) (t := (.object "com/example/nudged_routes/nudgedroutes/network/Node")) (t' := (.object "java/lang/String")) (by decide) (by decide)))).other W12 (Or.inr (slot_ne (Or.inr (hw _ (List.mem_of_getElem? (i := 27) rfl))) (Or.inr (hw _ (List.mem_of_getElem? (i := 25) rfl))) (by decide) (t := (.object "com/example/nudged_routes/nudgedroutes/network/Node")) (t' := (.object "com/example/nudged_routes/nudgedroutes/network/Node")) (by decide) (by decide))))
  have f15 := (f11.wr W12)
  obtain ⟨T16, h16, X16, e16, W16, st16⟩ := putF X12 hx hZ hown (host := "") (Or.inl (hw _ (List.mem_of_getElem? (i := 26) rfl))) Via.refl e12 f14 f15 (Or.inr ⟨(hw _ (List.mem_of_getElem? (i := 27) rfl)), rfl, hnm⟩) (hw _ (List.mem_of_getElem? (i := 1) rfl)) (ty := (.object "com/example/nudged_routes/nudgedroutes/network/Node")) (by decide) rfl rfl (g := (mkF m 113 #[.val (.ref a1), .val (.int p1), .val (.ref a2), .val .null, .val .null, .val (.double d1), .second, .val (.double d2), .second, .val (.double d3), .second, .val (.int p2)] [.null, (.ref a1)])) rfl rfl (hb hby d1_113)
  have Fw16 := f14.same W16
  have K16 : Keep h0 h16 [a1] := K12.wr W16 (Or.inl (List.mem_of_getElem? (i := 0) rfl))
  have Z16 : n0 ≤ h16.size := Nat.le_trans Z12 (Keep.of_wr W16).1
  have N16 := Fr.snoc X16 N12 g_a1
  refine Go.adv st16 ?_
  show Go p.tables e below s _ _ _ (T16.setTop (mkF m 116 #[.val (.ref a1), .val (.int p1), .val (.ref a2), .val .null, .val .null, .val (.double d1), .second, .val (.double d2), .second, .val (.double d3), .second, .val (.int p2)] []))
  have sg17 : ∀ t, Steps p.tables e below (T16.setTop (mkF m 119 #[.val (.ref a1), .val (.int p1), .val (.ref a2), .val .null, .val .null, .val (.double d1), .second, .val (.double d2), .second, .val (.double d3), .second, .val (.int p2)] [(.double d1), (.ref a1)])) t → Steps p.tables e below (T16.setTop (mkF m 116 #[.val (.ref a1), .val (.int p1), .val (.ref a2), .val .null, .val .null, .val (.double d1), .second, .val (.double d2), .second, .val (.double d3), .second, .val (.int p2)] [])) t := by
    intro t kt
    show Steps p.tables e below (T16.setTop (mkF m 116 #[.val (.ref a1), .val (.int p1), .val (.ref a2), .val .null, .val .null, .val (.double d1), .second, .val (.double d2), .second, .val (.double d3), .second, .val (.int p2)] [])) _
    refine XS.aloadN X16.here hx rfl (hb hby d1_116) rfl rfl ?_
    show Steps p.tables e below (T16.setTop (mkF m 117 #[.val (.ref a1), .val (.int p1), .val (.ref a2), .val .null, .val .null, .val (.double d1), .second, .val (.double d2), .second, .val (.double d3), .second, .val (.int p2)] [(.ref a1)])) _
    refine own_dload X16.here hx rfl (hb hby d1_117) rfl ?_
    exact kt
  refine Go.adv sg17 ?_
  have f18 := ((((F_capacityVph_a1.other W4 (Or.inr (slot_ne (Or.inr (hw _ (List.mem_of_getElem? (i := 29) rfl))) (Or.inr (hw _ (List.mem_of_getElem? (i := 21) rfl))) (by decide) (t := .double) (t' := .int) (by decide) (by decide)))).other W8 (Or.inr (slot_ne (Or.inr (hw _ (List.mem_of_getElem? (i := 29) rfl))) (Or.inr (hw _ (List.mem_of_getElem? (i := 23) rfl))) (by decide) (t := .double) (t' := (.object "java/lang/String")) (by decide) (by decide)))).other W12 (Or.inr (slot_ne (Or.inr (hw _ (List.mem_of_getElem? (i := 29) rfl))) (Or.inr (hw _ (List.mem_of_getElem? (i := 25) rfl))) (by decide) (t := .double) (t' := (.object "com/example/nudged_routes/nudgedroutes/network/Node")) (by decide) (by decide)))).other W16 (Or.inr (slot_ne (Or.inr (hw _ (List.mem_of_getElem? (i := 29) rfl))) (Or.inr (hw _ (List.mem_of_getElem? (i := 27) rfl))) (by decide) (t := .double) (t' := (.object "com/example/nudged_routes/nudgedroutes/network/Node")) (by decide) (by decide))))
  have f19 := (f15.wr W16)
  obtain ⟨T20, h20, X20, e20, W20, st20⟩ := putF X16 hx hZ hown (host := "") (Or.inl (hw _ (List.mem_of_getElem? (i := 28) rfl))) Via.refl e16 f18 f19 (Or.inr ⟨(hw _ (List.mem_of_getElem? (i := 29) rfl)), rfl, hnm⟩) (hw _ (List.mem_of_getElem? (i := 1) rfl)) (ty := .double) (by decide) rfl rfl (g := (mkF m 119 #[.val (.ref a1), .val (.int p1), .val (.ref a2), .val .null, .val .null, .val (.double d1), .second, .val (.double d2), .second, .val (.double d3), .second, .val (.int p2)] [(.double d1), (.ref a1)])) rfl rfl (hb hby d1_119)
  have Fw20 := f18.same W20
  have K20 : Keep h0 h20 [a1] := K16.wr W20 (Or.inl (List.mem_of_getElem? (i := 0) rfl))
  have Z20 : n0 ≤ h20.size := Nat.le_trans Z16 (Keep.of_wr W20).1
  have N20 := Fr.snoc X20 N16 g_a1
  refine Go.adv st20 ?_
  show Go p.tables e below s _ _ _ (T20.setTop (mkF m 122 #[.val (.ref a1), .val (.int p1), .val (.ref a2), .val .null, .val .null, .val (.double d1), .second, .val (.double d2), .second, .val (.double d3), .second, .val (.int p2)] []))
  have sg21 : ∀ t, Steps p.tables e below (T20.setTop (mkF m 125 #[.val (.ref a1), .val (.int p1), .val (.ref a2), .val .null, .val .null, .val (.double d1), .second, .val (.double d2), .second, .val (.double d3), .second, .val (.int p2)] [(.double d2), (.ref a1)])) t → Steps p.tables e below (T20.setTop (mkF m 122 #[.val (.ref a1), .val (.int p1), .val (.ref a2), .val .null, .val .null, .val (.double d1), .second, .val (.double d2), .second, .val (.double d3), .second, .val (.int p2)] [])) t := by
    intro t kt
    show Steps p.tables e below (T20.setTop (mkF m 122 #[.val (.ref a1), .val (.int p1), .val (.ref a2), .val .null, .val .null, .val (.double d1), .second, .val (.double d2), .second, .val (.double d3), .second, .val (.int p2)] [])) _
    refine XS.aloadN X20.here hx rfl (hb hby d1_122) rfl rfl ?_
    show Steps p.tables e below (T20.setTop (mkF m 123 #[.val (.ref a1), .val (.int p1), .val (.ref a2), .val .null, .val .null, .val (.double d1), .second, .val (.double d2), .second, .val (.double d3), .second, .val (.int p2)] [(.ref a1)])) _
    refine own_dload X20.here hx rfl (hb hby d1_123) rfl ?_
    exact kt
  refine Go.adv sg21 ?_
  have f22 := (((((F_lengthM_a1.other W4 (Or.inr (slot_ne (Or.inr (hw _ (List.mem_of_getElem? (i := 31) rfl))) (Or.inr (hw _ (List.mem_of_getElem? (i := 21) rfl))) (by decide) (t := .double) (t' := .int) (by decide) (by decide)))).other W8 (Or.inr (slot_ne (Or.inr (hw _ (List.mem_of_getElem? (i := 31) rfl))) (Or.inr (hw _ (List.mem_of_getElem? (i := 23) rfl))) (by decide) (t := .double) (t' := (.object "java/lang/String")) (by decide) (by decide)))).other W12 (Or.inr (slot_ne (Or.inr (hw _ (List.mem_of_getElem? (i := 31) rfl))) (Or.inr (hw _ (List.mem_of_getElem? (i := 25) rfl))) (by decide) (t := .double) (t' := (.object "com/example/nudged_routes/nudgedroutes/network/Node")) (by decide) (by decide)))).other W16 (Or.inr (slot_ne (Or.inr (hw _ (List.mem_of_getElem? (i := 31) rfl))) (Or.inr (hw _ (List.mem_of_getElem? (i := 27) rfl))) (by decide) (t := .double) (t' := (.object "com/example/nudged_routes/nudgedroutes/network/Node")) (by decide) (by decide)))).other W20 (Or.inr (slot_ne (Or.inr (hw _ (List.mem_of_getElem? (i := 31) rfl))) (Or.inr (hw _ (List.mem_of_getElem? (i := 29) rfl))) (by decide) (t := .double) (t' := .double) (by decide) (by decide))))
  have f23 := (f19.wr W20)
  obtain ⟨T24, h24, X24, e24, W24, st24⟩ := putF X20 hx hZ hown (host := "") (Or.inl (hw _ (List.mem_of_getElem? (i := 30) rfl))) Via.refl e20 f22 f23 (Or.inr ⟨(hw _ (List.mem_of_getElem? (i := 31) rfl)), rfl, hnm⟩) (hw _ (List.mem_of_getElem? (i := 1) rfl)) (ty := .double) (by decide) rfl rfl (g := (mkF m 125 #[.val (.ref a1), .val (.int p1), .val (.ref a2), .val .null, .val .null, .val (.double d1), .second, .val (.double d2), .second, .val (.double d3), .second, .val (.int p2)] [(.double d2), (.ref a1)])) rfl rfl (hb hby d1_125)
  have Fw24 := f22.same W24
  have K24 : Keep h0 h24 [a1] := K20.wr W24 (Or.inl (List.mem_of_getElem? (i := 0) rfl))
  have Z24 : n0 ≤ h24.size := Nat.le_trans Z20 (Keep.of_wr W24).1
  have N24 := Fr.snoc X24 N20 g_a1
  refine Go.adv st24 ?_
  show Go p.tables e below s _ _ _ (T24.setTop (mkF m 128 #[.val (.ref a1), .val (.int p1), .val (.ref a2), .val .null, .val .null, .val (.double d1), .second, .val (.double d2), .second, .val (.double d3), .second, .val (.int p2)] []))
  have sg25 : ∀ t, Steps p.tables e below (T24.setTop (mkF m 131 #[.val (.ref a1), .val (.int p1), .val (.ref a2), .val .null, .val .null, .val (.double d1), .second, .val (.double d2), .second, .val (.double d3), .second, .val (.int p2)] [(.double d3), (.ref a1)])) t → Steps p.tables e below (T24.setTop (mkF m 128 #[.val (.ref a1), .val (.int p1), .val (.ref a2), .val .null, .val .null, .val (.double d1), .second, .val (.double d2), .second, .val (.double d3), .second, .val (.int p2)] [])) t := by
    intro t kt
    show Steps p.tables e below (T24.setTop (mkF m 128 #[.val (.ref a1), .val (.int p1), .val (.ref a2), .val .null, .val .null, .val (.double d1), .second, .val (.double d2), .second, .val (.double d3), .second, .val (.int p2)] [])) _
    refine XS.aloadN X24.here hx rfl (hb hby d1_128) rfl rfl ?_
    show Steps p.tables e below (T24.setTop (mkF m 129 #[.val (.ref a1), .val (.int p1), .val (.ref a2), .val .null, .val .null, .val (.double d1), .second, .val (.double d2), .second, .val (.double d3), .second, .val (.int p2)] [(.ref a1)])) _
    refine own_dload X24.here hx rfl (hb hby d1_129) rfl ?_
    exact kt
  refine Go.adv sg25 ?_
  have f26 := ((((((F_freeFlowTimeS_a1.other W4 (Or.inr (slot_ne (Or.inr (hw _ (List.mem_of_getElem? (i := 33) rfl))) (Or.inr (hw _ (List.mem_of_getElem? (i := 21) rfl))) (by decide) (t := .double) (t' := .int) (by decide) (by decide)))).other W8 (Or.inr (slot_ne (Or.inr (hw _ (List.mem_of_getElem? (i := 33) rfl))) (Or.inr (hw _ (List.mem_of_getElem? (i := 23) rfl))) (by decide) (t := .double) (t' := (.object "java/lang/String")) (by decide) (by decide)))).other W12 (Or.inr (slot_ne (Or.inr (hw _ (List.mem_of_getElem? (i := 33) rfl))) (Or.inr (hw _ (List.mem_of_getElem? (i := 25) rfl))) (by decide) (t := .double) (t' := (.object "com/example/nudged_routes/nudgedroutes/network/Node")) (by decide) (by decide)))).other W16 (Or.inr (slot_ne (Or.inr (hw _ (List.mem_of_getElem? (i := 33) rfl))) (Or.inr (hw _ (List.mem_of_getElem? (i := 27) rfl))) (by decide) (t := .double) (t' := (.object "com/example/nudged_routes/nudgedroutes/network/Node")) (by decide) (by decide)))).other W20 (Or.inr (slot_ne (Or.inr (hw _ (List.mem_of_getElem? (i := 33) rfl))) (Or.inr (hw _ (List.mem_of_getElem? (i := 29) rfl))) (by decide) (t := .double) (t' := .double) (by decide) (by decide)))).other W24 (Or.inr (slot_ne (Or.inr (hw _ (List.mem_of_getElem? (i := 33) rfl))) (Or.inr (hw _ (List.mem_of_getElem? (i := 31) rfl))) (by decide) (t := .double) (t' := .double) (by decide) (by decide))))
  have f27 := (f23.wr W24)
  obtain ⟨T28, h28, X28, e28, W28, st28⟩ := putF X24 hx hZ hown (host := "") (Or.inl (hw _ (List.mem_of_getElem? (i := 32) rfl))) Via.refl e24 f26 f27 (Or.inr ⟨(hw _ (List.mem_of_getElem? (i := 33) rfl)), rfl, hnm⟩) (hw _ (List.mem_of_getElem? (i := 1) rfl)) (ty := .double) (by decide) rfl rfl (g := (mkF m 131 #[.val (.ref a1), .val (.int p1), .val (.ref a2), .val .null, .val .null, .val (.double d1), .second, .val (.double d2), .second, .val (.double d3), .second, .val (.int p2)] [(.double d3), (.ref a1)])) rfl rfl (hb hby d1_131)
  have Fw28 := f26.same W28
  have K28 : Keep h0 h28 [a1] := K24.wr W28 (Or.inl (List.mem_of_getElem? (i := 0) rfl))
  have Z28 : n0 ≤ h28.size := Nat.le_trans Z24 (Keep.of_wr W28).1
  have N28 := Fr.snoc X28 N24 g_a1
  refine Go.adv st28 ?_
  show Go p.tables e below s _ _ _ (T28.setTop (mkF m 134 #[.val (.ref a1), .val (.int p1), .val (.ref a2), .val .null, .val .null, .val (.double d1), .second, .val (.double d2), .second, .val (.double d3), .second, .val (.int p2)] []))
  have sg29 : ∀ t, Steps p.tables e below (T28.setTop (mkF m 137 #[.val (.ref a1), .val (.int p1), .val (.ref a2), .val .null, .val .null, .val (.double d1), .second, .val (.double d2), .second, .val (.double d3), .second, .val (.int p2)] [(.int p2), (.ref a1)])) t → Steps p.tables e below (T28.setTop (mkF m 134 #[.val (.ref a1), .val (.int p1), .val (.ref a2), .val .null, .val .null, .val (.double d1), .second, .val (.double d2), .second, .val (.double d3), .second, .val (.int p2)] [])) t := by
    intro t kt
    show Steps p.tables e below (T28.setTop (mkF m 134 #[.val (.ref a1), .val (.int p1), .val (.ref a2), .val .null, .val .null, .val (.double d1), .second, .val (.double d2), .second, .val (.double d3), .second, .val (.int p2)] [])) _
    refine XS.aloadN X28.here hx rfl (hb hby d1_134) rfl rfl ?_
    show Steps p.tables e below (T28.setTop (mkF m 135 #[.val (.ref a1), .val (.int p1), .val (.ref a2), .val .null, .val .null, .val (.double d1), .second, .val (.double d2), .second, .val (.double d3), .second, .val (.int p2)] [(.ref a1)])) _
    refine XS.iload X28.here hx rfl (hb hby d1_135) rfl ?_
    exact kt
  refine Go.adv sg29 ?_
  have f30 := (((((((F_lanes_a1.other W4 (Or.inr (slot_ne (Or.inr (hw _ (List.mem_of_getElem? (i := 35) rfl))) (Or.inr (hw _ (List.mem_of_getElem? (i := 21) rfl))) (by decide) (t := .int) (t' := .int) (by decide) (by decide)))).other W8 (Or.inr (slot_ne (Or.inr (hw _ (List.mem_of_getElem? (i := 35) rfl))) (Or.inr (hw _ (List.mem_of_getElem? (i := 23) rfl))) (by decide) (t := .int) (t' := (.object "java/lang/String")) (by decide) (by decide)))).other W12 (Or.inr (slot_ne (Or.inr (hw _ (List.mem_of_getElem? (i := 35) rfl))) (Or.inr (hw _ (List.mem_of_getElem? (i := 25) rfl))) (by decide) (t := .int) (t' := (.object "com/example/nudged_routes/nudgedroutes/network/Node")) (by decide) (by decide)))).other W16 (Or.inr (slot_ne (Or.inr (hw _ (List.mem_of_getElem? (i := 35) rfl))) (Or.inr (hw _ (List.mem_of_getElem? (i := 27) rfl))) (by decide) (t := .int) (t' := (.object "com/example/nudged_routes/nudgedroutes/network/Node")) (by decide) (by decide)))).other W20 (Or.inr (slot_ne (Or.inr (hw _ (List.mem_of_getElem? (i := 35) rfl))) (Or.inr (hw _ (List.mem_of_getElem? (i := 29) rfl))) (by decide) (t := .int) (t' := .double) (by decide) (by decide)))).other W24 (Or.inr (slot_ne (Or.inr (hw _ (List.mem_of_getElem? (i := 35) rfl))) (Or.inr (hw _ (List.mem_of_getElem? (i := 31) rfl))) (by decide) (t := .int) (t' := .double) (by decide) (by decide)))).other W28 (Or.inr (slot_ne (Or.inr (hw _ (List.mem_of_getElem? (i := 35) rfl))) (Or.inr (hw _ (List.mem_of_getElem? (i := 33) rfl))) (by decide) (t := .int) (t' := .double) (by decide) (by decide))))
  have f31 := (f27.wr W28)
  obtain ⟨T32, h32, X32, e32, W32, st32⟩ := putF X28 hx hZ hown (host := "") (Or.inl (hw _ (List.mem_of_getElem? (i := 34) rfl))) Via.refl e28 f30 f31 (Or.inr ⟨(hw _ (List.mem_of_getElem? (i := 35) rfl)), rfl, hnm⟩) (hw _ (List.mem_of_getElem? (i := 1) rfl)) (ty := .int) (by decide) rfl rfl (g := (mkF m 137 #[.val (.ref a1), .val (.int p1), .val (.ref a2), .val .null, .val .null, .val (.double d1), .second, .val (.double d2), .second, .val (.double d3), .second, .val (.int p2)] [(.int p2), (.ref a1)])) rfl rfl (hb hby d1_137)
  have Fw32 := f30.same W32
  have K32 : Keep h0 h32 [a1] := K28.wr W32 (Or.inl (List.mem_of_getElem? (i := 0) rfl))
  have Z32 : n0 ≤ h32.size := Nat.le_trans Z28 (Keep.of_wr W32).1
  have N32 := Fr.snoc X32 N28 g_a1
  refine Go.adv st32 ?_
  show Go p.tables e below s _ _ _ (T32.setTop (mkF m 140 #[.val (.ref a1), .val (.int p1), .val (.ref a2), .val .null, .val .null, .val (.double d1), .second, .val (.double d2), .second, .val (.double d3), .second, .val (.int p2)] []))
  refine Go.ret (v := none) X32 (fun _ => rfl) Bd.notSynchronized (fun fs hr => X32.returnOut hx Bd.returns (hb hby d1_140) hr) ?_ (by decide) (by decide)
  show Q_rm_link Z a1 p1 a2 d1 d2 d3 p2 u_index u_id u_from u_to u_capacityVph u_lengthM u_freeFlowTimeS u_lanes h0 n0 none T32.heap _
  rw [e32]
  have f33 := (f31.wr W32)
  have f34 := (((((((Fw4.other W8 (Or.inr (slot_ne (Or.inr (hw _ (List.mem_of_getElem? (i := 21) rfl))) (Or.inr (hw _ (List.mem_of_getElem? (i := 23) rfl))) (by decide) (t := .int) (t' := (.object "java/lang/String")) (by decide) (by decide)))).other W12 (Or.inr (slot_ne (Or.inr (hw _ (List.mem_of_getElem? (i := 21) rfl))) (Or.inr (hw _ (List.mem_of_getElem? (i := 25) rfl))) (by decide) (t := .int) (t' := (.object "com/example/nudged_routes/nudgedroutes/network/Node")) (by decide) (by decide)))).other W16 (Or.inr (slot_ne (Or.inr (hw _ (List.mem_of_getElem? (i := 21) rfl))) (Or.inr (hw _ (List.mem_of_getElem? (i := 27) rfl))) (by decide) (t := .int) (t' := (.object "com/example/nudged_routes/nudgedroutes/network/Node")) (by decide) (by decide)))).other W20 (Or.inr (slot_ne (Or.inr (hw _ (List.mem_of_getElem? (i := 21) rfl))) (Or.inr (hw _ (List.mem_of_getElem? (i := 29) rfl))) (by decide) (t := .int) (t' := .double) (by decide) (by decide)))).other W24 (Or.inr (slot_ne (Or.inr (hw _ (List.mem_of_getElem? (i := 21) rfl))) (Or.inr (hw _ (List.mem_of_getElem? (i := 31) rfl))) (by decide) (t := .int) (t' := .double) (by decide) (by decide)))).other W28 (Or.inr (slot_ne (Or.inr (hw _ (List.mem_of_getElem? (i := 21) rfl))) (Or.inr (hw _ (List.mem_of_getElem? (i := 33) rfl))) (by decide) (t := .int) (t' := .double) (by decide) (by decide)))).other W32 (Or.inr (slot_ne (Or.inr (hw _ (List.mem_of_getElem? (i := 21) rfl))) (Or.inr (hw _ (List.mem_of_getElem? (i := 35) rfl))) (by decide) (t := .int) (t' := .int) (by decide) (by decide))))
  have f35 := ((((((Fw8.other W12 (Or.inr (slot_ne (Or.inr (hw _ (List.mem_of_getElem? (i := 23) rfl))) (Or.inr (hw _ (List.mem_of_getElem? (i := 25) rfl))) (by decide) (t := (.object "java/lang/String")) (t' := (.object "com/example/nudged_routes/nudgedroutes/network/Node")) (by decide) (by decide)))).other W16 (Or.inr (slot_ne (Or.inr (hw _ (List.mem_of_getElem? (i := 23) rfl))) (Or.inr (hw _ (List.mem_of_getElem? (i := 27) rfl))) (by decide) (t := (.object "java/lang/String")) (t' := (.object "com/example/nudged_routes/nudgedroutes/network/Node")) (by decide) (by decide)))).other W20 (Or.inr (slot_ne (Or.inr (hw _ (List.mem_of_getElem? (i := 23) rfl))) (Or.inr (hw _ (List.mem_of_getElem? (i := 29) rfl))) (by decide) (t := (.object "java/lang/String")) (t' := .double) (by decide) (by decide)))).other W24 (Or.inr (slot_ne (Or.inr (hw _ (List.mem_of_getElem? (i := 23) rfl))) (Or.inr (hw _ (List.mem_of_getElem? (i := 31) rfl))) (by decide) (t := (.object "java/lang/String")) (t' := .double) (by decide) (by decide)))).other W28 (Or.inr (slot_ne (Or.inr (hw _ (List.mem_of_getElem? (i := 23) rfl))) (Or.inr (hw _ (List.mem_of_getElem? (i := 33) rfl))) (by decide) (t := (.object "java/lang/String")) (t' := .double) (by decide) (by decide)))).other W32 (Or.inr (slot_ne (Or.inr (hw _ (List.mem_of_getElem? (i := 23) rfl))) (Or.inr (hw _ (List.mem_of_getElem? (i := 35) rfl))) (by decide) (t := (.object "java/lang/String")) (t' := .int) (by decide) (by decide))))
  have f36 := (((((Fw12.other W16 (Or.inr (slot_ne (Or.inr (hw _ (List.mem_of_getElem? (i := 25) rfl))) (Or.inr (hw _ (List.mem_of_getElem? (i := 27) rfl))) (by decide) (t := (.object "com/example/nudged_routes/nudgedroutes/network/Node")) (t' := (.object "com/example/nudged_routes/nudgedroutes/network/Node")) (by decide) (by decide)))).other W20 (Or.inr (slot_ne (Or.inr (hw _ (List.mem_of_getElem? (i := 25) rfl))) (Or.inr (hw _ (List.mem_of_getElem? (i := 29) rfl))) (by decide) (t := (.object "com/example/nudged_routes/nudgedroutes/network/Node")) (t' := .double) (by decide) (by decide)))).other W24 (Or.inr (slot_ne (Or.inr (hw _ (List.mem_of_getElem? (i := 25) rfl))) (Or.inr (hw _ (List.mem_of_getElem? (i := 31) rfl))) (by decide) (t := (.object "com/example/nudged_routes/nudgedroutes/network/Node")) (t' := .double) (by decide) (by decide)))).other W28 (Or.inr (slot_ne (Or.inr (hw _ (List.mem_of_getElem? (i := 25) rfl))) (Or.inr (hw _ (List.mem_of_getElem? (i := 33) rfl))) (by decide) (t := (.object "com/example/nudged_routes/nudgedroutes/network/Node")) (t' := .double) (by decide) (by decide)))).other W32 (Or.inr (slot_ne (Or.inr (hw _ (List.mem_of_getElem? (i := 25) rfl))) (Or.inr (hw _ (List.mem_of_getElem? (i := 35) rfl))) (by decide) (t := (.object "com/example/nudged_routes/nudgedroutes/network/Node")) (t' := .int) (by decide) (by decide))))
  have f37 := ((((Fw16.other W20 (Or.inr (slot_ne (Or.inr (hw _ (List.mem_of_getElem? (i := 27) rfl))) (Or.inr (hw _ (List.mem_of_getElem? (i := 29) rfl))) (by decide) (t := (.object "com/example/nudged_routes/nudgedroutes/network/Node")) (t' := .double) (by decide) (by decide)))).other W24 (Or.inr (slot_ne (Or.inr (hw _ (List.mem_of_getElem? (i := 27) rfl))) (Or.inr (hw _ (List.mem_of_getElem? (i := 31) rfl))) (by decide) (t := (.object "com/example/nudged_routes/nudgedroutes/network/Node")) (t' := .double) (by decide) (by decide)))).other W28 (Or.inr (slot_ne (Or.inr (hw _ (List.mem_of_getElem? (i := 27) rfl))) (Or.inr (hw _ (List.mem_of_getElem? (i := 33) rfl))) (by decide) (t := (.object "com/example/nudged_routes/nudgedroutes/network/Node")) (t' := .double) (by decide) (by decide)))).other W32 (Or.inr (slot_ne (Or.inr (hw _ (List.mem_of_getElem? (i := 27) rfl))) (Or.inr (hw _ (List.mem_of_getElem? (i := 35) rfl))) (by decide) (t := (.object "com/example/nudged_routes/nudgedroutes/network/Node")) (t' := .int) (by decide) (by decide))))
  have f38 := (((Fw20.other W24 (Or.inr (slot_ne (Or.inr (hw _ (List.mem_of_getElem? (i := 29) rfl))) (Or.inr (hw _ (List.mem_of_getElem? (i := 31) rfl))) (by decide) (t := .double) (t' := .double) (by decide) (by decide)))).other W28 (Or.inr (slot_ne (Or.inr (hw _ (List.mem_of_getElem? (i := 29) rfl))) (Or.inr (hw _ (List.mem_of_getElem? (i := 33) rfl))) (by decide) (t := .double) (t' := .double) (by decide) (by decide)))).other W32 (Or.inr (slot_ne (Or.inr (hw _ (List.mem_of_getElem? (i := 29) rfl))) (Or.inr (hw _ (List.mem_of_getElem? (i := 35) rfl))) (by decide) (t := .double) (t' := .int) (by decide) (by decide))))
  have f39 := ((Fw24.other W28 (Or.inr (slot_ne (Or.inr (hw _ (List.mem_of_getElem? (i := 31) rfl))) (Or.inr (hw _ (List.mem_of_getElem? (i := 33) rfl))) (by decide) (t := .double) (t' := .double) (by decide) (by decide)))).other W32 (Or.inr (slot_ne (Or.inr (hw _ (List.mem_of_getElem? (i := 31) rfl))) (Or.inr (hw _ (List.mem_of_getElem? (i := 35) rfl))) (by decide) (t := .double) (t' := .int) (by decide) (by decide))))
  have f40 := (Fw28.other W32 (Or.inr (slot_ne (Or.inr (hw _ (List.mem_of_getElem? (i := 33) rfl))) (Or.inr (hw _ (List.mem_of_getElem? (i := 35) rfl))) (by decide) (t := .double) (t' := .int) (by decide) (by decide))))
  exact ⟨rfl, N32, K32, f33, f34, f35, f36, f37, f38, f39, f40, Fw32⟩
theorem pn19 : plainName "com/example/nudged_routes/nudgedroutes/network/Link" = true := by first | (simp [plainName, overriddenIn]; done) | decide +kernel
theorem d19_0 : decode prog_57_method_7_code 0 = .ok (.aload_n 0, 1) := by decide +kernel
theorem d19_1 : decode prog_57_method_7_code 1 = .ok (.getfield 47, 3) := by decide +kernel
theorem d19_4 : decode prog_57_method_7_code 4 = .ok (.dreturn, 1) := by decide +kernel
theorem ef_rm_cap (m : MethodId) (x0 : Addr) : entryFrame m #[(.ref x0)] 1 = mkF m 0 #[.val (.ref x0)] [] := by first | (simp [entryFrame, mkF, argsToLocals, Value.category]; done) | rfl
def Q_rm_cap (Z : State) (a1 : Addr) (v1 : UInt64) (h0 : Heap) (n0 : Nat) (v : Option Value) (h : Heap) (L : List Loc) : Prop := v = some (.double v1) ∧ Fr n0 L ∧ h = h0
set_option maxRecDepth 65536 in
set_option maxHeartbeats 40000000 in
theorem rm_cap (l : Launch) (Z : State) (a0 : Array Value) (hw : ∀ d ∈ tables_1, d.before a0 Z = true) (ws : List Jvm.Cond) (a1 : Addr) (v1 : UInt64) (h0 : Heap) (n0 : Nat) (Z0 : n0 ≤ h0.size) (F_capacityVph_a1 : Fld Z h0 a1 "com/example/nudged_routes/nudgedroutes/network/Link" "capacityVph" "D" (.double v1)) :
    MetFree l (⟨"com/example/nudged_routes/nudgedroutes/network/Link", "capacityVph", "()D"⟩ : MethodName) (head1 (Jvm.Cond.code (⟨"com/example/nudged_routes/nudgedroutes/network/Link", "capacityVph", "()D"⟩ : MethodName) prog_57_method_7_code 1 (some .double) :: ws) ({ frames := 0, cells := 0, slots := 0, locals := 0 } : Room)) (fun a U => a = #[(.ref a1)] ∧ Z.Warmed39 U.vm ∧ U.heap = h0) (fun _ _ _ _ _ => True) (fun _ U o U' => ∃ v L, o = .returned v ∧ Q_rm_cap Z a1 v1 h0 n0 v U'.heap L ∧ FrameEnd U o U' L ({ frames := 0, cells := 0, slots := 0, locals := 0 } : Room).cells ({ frames := 0, cells := 0, slots := 0, locals := 0 } : Room).slots) := by
  refine MetFree.of_bodySF (plainFor_of_name pn19) hisR ?_
  intro p e s m args below meth c s₁ Bd hml0 hP hK
  obtain ⟨rfl, hZ, hh⟩ := hP
  have hx := Bd.exec
  have hby := Bd.bytes
  have hml : c.maxLocals = 1 := hml0
  have hown : s.vm.findClass "com/example/nudged_routes/nudgedroutes/network/Link" = some m.cls := findClass_of_methodNamed Bd.named
  have hnm := (name_of_methodNamed Bd.named Bd.method).1
  have X0 : Stand p l e ({ frames := 0, cells := 0, slots := 0, locals := 0 } : Room) s m #[(.ref a1)] below meth c s₁ [] 0 0 := Stand.of_body Bd
  have e0 : s₁.heap = h0 := by rw [← hh, Bd.state]; rfl
  have N0 := Fr.nil n0
  refine Go.start (Q := Q_rm_cap Z a1 v1 h0 n0) (ef_rm_cap m a1) ?_
  have sg1 : ∀ t, Steps p.tables e below (s₁.setTop (mkF m 1 #[.val (.ref a1)] [(.ref a1)])) t → Steps p.tables e below (s₁.setTop (mkF m 0 #[.val (.ref a1)] [])) t := by
    intro t kt
    show Steps p.tables e below (s₁.setTop (mkF m 0 #[.val (.ref a1)] [])) _
    refine XS.aloadN X0.here hx rfl (hb hby d19_0) rfl rfl ?_
    exact kt
  refine Go.adv sg1 ?_
  obtain ⟨T2, X2, e2, st2⟩ := getF X0 hx hZ hown (host := "") (Or.inl (hw _ (List.mem_of_getElem? (i := 28) rfl))) Via.refl e0 F_capacityVph_a1 (g := (mkF m 1 #[.val (.ref a1)] [(.ref a1)])) rfl rfl (hb hby d19_1)
  refine Go.adv st2 ?_
  show Go p.tables e below s _ _ _ (T2.setTop (mkF m 4 #[.val (.ref a1)] [(.double v1)]))
  refine Go.ret (v := (some (.double v1))) X2 (fun h => by rw [Bd.returns] at h; cases h) Bd.notSynchronized (fun fs hr => retOut X2 hx Bd.returns rfl (Or.inr (Or.inr (Or.inl ⟨rfl, rfl, _, rfl⟩))) (hb hby d19_4) hr) ?_ (by decide) (by decide)
  show Q_rm_cap Z a1 v1 h0 n0 (some (.double v1)) T2.heap _
  rw [e2]
  exact ⟨rfl, N0, rfl⟩
theorem pn11 : plainName "com/example/nudged_routes/nudgedroutes/network/Link" = true := by first | (simp [plainName, overriddenIn]; done) | decide +kernel
theorem d11_0 : decode prog_57_method_8_code 0 = .ok (.aload_n 0, 1) := by decide +kernel
theorem d11_1 : decode prog_57_method_8_code 1 = .ok (.getfield 51, 3) := by decide +kernel
theorem d11_4 : decode prog_57_method_8_code 4 = .ok (.dreturn, 1) := by decide +kernel
theorem ef_rm_len (m : MethodId) (x0 : Addr) : entryFrame m #[(.ref x0)] 1 = mkF m 0 #[.val (.ref x0)] [] := by first | (simp [entryFrame, mkF, argsToLocals, Value.category]; done) | rfl
def Q_rm_len (Z : State) (a1 : Addr) (v1 : UInt64) (h0 : Heap) (n0 : Nat) (v : Option Value) (h : Heap) (L : List Loc) : Prop := v = some (.double v1) ∧ Fr n0 L ∧ h = h0
set_option maxRecDepth 65536 in
set_option maxHeartbeats 40000000 in
theorem rm_len (l : Launch) (Z : State) (a0 : Array Value) (hw : ∀ d ∈ tables_1, d.before a0 Z = true) (ws : List Jvm.Cond) (a1 : Addr) (v1 : UInt64) (h0 : Heap) (n0 : Nat) (Z0 : n0 ≤ h0.size) (F_lengthM_a1 : Fld Z h0 a1 "com/example/nudged_routes/nudgedroutes/network/Link" "lengthM" "D" (.double v1)) :
    MetFree l (⟨"com/example/nudged_routes/nudgedroutes/network/Link", "lengthM", "()D"⟩ : MethodName) (head1 (Jvm.Cond.code (⟨"com/example/nudged_routes/nudgedroutes/network/Link", "lengthM", "()D"⟩ : MethodName) prog_57_method_8_code 1 (some .double) :: ws) ({ frames := 0, cells := 0, slots := 0, locals := 0 } : Room)) (fun a U => a = #[(.ref a1)] ∧ Z.Warmed39 U.vm ∧ U.heap = h0) (fun _ _ _ _ _ => True) (fun _ U o U' => ∃ v L, o = .returned v ∧ Q_rm_len Z a1 v1 h0 n0 v U'.heap L ∧ FrameEnd U o U' L ({ frames := 0, cells := 0, slots := 0, locals := 0 } : Room).cells ({ frames := 0, cells := 0, slots := 0, locals := 0 } : Room).slots) := by
  refine MetFree.of_bodySF (plainFor_of_name pn11) hisR ?_
  intro p e s m args below meth c s₁ Bd hml0 hP hK
  obtain ⟨rfl, hZ, hh⟩ := hP
  have hx := Bd.exec
  have hby := Bd.bytes
  have hml : c.maxLocals = 1 := hml0
  have hown : s.vm.findClass "com/example/nudged_routes/nudgedroutes/network/Link" = some m.cls := findClass_of_methodNamed Bd.named
  have hnm := (name_of_methodNamed Bd.named Bd.method).1
  have X0 : Stand p l e ({ frames := 0, cells := 0, slots := 0, locals := 0 } : Room) s m #[(.ref a1)] below meth c s₁ [] 0 0 := Stand.of_body Bd
  have e0 : s₁.heap = h0 := by rw [← hh, Bd.state]; rfl
  have N0 := Fr.nil n0
  refine Go.start (Q := Q_rm_len Z a1 v1 h0 n0) (ef_rm_len m a1) ?_
  have sg1 : ∀ t, Steps p.tables e below (s₁.setTop (mkF m 1 #[.val (.ref a1)] [(.ref a1)])) t → Steps p.tables e below (s₁.setTop (mkF m 0 #[.val (.ref a1)] [])) t := by
    intro t kt
    show Steps p.tables e below (s₁.setTop (mkF m 0 #[.val (.ref a1)] [])) _
    refine XS.aloadN X0.here hx rfl (hb hby d11_0) rfl rfl ?_
    exact kt
  refine Go.adv sg1 ?_
  obtain ⟨T2, X2, e2, st2⟩ := getF X0 hx hZ hown (host := "") (Or.inl (hw _ (List.mem_of_getElem? (i := 30) rfl))) Via.refl e0 F_lengthM_a1 (g := (mkF m 1 #[.val (.ref a1)] [(.ref a1)])) rfl rfl (hb hby d11_1)
  refine Go.adv st2 ?_
  show Go p.tables e below s _ _ _ (T2.setTop (mkF m 4 #[.val (.ref a1)] [(.double v1)]))
  refine Go.ret (v := (some (.double v1))) X2 (fun h => by rw [Bd.returns] at h; cases h) Bd.notSynchronized (fun fs hr => retOut X2 hx Bd.returns rfl (Or.inr (Or.inr (Or.inl ⟨rfl, rfl, _, rfl⟩))) (hb hby d11_4) hr) ?_ (by decide) (by decide)
  show Q_rm_len Z a1 v1 h0 n0 (some (.double v1)) T2.heap _
  rw [e2]
  exact ⟨rfl, N0, rfl⟩
theorem pn12 : plainName "com/example/nudged_routes/nudgedroutes/network/Link" = true := by first | (simp [plainName, overriddenIn]; done) | decide +kernel
theorem d12_0 : decode prog_57_method_12_code 0 = .ok (.aload_n 0, 1) := by decide +kernel
theorem d12_1 : decode prog_57_method_12_code 1 = .ok (.getfield 57, 3) := by decide +kernel
theorem d12_4 : decode prog_57_method_12_code 4 = .ok (.ireturn, 1) := by decide +kernel
theorem ef_rm_lanes (m : MethodId) (x0 : Addr) : entryFrame m #[(.ref x0)] 1 = mkF m 0 #[.val (.ref x0)] [] := by first | (simp [entryFrame, mkF, argsToLocals, Value.category]; done) | rfl
def Q_rm_lanes (Z : State) (a1 : Addr) (v1 : Int32) (h0 : Heap) (n0 : Nat) (v : Option Value) (h : Heap) (L : List Loc) : Prop := v = some (.int v1) ∧ Fr n0 L ∧ h = h0
set_option maxRecDepth 65536 in
set_option maxHeartbeats 40000000 in
theorem rm_lanes (l : Launch) (Z : State) (a0 : Array Value) (hw : ∀ d ∈ tables_1, d.before a0 Z = true) (ws : List Jvm.Cond) (a1 : Addr) (v1 : Int32) (h0 : Heap) (n0 : Nat) (Z0 : n0 ≤ h0.size) (F_lanes_a1 : Fld Z h0 a1 "com/example/nudged_routes/nudgedroutes/network/Link" "lanes" "I" (.int v1)) :
    MetFree l (⟨"com/example/nudged_routes/nudgedroutes/network/Link", "lanes", "()I"⟩ : MethodName) (head1 (Jvm.Cond.code (⟨"com/example/nudged_routes/nudgedroutes/network/Link", "lanes", "()I"⟩ : MethodName) prog_57_method_12_code 1 (some .int) :: ws) ({ frames := 0, cells := 0, slots := 0, locals := 0 } : Room)) (fun a U => a = #[(.ref a1)] ∧ Z.Warmed39 U.vm ∧ U.heap = h0) (fun _ _ _ _ _ => True) (fun _ U o U' => ∃ v L, o = .returned v ∧ Q_rm_lanes Z a1 v1 h0 n0 v U'.heap L ∧ FrameEnd U o U' L ({ frames := 0, cells := 0, slots := 0, locals := 0 } : Room).cells ({ frames := 0, cells := 0, slots := 0, locals := 0 } : Room).slots) := by
  refine MetFree.of_bodySF (plainFor_of_name pn12) hisR ?_
  intro p e s m args below meth c s₁ Bd hml0 hP hK
  obtain ⟨rfl, hZ, hh⟩ := hP
  have hx := Bd.exec
  have hby := Bd.bytes
  have hml : c.maxLocals = 1 := hml0
  have hown : s.vm.findClass "com/example/nudged_routes/nudgedroutes/network/Link" = some m.cls := findClass_of_methodNamed Bd.named
  have hnm := (name_of_methodNamed Bd.named Bd.method).1
  have X0 : Stand p l e ({ frames := 0, cells := 0, slots := 0, locals := 0 } : Room) s m #[(.ref a1)] below meth c s₁ [] 0 0 := Stand.of_body Bd
  have e0 : s₁.heap = h0 := by rw [← hh, Bd.state]; rfl
  have N0 := Fr.nil n0
  refine Go.start (Q := Q_rm_lanes Z a1 v1 h0 n0) (ef_rm_lanes m a1) ?_
  have sg1 : ∀ t, Steps p.tables e below (s₁.setTop (mkF m 1 #[.val (.ref a1)] [(.ref a1)])) t → Steps p.tables e below (s₁.setTop (mkF m 0 #[.val (.ref a1)] [])) t := by
    intro t kt
    show Steps p.tables e below (s₁.setTop (mkF m 0 #[.val (.ref a1)] [])) _
    refine XS.aloadN X0.here hx rfl (hb hby d12_0) rfl rfl ?_
    exact kt
  refine Go.adv sg1 ?_
  obtain ⟨T2, X2, e2, st2⟩ := getF X0 hx hZ hown (host := "") (Or.inl (hw _ (List.mem_of_getElem? (i := 34) rfl))) Via.refl e0 F_lanes_a1 (g := (mkF m 1 #[.val (.ref a1)] [(.ref a1)])) rfl rfl (hb hby d12_1)
  refine Go.adv st2 ?_
  show Go p.tables e below s _ _ _ (T2.setTop (mkF m 4 #[.val (.ref a1)] [(.int v1)]))
  refine Go.ret (v := (some (.int v1))) X2 (fun h => by rw [Bd.returns] at h; cases h) Bd.notSynchronized (fun fs hr => retOut X2 hx Bd.returns rfl (Or.inl ⟨rfl, Or.inl rfl, _, rfl⟩) (hb hby d12_4) hr) ?_ (by decide) (by decide)
  show Q_rm_lanes Z a1 v1 h0 n0 (some (.int v1)) T2.heap _
  rw [e2]
  exact ⟨rfl, N0, rfl⟩
theorem d8_0 : decode jdk_29_method_22_code 0 = .ok (.dload_n 0, 1) := by decide +kernel
theorem d8_1 : decode jdk_29_method_22_code 1 = .ok (.invokestatic 79, 3) := by decide +kernel
theorem d8_4 : decode jdk_29_method_22_code 4 = .ok (.lstore_n 2, 1) := by decide +kernel
theorem d8_5 : decode jdk_29_method_22_code 5 = .ok (.lload_n 2, 1) := by decide +kernel
theorem d8_6 : decode jdk_29_method_22_code 6 = .ok (.ldc2_w 87, 3) := by decide +kernel
theorem d8_9 : decode jdk_29_method_22_code 9 = .ok (.land, 1) := by decide +kernel
theorem d8_10 : decode jdk_29_method_22_code 10 = .ok (.bipush 52, 2) := by decide +kernel
theorem d8_12 : decode jdk_29_method_22_code 12 = .ok (.lshr, 1) := by decide +kernel
theorem d8_13 : decode jdk_29_method_22_code 13 = .ok (.lstore 4, 2) := by decide +kernel
theorem d8_15 : decode jdk_29_method_22_code 15 = .ok (.ldc2_w 89, 3) := by decide +kernel
theorem d8_18 : decode jdk_29_method_22_code 18 = .ok (.lload 4, 2) := by decide +kernel
theorem d8_20 : decode jdk_29_method_22_code 20 = .ok (.lsub, 1) := by decide +kernel
theorem d8_21 : decode jdk_29_method_22_code 21 = .ok (.lstore 6, 2) := by decide +kernel
theorem d8_23 : decode jdk_29_method_22_code 23 = .ok (.lload 6, 2) := by decide +kernel
theorem d8_25 : decode jdk_29_method_22_code 25 = .ok (.ldc2_w 91, 3) := by decide +kernel
theorem d8_28 : decode jdk_29_method_22_code 28 = .ok (.land, 1) := by decide +kernel
theorem d8_29 : decode jdk_29_method_22_code 29 = .ok (.lconst 0, 1) := by decide +kernel
theorem d8_30 : decode jdk_29_method_22_code 30 = .ok (.lcmp, 1) := by decide +kernel
theorem d8_31 : decode jdk_29_method_22_code 31 = .ok (.ifCond .ne 36, 3) := by decide +kernel
theorem d8_34 : decode jdk_29_method_22_code 34 = .ok (.lload_n 2, 1) := by decide +kernel
theorem d8_35 : decode jdk_29_method_22_code 35 = .ok (.ldc2_w 93, 3) := by decide +kernel
theorem d8_38 : decode jdk_29_method_22_code 38 = .ok (.land, 1) := by decide +kernel
theorem d8_39 : decode jdk_29_method_22_code 39 = .ok (.ldc2_w 95, 3) := by decide +kernel
theorem d8_42 : decode jdk_29_method_22_code 42 = .ok (.lor, 1) := by decide +kernel
theorem d8_43 : decode jdk_29_method_22_code 43 = .ok (.lstore 8, 2) := by decide +kernel
theorem d8_45 : decode jdk_29_method_22_code 45 = .ok (.lload_n 2, 1) := by decide +kernel
theorem d8_46 : decode jdk_29_method_22_code 46 = .ok (.lconst 0, 1) := by decide +kernel
theorem d8_47 : decode jdk_29_method_22_code 47 = .ok (.lcmp, 1) := by decide +kernel
theorem d8_48 : decode jdk_29_method_22_code 48 = .ok (.ifCond .ge 8, 3) := by decide +kernel
theorem d8_56 : decode jdk_29_method_22_code 56 = .ok (.lload 8, 2) := by decide +kernel
theorem d8_58 : decode jdk_29_method_22_code 58 = .ok (.lload 6, 2) := by decide +kernel
theorem d8_60 : decode jdk_29_method_22_code 60 = .ok (.l2i, 1) := by decide +kernel
theorem d8_61 : decode jdk_29_method_22_code 61 = .ok (.lshr, 1) := by decide +kernel
theorem d8_62 : decode jdk_29_method_22_code 62 = .ok (.lconst 1, 1) := by decide +kernel
theorem d8_63 : decode jdk_29_method_22_code 63 = .ok (.ladd, 1) := by decide +kernel
theorem d8_64 : decode jdk_29_method_22_code 64 = .ok (.iconst 1, 1) := by decide +kernel
theorem d8_65 : decode jdk_29_method_22_code 65 = .ok (.lshr, 1) := by decide +kernel
theorem d8_66 : decode jdk_29_method_22_code 66 = .ok (.lreturn, 1) := by decide +kernel
theorem ef_rm_round (m : MethodId) (x0 : UInt64) : entryFrame m #[(.double x0)] 10 = mkF m 0 #[.val (.double x0), .second, .unset, .unset, .unset, .unset, .unset, .unset, .unset, .unset] [] := by first | (simp [entryFrame, mkF, argsToLocals, Value.category]; done) | rfl
def Q_rm_round (Z : State) (d1 : UInt64) (h0 : Heap) (n0 : Nat) (v : Option Value) (h : Heap) (L : List Loc) : Prop := v = some (.long (own_round d1)) ∧ Fr n0 L ∧ h = h0
set_option maxRecDepth 65536 in
set_option maxHeartbeats 40000000 in
theorem rm_round (l : Launch) (Z : State) (a0 : Array Value) (hw : ∀ d ∈ tables_1, d.before a0 Z = true) (ws : List Jvm.Cond) (d1 : UInt64) (h0 : Heap) (n0 : Nat) (Z0 : n0 ≤ h0.size) (hR : OwnRound d1) :
    MetFree l (⟨"java/lang/Math", "round", "(D)J"⟩ : MethodName) (head1 (Jvm.Cond.code (⟨"java/lang/Math", "round", "(D)J"⟩ : MethodName) jdk_29_method_22_code 10 (some .long) :: ws) ({ frames := 1, cells := 0, slots := 0, locals := 15 } : Room)) (fun a U => a = #[(.double d1)] ∧ Z.Warmed39 U.vm ∧ U.heap = h0) (fun _ _ _ _ _ => True) (fun _ U o U' => ∃ v L, o = .returned v ∧ Q_rm_round Z d1 h0 n0 v U'.heap L ∧ FrameEnd U o U' L ({ frames := 1, cells := 0, slots := 0, locals := 15 } : Room).cells ({ frames := 1, cells := 0, slots := 0, locals := 15 } : Room).slots) := by
  refine MetFree.of_bodySF (Jvm.Free.JP.mathPlain rfl (by decide +kernel)) hisR ?_
  intro p e s m args below meth c s₁ Bd hml0 hP hK
  obtain ⟨rfl, hZ, hh⟩ := hP
  have hx := Bd.exec
  have hby := Bd.bytes
  have hml : c.maxLocals = 10 := hml0
  have hown : s.vm.findClass "java/lang/Math" = some m.cls := findClass_of_methodNamed Bd.named
  have hnm := (name_of_methodNamed Bd.named Bd.method).1
  have X0 : Stand p l e ({ frames := 1, cells := 0, slots := 0, locals := 15 } : Room) s m #[(.double d1)] below meth c s₁ [] 0 0 := Stand.of_body Bd
  have e0 : s₁.heap = h0 := by rw [← hh, Bd.state]; rfl
  have N0 := Fr.nil n0
  refine Go.start (Q := Q_rm_round Z d1 h0 n0) (ef_rm_round m d1) ?_
  have sg1 : ∀ t, Steps p.tables e below (s₁.setTop (mkF m 1 #[.val (.double d1), .second, .unset, .unset, .unset, .unset, .unset, .unset, .unset, .unset] [(.double d1)])) t → Steps p.tables e below (s₁.setTop (mkF m 0 #[.val (.double d1), .second, .unset, .unset, .unset, .unset, .unset, .unset, .unset, .unset] [])) t := by
    intro t kt
    show Steps p.tables e below (s₁.setTop (mkF m 0 #[.val (.double d1), .second, .unset, .unset, .unset, .unset, .unset, .unset, .unset, .unset] [])) _
    refine own_dloadN X0.here hx rfl (hb hby d8_0) rfl ?_
    exact kt
  refine Go.adv sg1 ?_
  obtain ⟨vm2, X2, st2⟩ := X0.doubleToRawLongBits hx hown (mvT hZ (hw _ (List.mem_of_getElem? (i := 84) rfl))) (mvT hZ (hw _ (List.mem_of_getElem? (i := 87) rfl))) (mvT hZ (hw _ (List.mem_of_getElem? (i := 85) rfl))) (mvT hZ (hw _ (List.mem_of_getElem? (i := 86) rfl))) (g := (mkF m 1 #[.val (.double d1), .second, .unset, .unset, .unset, .unset, .unset, .unset, .unset, .unset] [(.double d1)])) rfl (by rw [hml]; rfl) (rest := []) (b := d1) rfl (hb hby d8_1) (by decide) (by show 2 * 0 + 0 + (nativeFrameWords "java/lang/Double" "doubleToRawLongBits" 2 + 11) ≤ _; decide +kernel)
  obtain ⟨T2, gT2⟩ : ∃ t, t = s₁.setVm vm2 := ⟨_, rfl⟩
  rw [← gT2] at X2 st2
  have e2 : T2.heap = h0 := by rw [gT2]; exact e0
  refine Go.adv st2 ?_
  show Go p.tables e below s _ _ _ (T2.setTop (mkF m 4 #[.val (.double d1), .second, .unset, .unset, .unset, .unset, .unset, .unset, .unset, .unset] [(.long (d1.toInt64))]))
  have sg3 : ∀ t, Steps p.tables e below (T2.setTop (mkF m 66 #[.val (.double d1), .second, .val (.long (d1.toInt64)), .second, .val (.long (((d1.toInt64) &&& (9218868437227405312 : Int64)) >>> ((52 : Int32) &&& 0x3f).toInt64)), .second, .val (.long ((1074 : Int64) - (((d1.toInt64) &&& (9218868437227405312 : Int64)) >>> ((52 : Int32) &&& 0x3f).toInt64))), .second, .val (.long (((d1.toInt64) &&& (4503599627370495 : Int64)) ||| (4503599627370496 : Int64))), .second] [(.long ((((((d1.toInt64) &&& (4503599627370495 : Int64)) ||| (4503599627370496 : Int64)) >>> ((((1074 : Int64) - (((d1.toInt64) &&& (9218868437227405312 : Int64)) >>> ((52 : Int32) &&& 0x3f).toInt64)).toInt32) &&& 0x3f).toInt64) + (1 : Int64)) >>> ((1 : Int32) &&& 0x3f).toInt64))])) t → Steps p.tables e below (T2.setTop (mkF m 4 #[.val (.double d1), .second, .unset, .unset, .unset, .unset, .unset, .unset, .unset, .unset] [(.long (d1.toInt64))])) t := by
    intro t kt
    show Steps p.tables e below (T2.setTop (mkF m 4 #[.val (.double d1), .second, .unset, .unset, .unset, .unset, .unset, .unset, .unset, .unset] [(.long (d1.toInt64))])) _
    refine XS.lstoreN X2.here hx rfl (hb hby d8_4) rfl (l' := #[.val (.double d1), .second, .val (.long (d1.toInt64)), .second, .unset, .unset, .unset, .unset, .unset, .unset]) rfl ?_
    show Steps p.tables e below (T2.setTop (mkF m 5 #[.val (.double d1), .second, .val (.long (d1.toInt64)), .second, .unset, .unset, .unset, .unset, .unset, .unset] [])) _
    refine XS.lloadN X2.here hx rfl (hb hby d8_5) rfl ?_
    show Steps p.tables e below (T2.setTop (mkF m 6 #[.val (.double d1), .second, .val (.long (d1.toInt64)), .second, .unset, .unset, .unset, .unset, .unset, .unset] [(.long (d1.toInt64))])) _
    refine X2.ldc2Long hx hown (mvT hZ (hw _ (List.mem_of_getElem? (i := 88) rfl))) (g := (mkF m 6 #[.val (.double d1), .second, .val (.long (d1.toInt64)), .second, .unset, .unset, .unset, .unset, .unset, .unset] [(.long (d1.toInt64))])) rfl (hb hby d8_6) _ ?_
    show Steps p.tables e below (T2.setTop (mkF m 9 #[.val (.double d1), .second, .val (.long (d1.toInt64)), .second, .unset, .unset, .unset, .unset, .unset, .unset] [(.long (9218868437227405312 : Int64)), (.long (d1.toInt64))])) _
    refine XS.land X2.here hx rfl (hb hby d8_9) rfl ?_
    show Steps p.tables e below (T2.setTop (mkF m 10 #[.val (.double d1), .second, .val (.long (d1.toInt64)), .second, .unset, .unset, .unset, .unset, .unset, .unset] [(.long ((d1.toInt64) &&& (9218868437227405312 : Int64)))])) _
    refine XS.bipush X2.here hx rfl (hb hby d8_10) ?_
    show Steps p.tables e below (T2.setTop (mkF m 12 #[.val (.double d1), .second, .val (.long (d1.toInt64)), .second, .unset, .unset, .unset, .unset, .unset, .unset] [(.int (52 : Int32)), (.long ((d1.toInt64) &&& (9218868437227405312 : Int64)))])) _
    refine XS.lshr X2.here hx rfl (hb hby d8_12) rfl ?_
    show Steps p.tables e below (T2.setTop (mkF m 13 #[.val (.double d1), .second, .val (.long (d1.toInt64)), .second, .unset, .unset, .unset, .unset, .unset, .unset] [(.long (((d1.toInt64) &&& (9218868437227405312 : Int64)) >>> ((52 : Int32) &&& 0x3f).toInt64))])) _
    refine XS.lstore X2.here hx rfl (hb hby d8_13) rfl (l' := #[.val (.double d1), .second, .val (.long (d1.toInt64)), .second, .val (.long (((d1.toInt64) &&& (9218868437227405312 : Int64)) >>> ((52 : Int32) &&& 0x3f).toInt64)), .second, .unset, .unset, .unset, .unset]) rfl ?_
    show Steps p.tables e below (T2.setTop (mkF m 15 #[.val (.double d1), .second, .val (.long (d1.toInt64)), .second, .val (.long (((d1.toInt64) &&& (9218868437227405312 : Int64)) >>> ((52 : Int32) &&& 0x3f).toInt64)), .second, .unset, .unset, .unset, .unset] [])) _
    refine X2.ldc2Long hx hown (mvT hZ (hw _ (List.mem_of_getElem? (i := 89) rfl))) (g := (mkF m 15 #[.val (.double d1), .second, .val (.long (d1.toInt64)), .second, .val (.long (((d1.toInt64) &&& (9218868437227405312 : Int64)) >>> ((52 : Int32) &&& 0x3f).toInt64)), .second, .unset, .unset, .unset, .unset] [])) rfl (hb hby d8_15) _ ?_
    show Steps p.tables e below (T2.setTop (mkF m 18 #[.val (.double d1), .second, .val (.long (d1.toInt64)), .second, .val (.long (((d1.toInt64) &&& (9218868437227405312 : Int64)) >>> ((52 : Int32) &&& 0x3f).toInt64)), .second, .unset, .unset, .unset, .unset] [(.long (1074 : Int64))])) _
    refine XS.lload X2.here hx rfl (hb hby d8_18) rfl ?_
    show Steps p.tables e below (T2.setTop (mkF m 20 #[.val (.double d1), .second, .val (.long (d1.toInt64)), .second, .val (.long (((d1.toInt64) &&& (9218868437227405312 : Int64)) >>> ((52 : Int32) &&& 0x3f).toInt64)), .second, .unset, .unset, .unset, .unset] [(.long (((d1.toInt64) &&& (9218868437227405312 : Int64)) >>> ((52 : Int32) &&& 0x3f).toInt64)), (.long (1074 : Int64))])) _
    refine XS.lsub X2.here hx rfl (hb hby d8_20) rfl ?_
    show Steps p.tables e below (T2.setTop (mkF m 21 #[.val (.double d1), .second, .val (.long (d1.toInt64)), .second, .val (.long (((d1.toInt64) &&& (9218868437227405312 : Int64)) >>> ((52 : Int32) &&& 0x3f).toInt64)), .second, .unset, .unset, .unset, .unset] [(.long ((1074 : Int64) - (((d1.toInt64) &&& (9218868437227405312 : Int64)) >>> ((52 : Int32) &&& 0x3f).toInt64)))])) _
    refine XS.lstore X2.here hx rfl (hb hby d8_21) rfl (l' := #[.val (.double d1), .second, .val (.long (d1.toInt64)), .second, .val (.long (((d1.toInt64) &&& (9218868437227405312 : Int64)) >>> ((52 : Int32) &&& 0x3f).toInt64)), .second, .val (.long ((1074 : Int64) - (((d1.toInt64) &&& (9218868437227405312 : Int64)) >>> ((52 : Int32) &&& 0x3f).toInt64))), .second, .unset, .unset]) rfl ?_
    show Steps p.tables e below (T2.setTop (mkF m 23 #[.val (.double d1), .second, .val (.long (d1.toInt64)), .second, .val (.long (((d1.toInt64) &&& (9218868437227405312 : Int64)) >>> ((52 : Int32) &&& 0x3f).toInt64)), .second, .val (.long ((1074 : Int64) - (((d1.toInt64) &&& (9218868437227405312 : Int64)) >>> ((52 : Int32) &&& 0x3f).toInt64))), .second, .unset, .unset] [])) _
    refine XS.lload X2.here hx rfl (hb hby d8_23) rfl ?_
    show Steps p.tables e below (T2.setTop (mkF m 25 #[.val (.double d1), .second, .val (.long (d1.toInt64)), .second, .val (.long (((d1.toInt64) &&& (9218868437227405312 : Int64)) >>> ((52 : Int32) &&& 0x3f).toInt64)), .second, .val (.long ((1074 : Int64) - (((d1.toInt64) &&& (9218868437227405312 : Int64)) >>> ((52 : Int32) &&& 0x3f).toInt64))), .second, .unset, .unset] [(.long ((1074 : Int64) - (((d1.toInt64) &&& (9218868437227405312 : Int64)) >>> ((52 : Int32) &&& 0x3f).toInt64)))])) _
    refine X2.ldc2Long hx hown (mvT hZ (hw _ (List.mem_of_getElem? (i := 90) rfl))) (g := (mkF m 25 #[.val (.double d1), .second, .val (.long (d1.toInt64)), .second, .val (.long (((d1.toInt64) &&& (9218868437227405312 : Int64)) >>> ((52 : Int32) &&& 0x3f).toInt64)), .second, .val (.long ((1074 : Int64) - (((d1.toInt64) &&& (9218868437227405312 : Int64)) >>> ((52 : Int32) &&& 0x3f).toInt64))), .second, .unset, .unset] [(.long ((1074 : Int64) - (((d1.toInt64) &&& (9218868437227405312 : Int64)) >>> ((52 : Int32) &&& 0x3f).toInt64)))])) rfl (hb hby d8_25) _ ?_
    show Steps p.tables e below (T2.setTop (mkF m 28 #[.val (.double d1), .second, .val (.long (d1.toInt64)), .second, .val (.long (((d1.toInt64) &&& (9218868437227405312 : Int64)) >>> ((52 : Int32) &&& 0x3f).toInt64)), .second, .val (.long ((1074 : Int64) - (((d1.toInt64) &&& (9218868437227405312 : Int64)) >>> ((52 : Int32) &&& 0x3f).toInt64))), .second, .unset, .unset] [(.long (-64 : Int64)), (.long ((1074 : Int64) - (((d1.toInt64) &&& (9218868437227405312 : Int64)) >>> ((52 : Int32) &&& 0x3f).toInt64)))])) _
    refine XS.land X2.here hx rfl (hb hby d8_28) rfl ?_
    show Steps p.tables e below (T2.setTop (mkF m 29 #[.val (.double d1), .second, .val (.long (d1.toInt64)), .second, .val (.long (((d1.toInt64) &&& (9218868437227405312 : Int64)) >>> ((52 : Int32) &&& 0x3f).toInt64)), .second, .val (.long ((1074 : Int64) - (((d1.toInt64) &&& (9218868437227405312 : Int64)) >>> ((52 : Int32) &&& 0x3f).toInt64))), .second, .unset, .unset] [(.long (((1074 : Int64) - (((d1.toInt64) &&& (9218868437227405312 : Int64)) >>> ((52 : Int32) &&& 0x3f).toInt64)) &&& (-64 : Int64)))])) _
    refine XS.lconst X2.here hx rfl (hb hby d8_29) ?_
    show Steps p.tables e below (T2.setTop (mkF m 30 #[.val (.double d1), .second, .val (.long (d1.toInt64)), .second, .val (.long (((d1.toInt64) &&& (9218868437227405312 : Int64)) >>> ((52 : Int32) &&& 0x3f).toInt64)), .second, .val (.long ((1074 : Int64) - (((d1.toInt64) &&& (9218868437227405312 : Int64)) >>> ((52 : Int32) &&& 0x3f).toInt64))), .second, .unset, .unset] [(.long (0 : Int64)), (.long (((1074 : Int64) - (((d1.toInt64) &&& (9218868437227405312 : Int64)) >>> ((52 : Int32) &&& 0x3f).toInt64)) &&& (-64 : Int64)))])) _
    refine XS.lcmp X2.here hx rfl (hb hby d8_30) rfl ?_
    show Steps p.tables e below (T2.setTop (mkF m 31 #[.val (.double d1), .second, .val (.long (d1.toInt64)), .second, .val (.long (((d1.toInt64) &&& (9218868437227405312 : Int64)) >>> ((52 : Int32) &&& 0x3f).toInt64)), .second, .val (.long ((1074 : Int64) - (((d1.toInt64) &&& (9218868437227405312 : Int64)) >>> ((52 : Int32) &&& 0x3f).toInt64))), .second, .unset, .unset] [(.int (lcmpW (((1074 : Int64) - (((d1.toInt64) &&& (9218868437227405312 : Int64)) >>> ((52 : Int32) &&& 0x3f).toInt64)) &&& (-64 : Int64)) (0 : Int64)))])) _
    refine XS.ifNo X2.here hx rfl (hb hby d8_31) rfl ((if0 _ _).trans (teq (hR.1 : (lcmpW (((1074 : Int64) - (((d1.toInt64) &&& (9218868437227405312 : Int64)) >>> ((52 : Int32) &&& 0x3f).toInt64)) &&& (-64 : Int64)) (0 : Int64)) = (0 : Int32))).2) ?_
    show Steps p.tables e below (T2.setTop (mkF m 34 #[.val (.double d1), .second, .val (.long (d1.toInt64)), .second, .val (.long (((d1.toInt64) &&& (9218868437227405312 : Int64)) >>> ((52 : Int32) &&& 0x3f).toInt64)), .second, .val (.long ((1074 : Int64) - (((d1.toInt64) &&& (9218868437227405312 : Int64)) >>> ((52 : Int32) &&& 0x3f).toInt64))), .second, .unset, .unset] [])) _
    refine XS.lloadN X2.here hx rfl (hb hby d8_34) rfl ?_
    show Steps p.tables e below (T2.setTop (mkF m 35 #[.val (.double d1), .second, .val (.long (d1.toInt64)), .second, .val (.long (((d1.toInt64) &&& (9218868437227405312 : Int64)) >>> ((52 : Int32) &&& 0x3f).toInt64)), .second, .val (.long ((1074 : Int64) - (((d1.toInt64) &&& (9218868437227405312 : Int64)) >>> ((52 : Int32) &&& 0x3f).toInt64))), .second, .unset, .unset] [(.long (d1.toInt64))])) _
    refine X2.ldc2Long hx hown (mvT hZ (hw _ (List.mem_of_getElem? (i := 91) rfl))) (g := (mkF m 35 #[.val (.double d1), .second, .val (.long (d1.toInt64)), .second, .val (.long (((d1.toInt64) &&& (9218868437227405312 : Int64)) >>> ((52 : Int32) &&& 0x3f).toInt64)), .second, .val (.long ((1074 : Int64) - (((d1.toInt64) &&& (9218868437227405312 : Int64)) >>> ((52 : Int32) &&& 0x3f).toInt64))), .second, .unset, .unset] [(.long (d1.toInt64))])) rfl (hb hby d8_35) _ ?_
    show Steps p.tables e below (T2.setTop (mkF m 38 #[.val (.double d1), .second, .val (.long (d1.toInt64)), .second, .val (.long (((d1.toInt64) &&& (9218868437227405312 : Int64)) >>> ((52 : Int32) &&& 0x3f).toInt64)), .second, .val (.long ((1074 : Int64) - (((d1.toInt64) &&& (9218868437227405312 : Int64)) >>> ((52 : Int32) &&& 0x3f).toInt64))), .second, .unset, .unset] [(.long (4503599627370495 : Int64)), (.long (d1.toInt64))])) _
    refine XS.land X2.here hx rfl (hb hby d8_38) rfl ?_
    show Steps p.tables e below (T2.setTop (mkF m 39 #[.val (.double d1), .second, .val (.long (d1.toInt64)), .second, .val (.long (((d1.toInt64) &&& (9218868437227405312 : Int64)) >>> ((52 : Int32) &&& 0x3f).toInt64)), .second, .val (.long ((1074 : Int64) - (((d1.toInt64) &&& (9218868437227405312 : Int64)) >>> ((52 : Int32) &&& 0x3f).toInt64))), .second, .unset, .unset] [(.long ((d1.toInt64) &&& (4503599627370495 : Int64)))])) _
    refine X2.ldc2Long hx hown (mvT hZ (hw _ (List.mem_of_getElem? (i := 92) rfl))) (g := (mkF m 39 #[.val (.double d1), .second, .val (.long (d1.toInt64)), .second, .val (.long (((d1.toInt64) &&& (9218868437227405312 : Int64)) >>> ((52 : Int32) &&& 0x3f).toInt64)), .second, .val (.long ((1074 : Int64) - (((d1.toInt64) &&& (9218868437227405312 : Int64)) >>> ((52 : Int32) &&& 0x3f).toInt64))), .second, .unset, .unset] [(.long ((d1.toInt64) &&& (4503599627370495 : Int64)))])) rfl (hb hby d8_39) _ ?_
    show Steps p.tables e below (T2.setTop (mkF m 42 #[.val (.double d1), .second, .val (.long (d1.toInt64)), .second, .val (.long (((d1.toInt64) &&& (9218868437227405312 : Int64)) >>> ((52 : Int32) &&& 0x3f).toInt64)), .second, .val (.long ((1074 : Int64) - (((d1.toInt64) &&& (9218868437227405312 : Int64)) >>> ((52 : Int32) &&& 0x3f).toInt64))), .second, .unset, .unset] [(.long (4503599627370496 : Int64)), (.long ((d1.toInt64) &&& (4503599627370495 : Int64)))])) _
    refine XS.lor X2.here hx rfl (hb hby d8_42) rfl ?_
    show Steps p.tables e below (T2.setTop (mkF m 43 #[.val (.double d1), .second, .val (.long (d1.toInt64)), .second, .val (.long (((d1.toInt64) &&& (9218868437227405312 : Int64)) >>> ((52 : Int32) &&& 0x3f).toInt64)), .second, .val (.long ((1074 : Int64) - (((d1.toInt64) &&& (9218868437227405312 : Int64)) >>> ((52 : Int32) &&& 0x3f).toInt64))), .second, .unset, .unset] [(.long (((d1.toInt64) &&& (4503599627370495 : Int64)) ||| (4503599627370496 : Int64)))])) _
    refine XS.lstore X2.here hx rfl (hb hby d8_43) rfl (l' := #[.val (.double d1), .second, .val (.long (d1.toInt64)), .second, .val (.long (((d1.toInt64) &&& (9218868437227405312 : Int64)) >>> ((52 : Int32) &&& 0x3f).toInt64)), .second, .val (.long ((1074 : Int64) - (((d1.toInt64) &&& (9218868437227405312 : Int64)) >>> ((52 : Int32) &&& 0x3f).toInt64))), .second, .val (.long (((d1.toInt64) &&& (4503599627370495 : Int64)) ||| (4503599627370496 : Int64))), .second]) rfl ?_
    show Steps p.tables e below (T2.setTop (mkF m 45 #[.val (.double d1), .second, .val (.long (d1.toInt64)), .second, .val (.long (((d1.toInt64) &&& (9218868437227405312 : Int64)) >>> ((52 : Int32) &&& 0x3f).toInt64)), .second, .val (.long ((1074 : Int64) - (((d1.toInt64) &&& (9218868437227405312 : Int64)) >>> ((52 : Int32) &&& 0x3f).toInt64))), .second, .val (.long (((d1.toInt64) &&& (4503599627370495 : Int64)) ||| (4503599627370496 : Int64))), .second] [])) _
    refine XS.lloadN X2.here hx rfl (hb hby d8_45) rfl ?_
    show Steps p.tables e below (T2.setTop (mkF m 46 #[.val (.double d1), .second, .val (.long (d1.toInt64)), .second, .val (.long (((d1.toInt64) &&& (9218868437227405312 : Int64)) >>> ((52 : Int32) &&& 0x3f).toInt64)), .second, .val (.long ((1074 : Int64) - (((d1.toInt64) &&& (9218868437227405312 : Int64)) >>> ((52 : Int32) &&& 0x3f).toInt64))), .second, .val (.long (((d1.toInt64) &&& (4503599627370495 : Int64)) ||| (4503599627370496 : Int64))), .second] [(.long (d1.toInt64))])) _
    refine XS.lconst X2.here hx rfl (hb hby d8_46) ?_
    show Steps p.tables e below (T2.setTop (mkF m 47 #[.val (.double d1), .second, .val (.long (d1.toInt64)), .second, .val (.long (((d1.toInt64) &&& (9218868437227405312 : Int64)) >>> ((52 : Int32) &&& 0x3f).toInt64)), .second, .val (.long ((1074 : Int64) - (((d1.toInt64) &&& (9218868437227405312 : Int64)) >>> ((52 : Int32) &&& 0x3f).toInt64))), .second, .val (.long (((d1.toInt64) &&& (4503599627370495 : Int64)) ||| (4503599627370496 : Int64))), .second] [(.long (0 : Int64)), (.long (d1.toInt64))])) _
    refine XS.lcmp X2.here hx rfl (hb hby d8_47) rfl ?_
    show Steps p.tables e below (T2.setTop (mkF m 48 #[.val (.double d1), .second, .val (.long (d1.toInt64)), .second, .val (.long (((d1.toInt64) &&& (9218868437227405312 : Int64)) >>> ((52 : Int32) &&& 0x3f).toInt64)), .second, .val (.long ((1074 : Int64) - (((d1.toInt64) &&& (9218868437227405312 : Int64)) >>> ((52 : Int32) &&& 0x3f).toInt64))), .second, .val (.long (((d1.toInt64) &&& (4503599627370495 : Int64)) ||| (4503599627370496 : Int64))), .second] [(.int (lcmpW (d1.toInt64) (0 : Int64)))])) _
    refine XS.ifYes X2.here hx rfl (pc0 := 48) (pc' := 56) rfl (hb hby d8_48) rfl ((if0 _ _).trans (flt (hR.2 : ¬ ((lcmpW (d1.toInt64) (0 : Int64)) < (0 : Int32)))).2.1) (by decide) (by decide) ?_
    show Steps p.tables e below (T2.setTop (mkF m 56 #[.val (.double d1), .second, .val (.long (d1.toInt64)), .second, .val (.long (((d1.toInt64) &&& (9218868437227405312 : Int64)) >>> ((52 : Int32) &&& 0x3f).toInt64)), .second, .val (.long ((1074 : Int64) - (((d1.toInt64) &&& (9218868437227405312 : Int64)) >>> ((52 : Int32) &&& 0x3f).toInt64))), .second, .val (.long (((d1.toInt64) &&& (4503599627370495 : Int64)) ||| (4503599627370496 : Int64))), .second] [])) _
    refine XS.lload X2.here hx rfl (hb hby d8_56) rfl ?_
    show Steps p.tables e below (T2.setTop (mkF m 58 #[.val (.double d1), .second, .val (.long (d1.toInt64)), .second, .val (.long (((d1.toInt64) &&& (9218868437227405312 : Int64)) >>> ((52 : Int32) &&& 0x3f).toInt64)), .second, .val (.long ((1074 : Int64) - (((d1.toInt64) &&& (9218868437227405312 : Int64)) >>> ((52 : Int32) &&& 0x3f).toInt64))), .second, .val (.long (((d1.toInt64) &&& (4503599627370495 : Int64)) ||| (4503599627370496 : Int64))), .second] [(.long (((d1.toInt64) &&& (4503599627370495 : Int64)) ||| (4503599627370496 : Int64)))])) _
    refine XS.lload X2.here hx rfl (hb hby d8_58) rfl ?_
    show Steps p.tables e below (T2.setTop (mkF m 60 #[.val (.double d1), .second, .val (.long (d1.toInt64)), .second, .val (.long (((d1.toInt64) &&& (9218868437227405312 : Int64)) >>> ((52 : Int32) &&& 0x3f).toInt64)), .second, .val (.long ((1074 : Int64) - (((d1.toInt64) &&& (9218868437227405312 : Int64)) >>> ((52 : Int32) &&& 0x3f).toInt64))), .second, .val (.long (((d1.toInt64) &&& (4503599627370495 : Int64)) ||| (4503599627370496 : Int64))), .second] [(.long ((1074 : Int64) - (((d1.toInt64) &&& (9218868437227405312 : Int64)) >>> ((52 : Int32) &&& 0x3f).toInt64))), (.long (((d1.toInt64) &&& (4503599627370495 : Int64)) ||| (4503599627370496 : Int64)))])) _
    refine XS.l2i X2.here hx rfl (hb hby d8_60) rfl ?_
    show Steps p.tables e below (T2.setTop (mkF m 61 #[.val (.double d1), .second, .val (.long (d1.toInt64)), .second, .val (.long (((d1.toInt64) &&& (9218868437227405312 : Int64)) >>> ((52 : Int32) &&& 0x3f).toInt64)), .second, .val (.long ((1074 : Int64) - (((d1.toInt64) &&& (9218868437227405312 : Int64)) >>> ((52 : Int32) &&& 0x3f).toInt64))), .second, .val (.long (((d1.toInt64) &&& (4503599627370495 : Int64)) ||| (4503599627370496 : Int64))), .second] [(.int (((1074 : Int64) - (((d1.toInt64) &&& (9218868437227405312 : Int64)) >>> ((52 : Int32) &&& 0x3f).toInt64)).toInt32)), (.long (((d1.toInt64) &&& (4503599627370495 : Int64)) ||| (4503599627370496 : Int64)))])) _
    refine XS.lshr X2.here hx rfl (hb hby d8_61) rfl ?_
    show Steps p.tables e below (T2.setTop (mkF m 62 #[.val (.double d1), .second, .val (.long (d1.toInt64)), .second, .val (.long (((d1.toInt64) &&& (9218868437227405312 : Int64)) >>> ((52 : Int32) &&& 0x3f).toInt64)), .second, .val (.long ((1074 : Int64) - (((d1.toInt64) &&& (9218868437227405312 : Int64)) >>> ((52 : Int32) &&& 0x3f).toInt64))), .second, .val (.long (((d1.toInt64) &&& (4503599627370495 : Int64)) ||| (4503599627370496 : Int64))), .second] [(.long ((((d1.toInt64) &&& (4503599627370495 : Int64)) ||| (4503599627370496 : Int64)) >>> ((((1074 : Int64) - (((d1.toInt64) &&& (9218868437227405312 : Int64)) >>> ((52 : Int32) &&& 0x3f).toInt64)).toInt32) &&& 0x3f).toInt64))])) _
    refine XS.lconst X2.here hx rfl (hb hby d8_62) ?_
    show Steps p.tables e below (T2.setTop (mkF m 63 #[.val (.double d1), .second, .val (.long (d1.toInt64)), .second, .val (.long (((d1.toInt64) &&& (9218868437227405312 : Int64)) >>> ((52 : Int32) &&& 0x3f).toInt64)), .second, .val (.long ((1074 : Int64) - (((d1.toInt64) &&& (9218868437227405312 : Int64)) >>> ((52 : Int32) &&& 0x3f).toInt64))), .second, .val (.long (((d1.toInt64) &&& (4503599627370495 : Int64)) ||| (4503599627370496 : Int64))), .second] [(.long (1 : Int64)), (.long ((((d1.toInt64) &&& (4503599627370495 : Int64)) ||| (4503599627370496 : Int64)) >>> ((((1074 : Int64) - (((d1.toInt64) &&& (9218868437227405312 : Int64)) >>> ((52 : Int32) &&& 0x3f).toInt64)).toInt32) &&& 0x3f).toInt64))])) _
    refine XS.ladd X2.here hx rfl (hb hby d8_63) rfl ?_
    show Steps p.tables e below (T2.setTop (mkF m 64 #[.val (.double d1), .second, .val (.long (d1.toInt64)), .second, .val (.long (((d1.toInt64) &&& (9218868437227405312 : Int64)) >>> ((52 : Int32) &&& 0x3f).toInt64)), .second, .val (.long ((1074 : Int64) - (((d1.toInt64) &&& (9218868437227405312 : Int64)) >>> ((52 : Int32) &&& 0x3f).toInt64))), .second, .val (.long (((d1.toInt64) &&& (4503599627370495 : Int64)) ||| (4503599627370496 : Int64))), .second] [(.long (((((d1.toInt64) &&& (4503599627370495 : Int64)) ||| (4503599627370496 : Int64)) >>> ((((1074 : Int64) - (((d1.toInt64) &&& (9218868437227405312 : Int64)) >>> ((52 : Int32) &&& 0x3f).toInt64)).toInt32) &&& 0x3f).toInt64) + (1 : Int64)))])) _
    refine XS.iconst X2.here hx rfl (hb hby d8_64) ?_
    show Steps p.tables e below (T2.setTop (mkF m 65 #[.val (.double d1), .second, .val (.long (d1.toInt64)), .second, .val (.long (((d1.toInt64) &&& (9218868437227405312 : Int64)) >>> ((52 : Int32) &&& 0x3f).toInt64)), .second, .val (.long ((1074 : Int64) - (((d1.toInt64) &&& (9218868437227405312 : Int64)) >>> ((52 : Int32) &&& 0x3f).toInt64))), .second, .val (.long (((d1.toInt64) &&& (4503599627370495 : Int64)) ||| (4503599627370496 : Int64))), .second] [(.int (1 : Int32)), (.long (((((d1.toInt64) &&& (4503599627370495 : Int64)) ||| (4503599627370496 : Int64)) >>> ((((1074 : Int64) - (((d1.toInt64) &&& (9218868437227405312 : Int64)) >>> ((52 : Int32) &&& 0x3f).toInt64)).toInt32) &&& 0x3f).toInt64) + (1 : Int64)))])) _
    refine XS.lshr X2.here hx rfl (hb hby d8_65) rfl ?_
    exact kt
  refine Go.adv sg3 ?_
  refine Go.ret (v := (some (.long ((((((d1.toInt64) &&& (4503599627370495 : Int64)) ||| (4503599627370496 : Int64)) >>> ((((1074 : Int64) - (((d1.toInt64) &&& (9218868437227405312 : Int64)) >>> ((52 : Int32) &&& 0x3f).toInt64)).toInt32) &&& 0x3f).toInt64) + (1 : Int64)) >>> ((1 : Int32) &&& 0x3f).toInt64)))) X2 (fun h => by rw [Bd.returns] at h; cases h) Bd.notSynchronized (fun fs hr => retOut X2 hx Bd.returns rfl (Or.inr (Or.inl ⟨rfl, rfl, _, rfl⟩)) (hb hby d8_66) hr) ?_ (by decide) (by decide)
  show Q_rm_round Z d1 h0 n0 (some (.long ((((((d1.toInt64) &&& (4503599627370495 : Int64)) ||| (4503599627370496 : Int64)) >>> ((((1074 : Int64) - (((d1.toInt64) &&& (9218868437227405312 : Int64)) >>> ((52 : Int32) &&& 0x3f).toInt64)).toInt32) &&& 0x3f).toInt64) + (1 : Int64)) >>> ((1 : Int32) &&& 0x3f).toInt64))) T2.heap _
  rw [e2]
  exact ⟨rfl, N0, rfl⟩
theorem d9_0 : decode jdk_29_method_70_code 0 = .ok (.lload_n 0, 1) := by decide +kernel
theorem d9_1 : decode jdk_29_method_70_code 1 = .ok (.lload_n 2, 1) := by decide +kernel
theorem d9_2 : decode jdk_29_method_70_code 2 = .ok (.lcmp, 1) := by decide +kernel
theorem d9_3 : decode jdk_29_method_70_code 3 = .ok (.ifCond .gt 7, 3) := by decide +kernel
theorem d9_10 : decode jdk_29_method_70_code 10 = .ok (.lload_n 2, 1) := by decide +kernel
theorem d9_11 : decode jdk_29_method_70_code 11 = .ok (.lreturn, 1) := by decide +kernel
theorem d9_6 : decode jdk_29_method_70_code 6 = .ok (.lload_n 0, 1) := by decide +kernel
theorem d9_7 : decode jdk_29_method_70_code 7 = .ok (.goto 4, 3) := by decide +kernel
theorem ef_rm_minJ (m : MethodId) (x0 : Int64) (x1 : Int64) : entryFrame m #[(.long x0), (.long x1)] 4 = mkF m 0 #[.val (.long x0), .second, .val (.long x1), .second] [] := by first | (simp [entryFrame, mkF, argsToLocals, Value.category]; done) | rfl
def Q_rm_minJ (Z : State) (q1 : Int64) (q2 : Int64) (h0 : Heap) (n0 : Nat) (v : Option Value) (h : Heap) (L : List Loc) : Prop := v = some (.long (own_minJ q1 q2)) ∧ Fr n0 L ∧ h = h0
set_option maxRecDepth 65536 in
set_option maxHeartbeats 40000000 in
theorem rm_minJ (l : Launch) (Z : State) (a0 : Array Value) (hw : ∀ d ∈ tables_1, d.before a0 Z = true) (ws : List Jvm.Cond) (q1 : Int64) (q2 : Int64) (h0 : Heap) (n0 : Nat) (Z0 : n0 ≤ h0.size)  :
    MetFree l (⟨"java/lang/Math", "min", "(JJ)J"⟩ : MethodName) (head1 (Jvm.Cond.code (⟨"java/lang/Math", "min", "(JJ)J"⟩ : MethodName) jdk_29_method_70_code 4 (some .long) :: ws) ({ frames := 0, cells := 0, slots := 0, locals := 0 } : Room)) (fun a U => a = #[(.long q1), (.long q2)] ∧ Z.Warmed39 U.vm ∧ U.heap = h0) (fun _ _ _ _ _ => True) (fun _ U o U' => ∃ v L, o = .returned v ∧ Q_rm_minJ Z q1 q2 h0 n0 v U'.heap L ∧ FrameEnd U o U' L ({ frames := 0, cells := 0, slots := 0, locals := 0 } : Room).cells ({ frames := 0, cells := 0, slots := 0, locals := 0 } : Room).slots) := by
  refine MetFree.of_bodySF (Jvm.Free.JP.mathPlain rfl (by decide +kernel)) hisR ?_
  intro p e s m args below meth c s₁ Bd hml0 hP hK
  obtain ⟨rfl, hZ, hh⟩ := hP
  have hx := Bd.exec
  have hby := Bd.bytes
  have hml : c.maxLocals = 4 := hml0
  have hown : s.vm.findClass "java/lang/Math" = some m.cls := findClass_of_methodNamed Bd.named
  have hnm := (name_of_methodNamed Bd.named Bd.method).1
  have X0 : Stand p l e ({ frames := 0, cells := 0, slots := 0, locals := 0 } : Room) s m #[(.long q1), (.long q2)] below meth c s₁ [] 0 0 := Stand.of_body Bd
  have e0 : s₁.heap = h0 := by rw [← hh, Bd.state]; rfl
  have N0 := Fr.nil n0
  refine Go.start (Q := Q_rm_minJ Z q1 q2 h0 n0) (ef_rm_minJ m q1 q2) ?_
  by_cases hc : (0 : Int32) < (lcmpW q1 q2)
  · have sg1 : ∀ t, Steps p.tables e below (s₁.setTop (mkF m 11 #[.val (.long q1), .second, .val (.long q2), .second] [(.long q2)])) t → Steps p.tables e below (s₁.setTop (mkF m 0 #[.val (.long q1), .second, .val (.long q2), .second] [])) t := by
      intro t kt
      show Steps p.tables e below (s₁.setTop (mkF m 0 #[.val (.long q1), .second, .val (.long q2), .second] [])) _
      refine XS.lloadN X0.here hx rfl (hb hby d9_0) rfl ?_
      show Steps p.tables e below (s₁.setTop (mkF m 1 #[.val (.long q1), .second, .val (.long q2), .second] [(.long q1)])) _
      refine XS.lloadN X0.here hx rfl (hb hby d9_1) rfl ?_
      show Steps p.tables e below (s₁.setTop (mkF m 2 #[.val (.long q1), .second, .val (.long q2), .second] [(.long q2), (.long q1)])) _
      refine XS.lcmp X0.here hx rfl (hb hby d9_2) rfl ?_
      show Steps p.tables e below (s₁.setTop (mkF m 3 #[.val (.long q1), .second, .val (.long q2), .second] [(.int (lcmpW q1 q2))])) _
      refine XS.ifYes X0.here hx rfl (pc0 := 3) (pc' := 10) rfl (hb hby d9_3) rfl ((if0 _ _).trans (tlt (hc : (0 : Int32) < (lcmpW q1 q2))).2.2.1) (by decide) (by decide) ?_
      show Steps p.tables e below (s₁.setTop (mkF m 10 #[.val (.long q1), .second, .val (.long q2), .second] [])) _
      refine XS.lloadN X0.here hx rfl (hb hby d9_10) rfl ?_
      exact kt
    refine Go.adv sg1 ?_
    refine Go.ret (v := (some (.long q2))) X0 (fun h => by rw [Bd.returns] at h; cases h) Bd.notSynchronized (fun fs hr => retOut X0 hx Bd.returns rfl (Or.inr (Or.inl ⟨rfl, rfl, _, rfl⟩)) (hb hby d9_11) hr) ?_ (by decide) (by decide)
    show Q_rm_minJ Z q1 q2 h0 n0 (some (.long q2)) s₁.heap _
    rw [e0]
    exact ⟨congrArg (fun z => some (Value.long z)) (own_minJ_a hc).symm, N0, rfl⟩
  · have sg2 : ∀ t, Steps p.tables e below (s₁.setTop (mkF m 11 #[.val (.long q1), .second, .val (.long q2), .second] [(.long q1)])) t → Steps p.tables e below (s₁.setTop (mkF m 0 #[.val (.long q1), .second, .val (.long q2), .second] [])) t := by
      intro t kt
      show Steps p.tables e below (s₁.setTop (mkF m 0 #[.val (.long q1), .second, .val (.long q2), .second] [])) _
      refine XS.lloadN X0.here hx rfl (hb hby d9_0) rfl ?_
      show Steps p.tables e below (s₁.setTop (mkF m 1 #[.val (.long q1), .second, .val (.long q2), .second] [(.long q1)])) _
      refine XS.lloadN X0.here hx rfl (hb hby d9_1) rfl ?_
      show Steps p.tables e below (s₁.setTop (mkF m 2 #[.val (.long q1), .second, .val (.long q2), .second] [(.long q2), (.long q1)])) _
      refine XS.lcmp X0.here hx rfl (hb hby d9_2) rfl ?_
      show Steps p.tables e below (s₁.setTop (mkF m 3 #[.val (.long q1), .second, .val (.long q2), .second] [(.int (lcmpW q1 q2))])) _
      refine XS.ifNo X0.here hx rfl (hb hby d9_3) rfl ((if0 _ _).trans (flt (hc : ¬ ((0 : Int32) < (lcmpW q1 q2)))).2.2.1) ?_
      show Steps p.tables e below (s₁.setTop (mkF m 6 #[.val (.long q1), .second, .val (.long q2), .second] [])) _
      refine XS.lloadN X0.here hx rfl (hb hby d9_6) rfl ?_
      show Steps p.tables e below (s₁.setTop (mkF m 7 #[.val (.long q1), .second, .val (.long q2), .second] [(.long q1)])) _
      refine XS.goto X0.here hx rfl (pc0 := 7) (pc' := 11) rfl (hb hby d9_7) (by decide) (by decide) ?_
      exact kt
    refine Go.adv sg2 ?_
    refine Go.ret (v := (some (.long q1))) X0 (fun h => by rw [Bd.returns] at h; cases h) Bd.notSynchronized (fun fs hr => retOut X0 hx Bd.returns rfl (Or.inr (Or.inl ⟨rfl, rfl, _, rfl⟩)) (hb hby d9_11) hr) ?_ (by decide) (by decide)
    show Q_rm_minJ Z q1 q2 h0 n0 (some (.long q1)) s₁.heap _
    rw [e0]
    exact ⟨congrArg (fun z => some (Value.long z)) (own_minJ_b hc).symm, N0, rfl⟩
theorem d10_0 : decode jdk_29_method_66_code 0 = .ok (.lload_n 0, 1) := by decide +kernel
theorem d10_1 : decode jdk_29_method_66_code 1 = .ok (.lload_n 2, 1) := by decide +kernel
theorem d10_2 : decode jdk_29_method_66_code 2 = .ok (.lcmp, 1) := by decide +kernel
theorem d10_3 : decode jdk_29_method_66_code 3 = .ok (.ifCond .lt 7, 3) := by decide +kernel
theorem d10_10 : decode jdk_29_method_66_code 10 = .ok (.lload_n 2, 1) := by decide +kernel
theorem d10_11 : decode jdk_29_method_66_code 11 = .ok (.lreturn, 1) := by decide +kernel
theorem d10_6 : decode jdk_29_method_66_code 6 = .ok (.lload_n 0, 1) := by decide +kernel
theorem d10_7 : decode jdk_29_method_66_code 7 = .ok (.goto 4, 3) := by decide +kernel
theorem ef_rm_maxJ (m : MethodId) (x0 : Int64) (x1 : Int64) : entryFrame m #[(.long x0), (.long x1)] 4 = mkF m 0 #[.val (.long x0), .second, .val (.long x1), .second] [] := by first | (simp [entryFrame, mkF, argsToLocals, Value.category]; done) | rfl
def Q_rm_maxJ (Z : State) (q1 : Int64) (q2 : Int64) (h0 : Heap) (n0 : Nat) (v : Option Value) (h : Heap) (L : List Loc) : Prop := v = some (.long (own_maxJ q1 q2)) ∧ Fr n0 L ∧ h = h0
set_option maxRecDepth 65536 in
set_option maxHeartbeats 40000000 in
theorem rm_maxJ (l : Launch) (Z : State) (a0 : Array Value) (hw : ∀ d ∈ tables_1, d.before a0 Z = true) (ws : List Jvm.Cond) (q1 : Int64) (q2 : Int64) (h0 : Heap) (n0 : Nat) (Z0 : n0 ≤ h0.size)  :
    MetFree l (⟨"java/lang/Math", "max", "(JJ)J"⟩ : MethodName) (head1 (Jvm.Cond.code (⟨"java/lang/Math", "max", "(JJ)J"⟩ : MethodName) jdk_29_method_66_code 4 (some .long) :: ws) ({ frames := 0, cells := 0, slots := 0, locals := 0 } : Room)) (fun a U => a = #[(.long q1), (.long q2)] ∧ Z.Warmed39 U.vm ∧ U.heap = h0) (fun _ _ _ _ _ => True) (fun _ U o U' => ∃ v L, o = .returned v ∧ Q_rm_maxJ Z q1 q2 h0 n0 v U'.heap L ∧ FrameEnd U o U' L ({ frames := 0, cells := 0, slots := 0, locals := 0 } : Room).cells ({ frames := 0, cells := 0, slots := 0, locals := 0 } : Room).slots) := by
  refine MetFree.of_bodySF (Jvm.Free.JP.mathPlain rfl (by decide +kernel)) hisR ?_
  intro p e s m args below meth c s₁ Bd hml0 hP hK
  obtain ⟨rfl, hZ, hh⟩ := hP
  have hx := Bd.exec
  have hby := Bd.bytes
  have hml : c.maxLocals = 4 := hml0
  have hown : s.vm.findClass "java/lang/Math" = some m.cls := findClass_of_methodNamed Bd.named
  have hnm := (name_of_methodNamed Bd.named Bd.method).1
  have X0 : Stand p l e ({ frames := 0, cells := 0, slots := 0, locals := 0 } : Room) s m #[(.long q1), (.long q2)] below meth c s₁ [] 0 0 := Stand.of_body Bd
  have e0 : s₁.heap = h0 := by rw [← hh, Bd.state]; rfl
  have N0 := Fr.nil n0
  refine Go.start (Q := Q_rm_maxJ Z q1 q2 h0 n0) (ef_rm_maxJ m q1 q2) ?_
  by_cases hc : (lcmpW q1 q2) < (0 : Int32)
  · have sg1 : ∀ t, Steps p.tables e below (s₁.setTop (mkF m 11 #[.val (.long q1), .second, .val (.long q2), .second] [(.long q2)])) t → Steps p.tables e below (s₁.setTop (mkF m 0 #[.val (.long q1), .second, .val (.long q2), .second] [])) t := by
      intro t kt
      show Steps p.tables e below (s₁.setTop (mkF m 0 #[.val (.long q1), .second, .val (.long q2), .second] [])) _
      refine XS.lloadN X0.here hx rfl (hb hby d10_0) rfl ?_
      show Steps p.tables e below (s₁.setTop (mkF m 1 #[.val (.long q1), .second, .val (.long q2), .second] [(.long q1)])) _
      refine XS.lloadN X0.here hx rfl (hb hby d10_1) rfl ?_
      show Steps p.tables e below (s₁.setTop (mkF m 2 #[.val (.long q1), .second, .val (.long q2), .second] [(.long q2), (.long q1)])) _
      refine XS.lcmp X0.here hx rfl (hb hby d10_2) rfl ?_
      show Steps p.tables e below (s₁.setTop (mkF m 3 #[.val (.long q1), .second, .val (.long q2), .second] [(.int (lcmpW q1 q2))])) _
      refine XS.ifYes X0.here hx rfl (pc0 := 3) (pc' := 10) rfl (hb hby d10_3) rfl ((if0 _ _).trans (tlt (hc : (lcmpW q1 q2) < (0 : Int32))).1) (by decide) (by decide) ?_
      show Steps p.tables e below (s₁.setTop (mkF m 10 #[.val (.long q1), .second, .val (.long q2), .second] [])) _
      refine XS.lloadN X0.here hx rfl (hb hby d10_10) rfl ?_
      exact kt
    refine Go.adv sg1 ?_
    refine Go.ret (v := (some (.long q2))) X0 (fun h => by rw [Bd.returns] at h; cases h) Bd.notSynchronized (fun fs hr => retOut X0 hx Bd.returns rfl (Or.inr (Or.inl ⟨rfl, rfl, _, rfl⟩)) (hb hby d10_11) hr) ?_ (by decide) (by decide)
    show Q_rm_maxJ Z q1 q2 h0 n0 (some (.long q2)) s₁.heap _
    rw [e0]
    exact ⟨congrArg (fun z => some (Value.long z)) (own_maxJ_a hc).symm, N0, rfl⟩
  · have sg2 : ∀ t, Steps p.tables e below (s₁.setTop (mkF m 11 #[.val (.long q1), .second, .val (.long q2), .second] [(.long q1)])) t → Steps p.tables e below (s₁.setTop (mkF m 0 #[.val (.long q1), .second, .val (.long q2), .second] [])) t := by
      intro t kt
      show Steps p.tables e below (s₁.setTop (mkF m 0 #[.val (.long q1), .second, .val (.long q2), .second] [])) _
      refine XS.lloadN X0.here hx rfl (hb hby d10_0) rfl ?_
      show Steps p.tables e below (s₁.setTop (mkF m 1 #[.val (.long q1), .second, .val (.long q2), .second] [(.long q1)])) _
      refine XS.lloadN X0.here hx rfl (hb hby d10_1) rfl ?_
      show Steps p.tables e below (s₁.setTop (mkF m 2 #[.val (.long q1), .second, .val (.long q2), .second] [(.long q2), (.long q1)])) _
      refine XS.lcmp X0.here hx rfl (hb hby d10_2) rfl ?_
      show Steps p.tables e below (s₁.setTop (mkF m 3 #[.val (.long q1), .second, .val (.long q2), .second] [(.int (lcmpW q1 q2))])) _
      refine XS.ifNo X0.here hx rfl (hb hby d10_3) rfl ((if0 _ _).trans (flt (hc : ¬ ((lcmpW q1 q2) < (0 : Int32)))).1) ?_
      show Steps p.tables e below (s₁.setTop (mkF m 6 #[.val (.long q1), .second, .val (.long q2), .second] [])) _
      refine XS.lloadN X0.here hx rfl (hb hby d10_6) rfl ?_
      show Steps p.tables e below (s₁.setTop (mkF m 7 #[.val (.long q1), .second, .val (.long q2), .second] [(.long q1)])) _
      refine XS.goto X0.here hx rfl (pc0 := 7) (pc' := 11) rfl (hb hby d10_7) (by decide) (by decide) ?_
      exact kt
    refine Go.adv sg2 ?_
    refine Go.ret (v := (some (.long q1))) X0 (fun h => by rw [Bd.returns] at h; cases h) Bd.notSynchronized (fun fs hr => retOut X0 hx Bd.returns rfl (Or.inr (Or.inl ⟨rfl, rfl, _, rfl⟩)) (hb hby d10_11) hr) ?_ (by decide) (by decide)
    show Q_rm_maxJ Z q1 q2 h0 n0 (some (.long q1)) s₁.heap _
    rw [e0]
    exact ⟨congrArg (fun z => some (Value.long z)) (own_maxJ_b hc).symm, N0, rfl⟩
theorem pn7 : plainName "com/example/nudged_routes/nudgedroutes/network/Link" = true := by first | (simp [plainName, overriddenIn]; done) | decide +kernel
theorem d7_0 : decode prog_57_method_10_code 0 = .ok (.lconst 1, 1) := by decide +kernel
theorem d7_1 : decode prog_57_method_10_code 1 = .ok (.ldc2_w 60, 3) := by decide +kernel
theorem d7_4 : decode prog_57_method_10_code 4 = .ok (.aload_n 0, 1) := by decide +kernel
theorem d7_5 : decode prog_57_method_10_code 5 = .ok (.getfield 54, 3) := by decide +kernel
theorem d7_8 : decode prog_57_method_10_code 8 = .ok (.invokestatic 62, 3) := by decide +kernel
theorem pd_oDcJ : parseMethodDescriptor "(D)J" = some ⟨[.double], some .long⟩ := by decide +kernel
theorem d7_11 : decode prog_57_method_10_code 11 = .ok (.invokestatic 68, 3) := by decide +kernel
theorem pd_oJJcJ : parseMethodDescriptor "(JJ)J" = some ⟨[.long, .long], some .long⟩ := by decide +kernel
theorem d7_14 : decode prog_57_method_10_code 14 = .ok (.invokestatic 72, 3) := by decide +kernel
theorem d7_17 : decode prog_57_method_10_code 17 = .ok (.l2i, 1) := by decide +kernel
theorem d7_18 : decode prog_57_method_10_code 18 = .ok (.ireturn, 1) := by decide +kernel
theorem ef_rm_whole (m : MethodId) (x0 : Addr) : entryFrame m #[(.ref x0)] 1 = mkF m 0 #[.val (.ref x0)] [] := by first | (simp [entryFrame, mkF, argsToLocals, Value.category]; done) | rfl
def Q_rm_whole (Z : State) (a1 : Addr) (h0 : Heap) (n0 : Nat) (v : Option Value) (h : Heap) (L : List Loc) : Prop := v = some (.int ((own_maxJ (1 : Int64) (own_minJ (2147483647 : Int64) (own_round (4621819117588971520 : UInt64)))).toInt32)) ∧ Fr n0 L ∧ h = h0
set_option maxRecDepth 65536 in
set_option maxHeartbeats 40000000 in
theorem rm_whole (l : Launch) (Z : State) (a0 : Array Value) (hw : ∀ d ∈ tables_1, d.before a0 Z = true) (ws : List Jvm.Cond) (a1 : Addr) (h0 : Heap) (n0 : Nat) (Z0 : n0 ≤ h0.size) (F_freeFlowTimeS_a1 : Fld Z h0 a1 "com/example/nudged_routes/nudgedroutes/network/Link" "freeFlowTimeS" "D" (.double (4621819117588971520 : UInt64))) :
    MetFree l (⟨"com/example/nudged_routes/nudgedroutes/network/Link", "wholeFreeFlowS", "()I"⟩ : MethodName) (head1 (Jvm.Cond.code (⟨"com/example/nudged_routes/nudgedroutes/network/Link", "wholeFreeFlowS", "()I"⟩ : MethodName) prog_57_method_10_code 1 (some .int) :: ws) ({ frames := 2, cells := 0, slots := 0, locals := 40 } : Room)) (fun a U => a = #[(.ref a1)] ∧ Z.Warmed39 U.vm ∧ U.heap = h0) (fun _ _ _ _ _ => True) (fun _ U o U' => ∃ v L, o = .returned v ∧ Q_rm_whole Z a1 h0 n0 v U'.heap L ∧ FrameEnd U o U' L ({ frames := 2, cells := 0, slots := 0, locals := 40 } : Room).cells ({ frames := 2, cells := 0, slots := 0, locals := 40 } : Room).slots) := by
  refine MetFree.of_bodySF (plainFor_of_name pn7) hisR ?_
  intro p e s m args below meth c s₁ Bd hml0 hP hK
  obtain ⟨rfl, hZ, hh⟩ := hP
  have hx := Bd.exec
  have hby := Bd.bytes
  have hml : c.maxLocals = 1 := hml0
  have hown : s.vm.findClass "com/example/nudged_routes/nudgedroutes/network/Link" = some m.cls := findClass_of_methodNamed Bd.named
  have hnm := (name_of_methodNamed Bd.named Bd.method).1
  have X0 : Stand p l e ({ frames := 2, cells := 0, slots := 0, locals := 40 } : Room) s m #[(.ref a1)] below meth c s₁ [] 0 0 := Stand.of_body Bd
  have e0 : s₁.heap = h0 := by rw [← hh, Bd.state]; rfl
  have N0 := Fr.nil n0
  refine Go.start (Q := Q_rm_whole Z a1 h0 n0) (ef_rm_whole m a1) ?_
  have sg1 : ∀ t, Steps p.tables e below (s₁.setTop (mkF m 5 #[.val (.ref a1)] [(.ref a1), (.long (2147483647 : Int64)), (.long (1 : Int64))])) t → Steps p.tables e below (s₁.setTop (mkF m 0 #[.val (.ref a1)] [])) t := by
    intro t kt
    show Steps p.tables e below (s₁.setTop (mkF m 0 #[.val (.ref a1)] [])) _
    refine XS.lconst X0.here hx rfl (hb hby d7_0) ?_
    show Steps p.tables e below (s₁.setTop (mkF m 1 #[.val (.ref a1)] [(.long (1 : Int64))])) _
    refine X0.ldc2Long hx hown (mvT hZ (hw _ (List.mem_of_getElem? (i := 79) rfl))) (g := (mkF m 1 #[.val (.ref a1)] [(.long (1 : Int64))])) rfl (hb hby d7_1) _ ?_
    show Steps p.tables e below (s₁.setTop (mkF m 4 #[.val (.ref a1)] [(.long (2147483647 : Int64)), (.long (1 : Int64))])) _
    refine XS.aloadN X0.here hx rfl (hb hby d7_4) rfl rfl ?_
    exact kt
  refine Go.adv sg1 ?_
  obtain ⟨T2, X2, e2, st2⟩ := getF X0 hx hZ hown (host := "") (Or.inl (hw _ (List.mem_of_getElem? (i := 32) rfl))) Via.refl e0 F_freeFlowTimeS_a1 (g := (mkF m 5 #[.val (.ref a1)] [(.ref a1), (.long (2147483647 : Int64)), (.long (1 : Int64))])) rfl rfl (hb hby d7_5)
  refine Go.adv st2 ?_
  show Go p.tables e below s _ _ _ (T2.setTop (mkF m 8 #[.val (.ref a1)] [(.double (4621819117588971520 : UInt64)), (.long (2147483647 : Int64)), (.long (1 : Int64))]))
  obtain ⟨_, _, ⟨T3, L3, k3, n3⟩, -, X3, ⟨Lc3, hQ3, l3, y3, z3⟩, st3⟩ := Jvm.LawKit.callS X2 hx (y := (⟨"java/lang/Math", "round", "(D)J"⟩ : MethodName)) hown (mvT hZ (hw _ (List.mem_of_getElem? (i := 80) rfl))) (mvT hZ (hw _ (List.mem_of_getElem? (i := 81) rfl))) (mvT hZ (hw _ (List.mem_of_getElem? (i := 82) rfl))) (mvT hZ (hw _ (List.mem_of_getElem? (i := 83) rfl))) (by decide) (backOf (W := 4) (rm_round l Z a0 hw [] (4621819117588971520 : UInt64)  h0 n0 Z0 own_r10) hZ (hw _ (List.mem_of_getElem? (i := 83) rfl)) (hw _ (List.mem_of_getElem? (i := 82) rfl)) (by decide) (by decide)) (g := (mkF m 8 #[.val (.ref a1)] [(.double (4621819117588971520 : UInt64)), (.long (2147483647 : Int64)), (.long (1 : Int64))])) rfl (by rw [hml]; rfl) (argsL := [(.double (4621819117588971520 : UInt64))]) (rest := [(.long (2147483647 : Int64)), (.long (1 : Int64))]) (lenOf pd_oDcJ rfl) rfl (by show 2 * 0 + _ ≤ _; exact Nat.le_of_eq rfl) (hb hby d7_8) (fun _ _ => ⟨rfl, e2, (by decide : 0 + 0 ≤ _), (by decide : 0 + 0 ≤ _)⟩)
  dsimp only [Pt.U, Pt.locs, Pt.cells, Pt.slots] at X3 l3 y3 z3 st3 hQ3
  subst l3 y3 z3
  obtain ⟨rfl, N3q, e3⟩ := hQ3
  have N3 := Fr.app N0 N3q
  refine Go.adv st3 ?_
  show Go p.tables e below s _ _ _ (T3.setTop (mkF m 11 #[.val (.ref a1)] [(.long (own_round (4621819117588971520 : UInt64))), (.long (2147483647 : Int64)), (.long (1 : Int64))]))
  obtain ⟨_, _, ⟨T4, L4, k4, n4⟩, -, X4, ⟨Lc4, hQ4, l4, y4, z4⟩, st4⟩ := Jvm.LawKit.callS X3 hx (y := (⟨"java/lang/Math", "min", "(JJ)J"⟩ : MethodName)) hown (mvT hZ (hw _ (List.mem_of_getElem? (i := 93) rfl))) (mvT hZ (hw _ (List.mem_of_getElem? (i := 94) rfl))) (mvT hZ (hw _ (List.mem_of_getElem? (i := 82) rfl))) (mvT hZ (hw _ (List.mem_of_getElem? (i := 95) rfl))) (by decide) (backOf (W := 2) (rm_minJ l Z a0 hw [] (2147483647 : Int64) (own_round (4621819117588971520 : UInt64))  h0 n0 Z0 ) hZ (hw _ (List.mem_of_getElem? (i := 95) rfl)) (hw _ (List.mem_of_getElem? (i := 82) rfl)) (by decide) (by decide)) (g := (mkF m 11 #[.val (.ref a1)] [(.long (own_round (4621819117588971520 : UInt64))), (.long (2147483647 : Int64)), (.long (1 : Int64))])) rfl (by rw [hml]; rfl) (argsL := [(.long (2147483647 : Int64)), (.long (own_round (4621819117588971520 : UInt64)))]) (rest := [(.long (1 : Int64))]) (lenOf pd_oJJcJ rfl) rfl (by show 2 * 0 + _ ≤ _; exact Nat.le_of_eq rfl) (hb hby d7_11) (fun _ _ => ⟨rfl, e3, (by decide : 0 + 0 ≤ _), (by decide : 0 + 0 ≤ _)⟩)
  dsimp only [Pt.U, Pt.locs, Pt.cells, Pt.slots] at X4 l4 y4 z4 st4 hQ4
  subst l4 y4 z4
  obtain ⟨rfl, N4q, e4⟩ := hQ4
  have N4 := Fr.app N3 N4q
  refine Go.adv st4 ?_
  show Go p.tables e below s _ _ _ (T4.setTop (mkF m 14 #[.val (.ref a1)] [(.long (own_minJ (2147483647 : Int64) (own_round (4621819117588971520 : UInt64)))), (.long (1 : Int64))]))
  obtain ⟨_, _, ⟨T5, L5, k5, n5⟩, -, X5, ⟨Lc5, hQ5, l5, y5, z5⟩, st5⟩ := Jvm.LawKit.callS X4 hx (y := (⟨"java/lang/Math", "max", "(JJ)J"⟩ : MethodName)) hown (mvT hZ (hw _ (List.mem_of_getElem? (i := 96) rfl))) (mvT hZ (hw _ (List.mem_of_getElem? (i := 97) rfl))) (mvT hZ (hw _ (List.mem_of_getElem? (i := 82) rfl))) (mvT hZ (hw _ (List.mem_of_getElem? (i := 98) rfl))) (by decide) (backOf (W := 0) (rm_maxJ l Z a0 hw [] (1 : Int64) (own_minJ (2147483647 : Int64) (own_round (4621819117588971520 : UInt64)))  h0 n0 Z0 ) hZ (hw _ (List.mem_of_getElem? (i := 98) rfl)) (hw _ (List.mem_of_getElem? (i := 82) rfl)) (by decide) (by decide)) (g := (mkF m 14 #[.val (.ref a1)] [(.long (own_minJ (2147483647 : Int64) (own_round (4621819117588971520 : UInt64)))), (.long (1 : Int64))])) rfl (by rw [hml]; rfl) (argsL := [(.long (1 : Int64)), (.long (own_minJ (2147483647 : Int64) (own_round (4621819117588971520 : UInt64))))]) (rest := []) (lenOf pd_oJJcJ rfl) rfl (by show 2 * 0 + _ ≤ _; exact Nat.le_of_eq rfl) (hb hby d7_14) (fun _ _ => ⟨rfl, e4, (by decide : 0 + 0 ≤ _), (by decide : 0 + 0 ≤ _)⟩)
  dsimp only [Pt.U, Pt.locs, Pt.cells, Pt.slots] at X5 l5 y5 z5 st5 hQ5
  subst l5 y5 z5
  obtain ⟨rfl, N5q, e5⟩ := hQ5
  have N5 := Fr.app N4 N5q
  refine Go.adv st5 ?_
  show Go p.tables e below s _ _ _ (T5.setTop (mkF m 17 #[.val (.ref a1)] [(.long (own_maxJ (1 : Int64) (own_minJ (2147483647 : Int64) (own_round (4621819117588971520 : UInt64)))))]))
  have sg6 : ∀ t, Steps p.tables e below (T5.setTop (mkF m 18 #[.val (.ref a1)] [(.int ((own_maxJ (1 : Int64) (own_minJ (2147483647 : Int64) (own_round (4621819117588971520 : UInt64)))).toInt32))])) t → Steps p.tables e below (T5.setTop (mkF m 17 #[.val (.ref a1)] [(.long (own_maxJ (1 : Int64) (own_minJ (2147483647 : Int64) (own_round (4621819117588971520 : UInt64)))))])) t := by
    intro t kt
    show Steps p.tables e below (T5.setTop (mkF m 17 #[.val (.ref a1)] [(.long (own_maxJ (1 : Int64) (own_minJ (2147483647 : Int64) (own_round (4621819117588971520 : UInt64)))))])) _
    refine XS.l2i X5.here hx rfl (hb hby d7_17) rfl ?_
    exact kt
  refine Go.adv sg6 ?_
  refine Go.ret (v := (some (.int ((own_maxJ (1 : Int64) (own_minJ (2147483647 : Int64) (own_round (4621819117588971520 : UInt64)))).toInt32)))) X5 (fun h => by rw [Bd.returns] at h; cases h) Bd.notSynchronized (fun fs hr => retOut X5 hx Bd.returns rfl (Or.inl ⟨rfl, Or.inl rfl, _, rfl⟩) (hb hby d7_18) hr) ?_ (by decide) (by decide)
  show Q_rm_whole Z a1 h0 n0 (some (.int ((own_maxJ (1 : Int64) (own_minJ (2147483647 : Int64) (own_round (4621819117588971520 : UInt64)))).toInt32))) T5.heap _
  rw [e5]
  exact ⟨rfl, N5, rfl⟩
theorem pn20 : plainName "com/example/nudged_routes/nudgedroutes/simulation/LinkQueue" = true := by first | (simp [plainName, overriddenIn]; done) | decide +kernel
theorem d20_0 : decode prog_86_method_4_code 0 = .ok (.ldc2_w 171, 3) := by decide +kernel
theorem d20_3 : decode prog_86_method_4_code 3 = .ok (.dload_n 0, 1) := by decide +kernel
theorem d20_4 : decode prog_86_method_4_code 4 = .ok (.ldc2_w 173, 3) := by decide +kernel
theorem d20_7 : decode prog_86_method_4_code 7 = .ok (.dmul, 1) := by decide +kernel
theorem d20_8 : decode prog_86_method_4_code 8 = .ok (.invokestatic 175, 3) := by decide +kernel
theorem d20_11 : decode prog_86_method_4_code 11 = .ok (.invokestatic 178, 3) := by decide +kernel
theorem d20_14 : decode prog_86_method_4_code 14 = .ok (.lreturn, 1) := by decide +kernel
theorem ef_rm_thou (m : MethodId)  : entryFrame m #[(.double (4655631299166339072 : UInt64))] 2 = mkF m 0 #[.val (.double (4655631299166339072 : UInt64)), .second] [] := by first | (simp [entryFrame, mkF, argsToLocals, Value.category]; done) | rfl
def Q_rm_thou (Z : State)  (h0 : Heap) (n0 : Nat) (v : Option Value) (h : Heap) (L : List Loc) : Prop := v = some (.long (own_minJ (2305843009213693951 : Int64) (own_round (FP.dmul (4655631299166339072 : UInt64) (4652007308841189376 : UInt64))))) ∧ Fr n0 L ∧ h = h0
set_option maxRecDepth 65536 in
set_option maxHeartbeats 40000000 in
theorem rm_thou (l : Launch) (Z : State) (a0 : Array Value) (hw : ∀ d ∈ tables_1, d.before a0 Z = true) (ws : List Jvm.Cond)  (h0 : Heap) (n0 : Nat) (Z0 : n0 ≤ h0.size)  :
    MetFree l (⟨"com/example/nudged_routes/nudgedroutes/simulation/LinkQueue", "thousandthsPerSecond", "(D)J"⟩ : MethodName) (head1 (Jvm.Cond.code (⟨"com/example/nudged_routes/nudgedroutes/simulation/LinkQueue", "thousandthsPerSecond", "(D)J"⟩ : MethodName) prog_86_method_4_code 2 (some .long) :: ws) ({ frames := 2, cells := 0, slots := 0, locals := 38 } : Room)) (fun a U => a = #[(.double (4655631299166339072 : UInt64))] ∧ Z.Warmed39 U.vm ∧ U.heap = h0) (fun _ _ _ _ _ => True) (fun _ U o U' => ∃ v L, o = .returned v ∧ Q_rm_thou Z  h0 n0 v U'.heap L ∧ FrameEnd U o U' L ({ frames := 2, cells := 0, slots := 0, locals := 38 } : Room).cells ({ frames := 2, cells := 0, slots := 0, locals := 38 } : Room).slots) := by
  refine MetFree.of_bodySF (plainFor_of_name pn20) hisR ?_
  intro p e s m args below meth c s₁ Bd hml0 hP hK
  obtain ⟨rfl, hZ, hh⟩ := hP
  have hx := Bd.exec
  have hby := Bd.bytes
  have hml : c.maxLocals = 2 := hml0
  have hown : s.vm.findClass "com/example/nudged_routes/nudgedroutes/simulation/LinkQueue" = some m.cls := findClass_of_methodNamed Bd.named
  have hnm := (name_of_methodNamed Bd.named Bd.method).1
  have X0 : Stand p l e ({ frames := 2, cells := 0, slots := 0, locals := 38 } : Room) s m #[(.double (4655631299166339072 : UInt64))] below meth c s₁ [] 0 0 := Stand.of_body Bd
  have e0 : s₁.heap = h0 := by rw [← hh, Bd.state]; rfl
  have N0 := Fr.nil n0
  refine Go.start (Q := Q_rm_thou Z  h0 n0) (ef_rm_thou m ) ?_
  have sg1 : ∀ t, Steps p.tables e below (s₁.setTop (mkF m 8 #[.val (.double (4655631299166339072 : UInt64)), .second] [(.double (FP.dmul (4655631299166339072 : UInt64) (4652007308841189376 : UInt64))), (.long (2305843009213693951 : Int64))])) t → Steps p.tables e below (s₁.setTop (mkF m 0 #[.val (.double (4655631299166339072 : UInt64)), .second] [])) t := by
    intro t kt
    show Steps p.tables e below (s₁.setTop (mkF m 0 #[.val (.double (4655631299166339072 : UInt64)), .second] [])) _
    refine X0.ldc2Long hx hown (mvT hZ (hw _ (List.mem_of_getElem? (i := 151) rfl))) (g := (mkF m 0 #[.val (.double (4655631299166339072 : UInt64)), .second] [])) rfl (hb hby d20_0) _ ?_
    show Steps p.tables e below (s₁.setTop (mkF m 3 #[.val (.double (4655631299166339072 : UInt64)), .second] [(.long (2305843009213693951 : Int64))])) _
    refine own_dloadN X0.here hx rfl (hb hby d20_3) rfl ?_
    show Steps p.tables e below (s₁.setTop (mkF m 4 #[.val (.double (4655631299166339072 : UInt64)), .second] [(.double (4655631299166339072 : UInt64)), (.long (2305843009213693951 : Int64))])) _
    refine X0.ldc2DoubleC hx hown (mvT hZ (hw _ (List.mem_of_getElem? (i := 152) rfl))) (g := (mkF m 4 #[.val (.double (4655631299166339072 : UInt64)), .second] [(.double (4655631299166339072 : UInt64)), (.long (2305843009213693951 : Int64))])) rfl (hb hby d20_4) _ ?_
    show Steps p.tables e below (s₁.setTop (mkF m 7 #[.val (.double (4655631299166339072 : UInt64)), .second] [(.double (4652007308841189376 : UInt64)), (.double (4655631299166339072 : UInt64)), (.long (2305843009213693951 : Int64))])) _
    refine own_dmul X0.here hx rfl (hb hby d20_7) rfl own_n18 ?_
    exact kt
  refine Go.adv sg1 ?_
  obtain ⟨_, _, ⟨T2, L2, k2, n2⟩, -, X2, ⟨Lc2, hQ2, l2, y2, z2⟩, st2⟩ := Jvm.LawKit.callS X0 hx (y := (⟨"java/lang/Math", "round", "(D)J"⟩ : MethodName)) hown (mvT hZ (hw _ (List.mem_of_getElem? (i := 153) rfl))) (mvT hZ (hw _ (List.mem_of_getElem? (i := 81) rfl))) (mvT hZ (hw _ (List.mem_of_getElem? (i := 82) rfl))) (mvT hZ (hw _ (List.mem_of_getElem? (i := 83) rfl))) (by decide) (backOf (W := 2) (rm_round l Z a0 hw [] (FP.dmul (4655631299166339072 : UInt64) (4652007308841189376 : UInt64))  h0 n0 Z0 own_r18) hZ (hw _ (List.mem_of_getElem? (i := 83) rfl)) (hw _ (List.mem_of_getElem? (i := 82) rfl)) (by decide) (by decide)) (g := (mkF m 8 #[.val (.double (4655631299166339072 : UInt64)), .second] [(.double (FP.dmul (4655631299166339072 : UInt64) (4652007308841189376 : UInt64))), (.long (2305843009213693951 : Int64))])) rfl (by rw [hml]; rfl) (argsL := [(.double (FP.dmul (4655631299166339072 : UInt64) (4652007308841189376 : UInt64)))]) (rest := [(.long (2305843009213693951 : Int64))]) (lenOf pd_oDcJ rfl) rfl (by show 2 * 0 + _ ≤ _; exact Nat.le_of_eq rfl) (hb hby d20_8) (fun _ _ => ⟨rfl, e0, (by decide : 0 + 0 ≤ _), (by decide : 0 + 0 ≤ _)⟩)
  dsimp only [Pt.U, Pt.locs, Pt.cells, Pt.slots] at X2 l2 y2 z2 st2 hQ2
  subst l2 y2 z2
  obtain ⟨rfl, N2q, e2⟩ := hQ2
  have N2 := Fr.app N0 N2q
  refine Go.adv st2 ?_
  show Go p.tables e below s _ _ _ (T2.setTop (mkF m 11 #[.val (.double (4655631299166339072 : UInt64)), .second] [(.long (own_round (FP.dmul (4655631299166339072 : UInt64) (4652007308841189376 : UInt64)))), (.long (2305843009213693951 : Int64))]))
  obtain ⟨_, _, ⟨T3, L3, k3, n3⟩, -, X3, ⟨Lc3, hQ3, l3, y3, z3⟩, st3⟩ := Jvm.LawKit.callS X2 hx (y := (⟨"java/lang/Math", "min", "(JJ)J"⟩ : MethodName)) hown (mvT hZ (hw _ (List.mem_of_getElem? (i := 154) rfl))) (mvT hZ (hw _ (List.mem_of_getElem? (i := 94) rfl))) (mvT hZ (hw _ (List.mem_of_getElem? (i := 82) rfl))) (mvT hZ (hw _ (List.mem_of_getElem? (i := 95) rfl))) (by decide) (backOf (W := 0) (rm_minJ l Z a0 hw [] (2305843009213693951 : Int64) (own_round (FP.dmul (4655631299166339072 : UInt64) (4652007308841189376 : UInt64)))  h0 n0 Z0 ) hZ (hw _ (List.mem_of_getElem? (i := 95) rfl)) (hw _ (List.mem_of_getElem? (i := 82) rfl)) (by decide) (by decide)) (g := (mkF m 11 #[.val (.double (4655631299166339072 : UInt64)), .second] [(.long (own_round (FP.dmul (4655631299166339072 : UInt64) (4652007308841189376 : UInt64)))), (.long (2305843009213693951 : Int64))])) rfl (by rw [hml]; rfl) (argsL := [(.long (2305843009213693951 : Int64)), (.long (own_round (FP.dmul (4655631299166339072 : UInt64) (4652007308841189376 : UInt64))))]) (rest := []) (lenOf pd_oJJcJ rfl) rfl (by show 2 * 0 + _ ≤ _; exact Nat.le_of_eq rfl) (hb hby d20_11) (fun _ _ => ⟨rfl, e2, (by decide : 0 + 0 ≤ _), (by decide : 0 + 0 ≤ _)⟩)
  dsimp only [Pt.U, Pt.locs, Pt.cells, Pt.slots] at X3 l3 y3 z3 st3 hQ3
  subst l3 y3 z3
  obtain ⟨rfl, N3q, e3⟩ := hQ3
  have N3 := Fr.app N2 N3q
  refine Go.adv st3 ?_
  show Go p.tables e below s _ _ _ (T3.setTop (mkF m 14 #[.val (.double (4655631299166339072 : UInt64)), .second] [(.long (own_minJ (2305843009213693951 : Int64) (own_round (FP.dmul (4655631299166339072 : UInt64) (4652007308841189376 : UInt64)))))]))
  refine Go.ret (v := (some (.long (own_minJ (2305843009213693951 : Int64) (own_round (FP.dmul (4655631299166339072 : UInt64) (4652007308841189376 : UInt64))))))) X3 (fun h => by rw [Bd.returns] at h; cases h) Bd.notSynchronized (fun fs hr => retOut X3 hx Bd.returns rfl (Or.inr (Or.inl ⟨rfl, rfl, _, rfl⟩)) (hb hby d20_14) hr) ?_ (by decide) (by decide)
  show Q_rm_thou Z  h0 n0 (some (.long (own_minJ (2305843009213693951 : Int64) (own_round (FP.dmul (4655631299166339072 : UInt64) (4652007308841189376 : UInt64)))))) T3.heap _
  rw [e3]
  exact ⟨rfl, N3, rfl⟩
theorem pn6 : plainName "java/util/AbstractCollection" = true := by first | (simp [plainName, overriddenIn]; done) | decide +kernel
theorem d6_0 : decode jdk_22_method_1_code 0 = .ok (.aload_n 0, 1) := by decide +kernel
theorem d6_1 : decode jdk_22_method_1_code 1 = .ok (.invokespecial 1, 3) := by decide +kernel
theorem d6_4 : decode jdk_22_method_1_code 4 = .ok (.return_, 1) := by decide +kernel
theorem ef_rm_ac (m : MethodId) (x0 : Addr) : entryFrame m #[(.ref x0)] 1 = mkF m 0 #[.val (.ref x0)] [] := by first | (simp [entryFrame, mkF, argsToLocals, Value.category]; done) | rfl
def Q_rm_ac (Z : State) (a1 : Addr) (h0 : Heap) (n0 : Nat) (v : Option Value) (h : Heap) (L : List Loc) : Prop := v = none ∧ Fr n0 L ∧ h = h0
set_option maxRecDepth 65536 in
set_option maxHeartbeats 40000000 in
theorem rm_ac (l : Launch) (Z : State) (a0 : Array Value) (hw : ∀ d ∈ tables_1, d.before a0 Z = true) (ws : List Jvm.Cond) (a1 : Addr) (h0 : Heap) (n0 : Nat) (Z0 : n0 ≤ h0.size)  :
    MetFree l (⟨"java/util/AbstractCollection", "<init>", "()V"⟩ : MethodName) (head1 (Jvm.Cond.code (⟨"java/util/AbstractCollection", "<init>", "()V"⟩ : MethodName) jdk_22_method_1_code 1 none :: ws) ({ frames := 1, cells := 0, slots := 0, locals := 12 } : Room)) (fun a U => a = #[(.ref a1)] ∧ Z.Warmed39 U.vm ∧ U.heap = h0) (fun _ _ _ _ _ => True) (fun _ U o U' => ∃ v L, o = .returned v ∧ Q_rm_ac Z a1 h0 n0 v U'.heap L ∧ FrameEnd U o U' L ({ frames := 1, cells := 0, slots := 0, locals := 12 } : Room).cells ({ frames := 1, cells := 0, slots := 0, locals := 12 } : Room).slots) := by
  refine MetFree.of_bodySF (plainFor_of_name pn6) hisR ?_
  intro p e s m args below meth c s₁ Bd hml0 hP hK
  obtain ⟨rfl, hZ, hh⟩ := hP
  have hx := Bd.exec
  have hby := Bd.bytes
  have hml : c.maxLocals = 1 := hml0
  have hown : s.vm.findClass "java/util/AbstractCollection" = some m.cls := findClass_of_methodNamed Bd.named
  have hnm := (name_of_methodNamed Bd.named Bd.method).1
  have X0 : Stand p l e ({ frames := 1, cells := 0, slots := 0, locals := 12 } : Room) s m #[(.ref a1)] below meth c s₁ [] 0 0 := Stand.of_body Bd
  have e0 : s₁.heap = h0 := by rw [← hh, Bd.state]; rfl
  have N0 := Fr.nil n0
  refine Go.start (Q := Q_rm_ac Z a1 h0 n0) (ef_rm_ac m a1) ?_
  have sg1 : ∀ t, Steps p.tables e below (s₁.setTop (mkF m 1 #[.val (.ref a1)] [(.ref a1)])) t → Steps p.tables e below (s₁.setTop (mkF m 0 #[.val (.ref a1)] [])) t := by
    intro t kt
    show Steps p.tables e below (s₁.setTop (mkF m 0 #[.val (.ref a1)] [])) _
    refine XS.aloadN X0.here hx rfl (hb hby d6_0) rfl rfl ?_
    exact kt
  refine Go.adv sg1 ?_
  obtain ⟨T2, X2, e2, st2⟩ := initO X0 hx hZ hown (hw _ (List.mem_of_getElem? (i := 61) rfl)) (hw _ (List.mem_of_getElem? (i := 18) rfl)) (hw _ (List.mem_of_getElem? (i := 19) rfl)) e0 (g := (mkF m 1 #[.val (.ref a1)] [(.ref a1)])) rfl (by rw [hml]; rfl) rfl (hb hby d6_1) (by decide) (W := 0) (by show 2 * 0 + _ ≤ _; exact Nat.le_of_eq rfl) (by decide)
  refine Go.adv st2 ?_
  show Go p.tables e below s _ _ _ (T2.setTop (mkF m 4 #[.val (.ref a1)] []))
  refine Go.ret (v := none) X2 (fun _ => rfl) Bd.notSynchronized (fun fs hr => X2.returnOut hx Bd.returns (hb hby d6_4) hr) ?_ (by decide) (by decide)
  show Q_rm_ac Z a1 h0 n0 none T2.heap _
  rw [e2]
  exact ⟨rfl, N0, rfl⟩
theorem pn5 : plainName "java/util/AbstractList" = true := by first | (simp [plainName, overriddenIn]; done) | decide +kernel
theorem d5_0 : decode jdk_39_method_1_code 0 = .ok (.aload_n 0, 1) := by decide +kernel
theorem d5_1 : decode jdk_39_method_1_code 1 = .ok (.invokespecial 1, 3) := by decide +kernel
theorem pd_ocV : parseMethodDescriptor "()V" = some ⟨[], none⟩ := by decide +kernel
theorem d5_4 : decode jdk_39_method_1_code 4 = .ok (.aload_n 0, 1) := by decide +kernel
theorem d5_5 : decode jdk_39_method_1_code 5 = .ok (.iconst 0, 1) := by decide +kernel
theorem d5_6 : decode jdk_39_method_1_code 6 = .ok (.putfield 7, 3) := by decide +kernel
theorem d5_9 : decode jdk_39_method_1_code 9 = .ok (.return_, 1) := by decide +kernel
theorem ef_rm_ab (m : MethodId) (x0 : Addr) : entryFrame m #[(.ref x0)] 1 = mkF m 0 #[.val (.ref x0)] [] := by first | (simp [entryFrame, mkF, argsToLocals, Value.category]; done) | rfl
def Q_rm_ab (Z : State) (a1 : Addr) (u_modCount : Value) (u_elementData : Value) (h0 : Heap) (n0 : Nat) (v : Option Value) (h : Heap) (L : List Loc) : Prop := v = none ∧ Fr n0 L ∧ Keep h0 h [a1] ∧ Exa Z h a1 "java/util/ArrayList" ∧ Fld Z h a1 "java/util/ArrayList" "elementData" "[Ljava/lang/Object;" u_elementData
set_option maxRecDepth 65536 in
set_option maxHeartbeats 40000000 in
theorem rm_ab (l : Launch) (Z : State) (a0 : Array Value) (hw : ∀ d ∈ tables_1, d.before a0 Z = true) (ws : List Jvm.Cond) (a1 : Addr) (u_modCount : Value) (u_elementData : Value) (h0 : Heap) (n0 : Nat) (Z0 : n0 ≤ h0.size) (E_a1 : Exa Z h0 a1 "java/util/ArrayList") (g_a1 : n0 ≤ a1) (F_modCount_a1 : Fld Z h0 a1 "java/util/AbstractList" "modCount" "I" u_modCount) (F_elementData_a1 : Fld Z h0 a1 "java/util/ArrayList" "elementData" "[Ljava/lang/Object;" u_elementData) :
    MetFree l (⟨"java/util/AbstractList", "<init>", "()V"⟩ : MethodName) (head1 (Jvm.Cond.code (⟨"java/util/AbstractList", "<init>", "()V"⟩ : MethodName) jdk_39_method_1_code 1 none :: ws) ({ frames := 2, cells := 0, slots := 0, locals := 24 } : Room)) (fun a U => a = #[(.ref a1)] ∧ Z.Warmed39 U.vm ∧ U.heap = h0) (fun _ _ _ _ _ => True) (fun _ U o U' => ∃ v L, o = .returned v ∧ Q_rm_ab Z a1 u_modCount u_elementData h0 n0 v U'.heap L ∧ FrameEnd U o U' L ({ frames := 2, cells := 0, slots := 0, locals := 24 } : Room).cells ({ frames := 2, cells := 0, slots := 0, locals := 24 } : Room).slots) := by
  refine MetFree.of_bodySF (plainFor_of_name pn5) hisR ?_
  intro p e s m args below meth c s₁ Bd hml0 hP hK
  obtain ⟨rfl, hZ, hh⟩ := hP
  have hx := Bd.exec
  have hby := Bd.bytes
  have hml : c.maxLocals = 1 := hml0
  have hown : s.vm.findClass "java/util/AbstractList" = some m.cls := findClass_of_methodNamed Bd.named
  have hnm := (name_of_methodNamed Bd.named Bd.method).1
  have X0 : Stand p l e ({ frames := 2, cells := 0, slots := 0, locals := 24 } : Room) s m #[(.ref a1)] below meth c s₁ [] 0 0 := Stand.of_body Bd
  have e0 : s₁.heap = h0 := by rw [← hh, Bd.state]; rfl
  have N0 := Fr.nil n0
  refine Go.start (Q := Q_rm_ab Z a1 u_modCount u_elementData h0 n0) (ef_rm_ab m a1) ?_
  have sg1 : ∀ t, Steps p.tables e below (s₁.setTop (mkF m 1 #[.val (.ref a1)] [(.ref a1)])) t → Steps p.tables e below (s₁.setTop (mkF m 0 #[.val (.ref a1)] [])) t := by
    intro t kt
    show Steps p.tables e below (s₁.setTop (mkF m 0 #[.val (.ref a1)] [])) _
    refine XS.aloadN X0.here hx rfl (hb hby d5_0) rfl rfl ?_
    exact kt
  refine Go.adv sg1 ?_
  obtain ⟨_, _, ⟨T2, L2, k2, n2⟩, -, X2, ⟨Lc2, hQ2, l2, y2, z2⟩, st2⟩ := X0.specialBack hx (y := (⟨"java/util/AbstractCollection", "<init>", "()V"⟩ : MethodName)) rfl hown (mvT hZ (hw _ (List.mem_of_getElem? (i := 55) rfl))) (mvT hZ (hw _ (List.mem_of_getElem? (i := 56) rfl))) (mvT hZ (hw _ (List.mem_of_getElem? (i := 60) rfl))) (by decide) (backOf (W := 0) (rm_ac l Z a0 hw [] a1  h0 n0 Z0 ) hZ (hw _ (List.mem_of_getElem? (i := 60) rfl)) (hw _ (List.mem_of_getElem? (i := 59) rfl)) (by decide) (by decide)) (g := (mkF m 1 #[.val (.ref a1)] [(.ref a1)])) rfl (by rw [hml]; rfl) (Steps.refl _) (a := a1) (argsL := []) (rest := []) (lenOf pd_ocV rfl) rfl (by show 2 * 0 + _ ≤ _; exact Nat.le_of_eq rfl) (hb hby d5_1) (fun _ _ => ⟨rfl, e0, (by decide : 0 + 0 ≤ _), (by decide : 0 + 0 ≤ _)⟩)
  dsimp only [Pt.U, Pt.locs, Pt.cells, Pt.slots] at X2 l2 y2 z2 st2 hQ2
  subst l2 y2 z2
  obtain ⟨rfl, N2q, e2⟩ := hQ2
  have N2 := Fr.app N0 N2q
  refine Go.tr st2 ?_
  show Go p.tables e below s _ _ _ (T2.setTop (mkF m 4 #[.val (.ref a1)] []))
  have sg3 : ∀ t, Steps p.tables e below (T2.setTop (mkF m 6 #[.val (.ref a1)] [(.int (0 : Int32)), (.ref a1)])) t → Steps p.tables e below (T2.setTop (mkF m 4 #[.val (.ref a1)] [])) t := by
    intro t kt
    show Steps p.tables e below (T2.setTop (mkF m 4 #[.val (.ref a1)] [])) _
    refine XS.aloadN X2.here hx rfl (hb hby d5_4) rfl rfl ?_
    show Steps p.tables e below (T2.setTop (mkF m 5 #[.val (.ref a1)] [(.ref a1)])) _
    refine XS.iconst X2.here hx rfl (hb hby d5_5) ?_
    exact kt
  refine Go.adv sg3 ?_
  obtain ⟨T4, h4, X4, e4, W4, st4⟩ := putF X2 hx hZ hown (host := "") (Or.inl (hw _ (List.mem_of_getElem? (i := 62) rfl))) Via.refl e2 F_modCount_a1 E_a1 (Or.inl (hw _ (List.mem_of_getElem? (i := 63) rfl))) (hw _ (List.mem_of_getElem? (i := 44) rfl)) (ty := .int) (by decide) rfl rfl (g := (mkF m 6 #[.val (.ref a1)] [(.int (0 : Int32)), (.ref a1)])) rfl rfl (hb hby d5_6)
  have Fw4 := F_modCount_a1.same W4
  have K4 : Keep h0 h4 [a1] := (Keep.refl h0 [a1]).wr W4 (Or.inl (List.mem_of_getElem? (i := 0) rfl))
  have Z4 : n0 ≤ h4.size := Nat.le_trans Z0 (Keep.of_wr W4).1
  have N4 := Fr.snoc X4 N2 g_a1
  refine Go.adv st4 ?_
  show Go p.tables e below s _ _ _ (T4.setTop (mkF m 9 #[.val (.ref a1)] []))
  refine Go.ret (v := none) X4 (fun _ => rfl) Bd.notSynchronized (fun fs hr => X4.returnOut hx Bd.returns (hb hby d5_9) hr) ?_ (by decide) (by decide)
  show Q_rm_ab Z a1 u_modCount u_elementData h0 n0 none T4.heap _
  rw [e4]
  have f5 := (E_a1.wr W4)
  have f6 := (F_elementData_a1.other W4 (Or.inr (slot_ne (Or.inl (hw _ (List.mem_of_getElem? (i := 66) rfl))) (Or.inl (hw _ (List.mem_of_getElem? (i := 63) rfl))) (by decide) (t := (.array (.object "java/lang/Object"))) (t' := .int) (by decide) (by decide))))
  exact ⟨rfl, N4, K4, f5, f6⟩
theorem pn4 : plainName "java/util/ArrayList" = true := by first | (simp [plainName, overriddenIn]; done) | decide +kernel
theorem d4_0 : decode jdk_38_method_2_code 0 = .ok (.aload_n 0, 1) := by decide +kernel
theorem d4_1 : decode jdk_38_method_2_code 1 = .ok (.invokespecial 1, 3) := by decide +kernel
theorem d4_4 : decode jdk_38_method_2_code 4 = .ok (.aload_n 0, 1) := by decide +kernel
theorem d4_5 : decode jdk_38_method_2_code 5 = .ok (.getstatic 39, 3) := by decide +kernel
theorem d4_8 : decode jdk_38_method_2_code 8 = .ok (.putfield 9, 3) := by decide +kernel
theorem d4_11 : decode jdk_38_method_2_code 11 = .ok (.return_, 1) := by decide +kernel
theorem ef_rm_al (m : MethodId) (x0 : Addr) : entryFrame m #[(.ref x0)] 1 = mkF m 0 #[.val (.ref x0)] [] := by first | (simp [entryFrame, mkF, argsToLocals, Value.category]; done) | rfl
def Q_rm_al (Z : State) (a1 : Addr) (u_modCount : Value) (u_elementData : Value) (ed : Addr) (h0 : Heap) (n0 : Nat) (v : Option Value) (h : Heap) (L : List Loc) : Prop := v = none ∧ Fr n0 L ∧ Keep h0 h [a1] ∧ Exa Z h a1 "java/util/ArrayList"
set_option maxRecDepth 65536 in
set_option maxHeartbeats 40000000 in
theorem rm_al (l : Launch) (Z : State) (a0 : Array Value) (hw : ∀ d ∈ tables_1, d.before a0 Z = true) (ws : List Jvm.Cond) (a1 : Addr) (u_modCount : Value) (u_elementData : Value) (ed : Addr) (h0 : Heap) (n0 : Nat) (Z0 : n0 ≤ h0.size) (S_DEFAULTCAPACITY_EMPTY_ELEMENTDATA : Sta Z h0 "java/util/ArrayList" "DEFAULTCAPACITY_EMPTY_ELEMENTDATA" "[Ljava/lang/Object;" (.ref ed)) (E_a1 : Exa Z h0 a1 "java/util/ArrayList") (g_a1 : n0 ≤ a1) (F_modCount_a1 : Fld Z h0 a1 "java/util/AbstractList" "modCount" "I" u_modCount) (F_elementData_a1 : Fld Z h0 a1 "java/util/ArrayList" "elementData" "[Ljava/lang/Object;" u_elementData) :
    MetFree l (⟨"java/util/ArrayList", "<init>", "()V"⟩ : MethodName) (head1 (Jvm.Cond.code (⟨"java/util/ArrayList", "<init>", "()V"⟩ : MethodName) jdk_38_method_2_code 1 none :: ws) ({ frames := 3, cells := 0, slots := 0, locals := 36 } : Room)) (fun a U => a = #[(.ref a1)] ∧ Z.Warmed39 U.vm ∧ U.heap = h0) (fun _ _ _ _ _ => True) (fun _ U o U' => ∃ v L, o = .returned v ∧ Q_rm_al Z a1 u_modCount u_elementData ed h0 n0 v U'.heap L ∧ FrameEnd U o U' L ({ frames := 3, cells := 0, slots := 0, locals := 36 } : Room).cells ({ frames := 3, cells := 0, slots := 0, locals := 36 } : Room).slots) := by
  refine MetFree.of_bodySF (plainFor_of_name pn4) hisR ?_
  intro p e s m args below meth c s₁ Bd hml0 hP hK
  obtain ⟨rfl, hZ, hh⟩ := hP
  have hx := Bd.exec
  have hby := Bd.bytes
  have hml : c.maxLocals = 1 := hml0
  have hown : s.vm.findClass "java/util/ArrayList" = some m.cls := findClass_of_methodNamed Bd.named
  have hnm := (name_of_methodNamed Bd.named Bd.method).1
  have X0 : Stand p l e ({ frames := 3, cells := 0, slots := 0, locals := 36 } : Room) s m #[(.ref a1)] below meth c s₁ [] 0 0 := Stand.of_body Bd
  have e0 : s₁.heap = h0 := by rw [← hh, Bd.state]; rfl
  have N0 := Fr.nil n0
  refine Go.start (Q := Q_rm_al Z a1 u_modCount u_elementData ed h0 n0) (ef_rm_al m a1) ?_
  have sg1 : ∀ t, Steps p.tables e below (s₁.setTop (mkF m 1 #[.val (.ref a1)] [(.ref a1)])) t → Steps p.tables e below (s₁.setTop (mkF m 0 #[.val (.ref a1)] [])) t := by
    intro t kt
    show Steps p.tables e below (s₁.setTop (mkF m 0 #[.val (.ref a1)] [])) _
    refine XS.aloadN X0.here hx rfl (hb hby d4_0) rfl rfl ?_
    exact kt
  refine Go.adv sg1 ?_
  obtain ⟨_, _, ⟨T2, L2, k2, n2⟩, -, X2, ⟨Lc2, hQ2, l2, y2, z2⟩, st2⟩ := X0.specialBack hx (y := (⟨"java/util/AbstractList", "<init>", "()V"⟩ : MethodName)) rfl hown (mvT hZ (hw _ (List.mem_of_getElem? (i := 49) rfl))) (mvT hZ (hw _ (List.mem_of_getElem? (i := 50) rfl))) (mvT hZ (hw _ (List.mem_of_getElem? (i := 54) rfl))) (by decide) (backOf (W := 0) (rm_ab l Z a0 hw [] a1 u_modCount u_elementData h0 n0 Z0 E_a1 g_a1 F_modCount_a1 F_elementData_a1) hZ (hw _ (List.mem_of_getElem? (i := 54) rfl)) (hw _ (List.mem_of_getElem? (i := 53) rfl)) (by decide) (by decide)) (g := (mkF m 1 #[.val (.ref a1)] [(.ref a1)])) rfl (by rw [hml]; rfl) (Steps.refl _) (a := a1) (argsL := []) (rest := []) (lenOf pd_ocV rfl) rfl (by show 2 * 0 + _ ≤ _; exact Nat.le_of_eq rfl) (hb hby d4_1) (fun _ _ => ⟨rfl, e0, (by decide : 0 + 0 ≤ _), (by decide : 0 + 0 ≤ _)⟩)
  dsimp only [Pt.U, Pt.locs, Pt.cells, Pt.slots] at X2 l2 y2 z2 st2 hQ2
  subst l2 y2 z2
  obtain ⟨rfl, N2q, Kc2, p2_0, p2_1⟩ := hQ2
  have N2 := Fr.app N0 N2q
  have s2_DEFAULTCAPACITY_EMPTY_ELEMENTDATA := own_staKeep S_DEFAULTCAPACITY_EMPTY_ELEMENTDATA Kc2 E_a1
  have K2 : Keep h0 T2.heap [a1] := (Keep.refl h0 [a1]).trans Kc2 (allS (Or.inl (List.mem_of_getElem? (i := 0) rfl)) all0)
  have Z2 : n0 ≤ T2.heap.size := Nat.le_trans Z0 Kc2.1
  refine Go.tr st2 ?_
  show Go p.tables e below s _ _ _ (T2.setTop (mkF m 4 #[.val (.ref a1)] []))
  have sg3 : ∀ t, Steps p.tables e below (T2.setTop (mkF m 5 #[.val (.ref a1)] [(.ref a1)])) t → Steps p.tables e below (T2.setTop (mkF m 4 #[.val (.ref a1)] [])) t := by
    intro t kt
    show Steps p.tables e below (T2.setTop (mkF m 4 #[.val (.ref a1)] [])) _
    refine XS.aloadN X2.here hx rfl (hb hby d4_4) rfl rfl ?_
    exact kt
  refine Go.adv sg3 ?_
  obtain ⟨T4, X4, e4, st4⟩ := getS2 X2 hx hZ hown (host := "") (Or.inl (hw _ (List.mem_of_getElem? (i := 64) rfl))) Via.refl rfl s2_DEFAULTCAPACITY_EMPTY_ELEMENTDATA (g := (mkF m 5 #[.val (.ref a1)] [(.ref a1)])) rfl (hb hby d4_5)
  refine Go.adv st4 ?_
  show Go p.tables e below s _ _ _ (T4.setTop (mkF m 8 #[.val (.ref a1)] [(.ref ed), (.ref a1)]))
  obtain ⟨T5, h5, X5, e5, W5, st5⟩ := putF X4 hx hZ hown (host := "") (Or.inl (hw _ (List.mem_of_getElem? (i := 65) rfl))) Via.refl e4 p2_1 p2_0 (Or.inl (hw _ (List.mem_of_getElem? (i := 66) rfl))) (hw _ (List.mem_of_getElem? (i := 44) rfl)) (ty := (.array (.object "java/lang/Object"))) (by decide) rfl rfl (g := (mkF m 8 #[.val (.ref a1)] [(.ref ed), (.ref a1)])) rfl rfl (hb hby d4_8)
  have Fw5 := p2_1.same W5
  have K5 : Keep h0 h5 [a1] := K2.wr W5 (Or.inl (List.mem_of_getElem? (i := 0) rfl))
  have Z5 : n0 ≤ h5.size := Nat.le_trans Z2 (Keep.of_wr W5).1
  have N5 := Fr.snoc X5 N2 g_a1
  refine Go.adv st5 ?_
  show Go p.tables e below s _ _ _ (T5.setTop (mkF m 11 #[.val (.ref a1)] []))
  refine Go.ret (v := none) X5 (fun _ => rfl) Bd.notSynchronized (fun fs hr => X5.returnOut hx Bd.returns (hb hby d4_11) hr) ?_ (by decide) (by decide)
  show Q_rm_al Z a1 u_modCount u_elementData ed h0 n0 none T5.heap _
  rw [e5]
  have f6 := (p2_0.wr W5)
  exact ⟨rfl, N5, K5, f6⟩
theorem pn21 : plainName "java/util/ArrayDeque" = true := by first | (simp [plainName, overriddenIn]; done) | decide +kernel
theorem d21_0 : decode jdk_21_method_3_code 0 = .ok (.aload_n 0, 1) := by decide +kernel
theorem d21_1 : decode jdk_21_method_3_code 1 = .ok (.invokespecial 42, 3) := by decide +kernel
theorem d21_4 : decode jdk_21_method_3_code 4 = .ok (.aload_n 0, 1) := by decide +kernel
theorem d21_5 : decode jdk_21_method_3_code 5 = .ok (.bipush 17, 2) := by decide +kernel
theorem d21_7 : decode jdk_21_method_3_code 7 = .ok (.anewarray 47, 3) := by decide +kernel
theorem d21_10 : decode jdk_21_method_3_code 10 = .ok (.putfield 3, 3) := by decide +kernel
theorem d21_13 : decode jdk_21_method_3_code 13 = .ok (.return_, 1) := by decide +kernel
theorem ef_rm_ad (m : MethodId) (x0 : Addr) : entryFrame m #[(.ref x0)] 1 = mkF m 0 #[.val (.ref x0)] [] := by first | (simp [entryFrame, mkF, argsToLocals, Value.category]; done) | rfl
def Q_rm_ad (Z : State) (a1 : Addr) (u_elements : Value) (h0 : Heap) (n0 : Nat) (v : Option Value) (h : Heap) (L : List Loc) : Prop := v = none ∧ Fr n0 L ∧ Keep h0 h [a1] ∧ Exa Z h a1 "java/util/ArrayDeque"
set_option maxRecDepth 65536 in
set_option maxHeartbeats 40000000 in
theorem rm_ad (l : Launch) (Z : State) (a0 : Array Value) (hw : ∀ d ∈ tables_1, d.before a0 Z = true) (ws : List Jvm.Cond) (a1 : Addr) (u_elements : Value) (h0 : Heap) (n0 : Nat) (Z0 : n0 ≤ h0.size) (E_a1 : Exa Z h0 a1 "java/util/ArrayDeque") (g_a1 : n0 ≤ a1) (F_elements_a1 : Fld Z h0 a1 "java/util/ArrayDeque" "elements" "[Ljava/lang/Object;" u_elements) :
    MetFree l (⟨"java/util/ArrayDeque", "<init>", "()V"⟩ : MethodName) (head1 (Jvm.Cond.code (⟨"java/util/ArrayDeque", "<init>", "()V"⟩ : MethodName) jdk_21_method_3_code 1 none :: ws) ({ frames := 2, cells := 1, slots := 17, locals := 24 } : Room)) (fun a U => a = #[(.ref a1)] ∧ Z.Warmed39 U.vm ∧ U.heap = h0) (fun _ _ _ _ _ => True) (fun _ U o U' => ∃ v L, o = .returned v ∧ Q_rm_ad Z a1 u_elements h0 n0 v U'.heap L ∧ FrameEnd U o U' L ({ frames := 2, cells := 1, slots := 17, locals := 24 } : Room).cells ({ frames := 2, cells := 1, slots := 17, locals := 24 } : Room).slots) := by
  refine MetFree.of_bodySF (plainFor_of_name pn21) hisR ?_
  intro p e s m args below meth c s₁ Bd hml0 hP hK
  obtain ⟨rfl, hZ, hh⟩ := hP
  have hx := Bd.exec
  have hby := Bd.bytes
  have hml : c.maxLocals = 1 := hml0
  have hown : s.vm.findClass "java/util/ArrayDeque" = some m.cls := findClass_of_methodNamed Bd.named
  have hnm := (name_of_methodNamed Bd.named Bd.method).1
  have X0 : Stand p l e ({ frames := 2, cells := 1, slots := 17, locals := 24 } : Room) s m #[(.ref a1)] below meth c s₁ [] 0 0 := Stand.of_body Bd
  have e0 : s₁.heap = h0 := by rw [← hh, Bd.state]; rfl
  have N0 := Fr.nil n0
  refine Go.start (Q := Q_rm_ad Z a1 u_elements h0 n0) (ef_rm_ad m a1) ?_
  have sg1 : ∀ t, Steps p.tables e below (s₁.setTop (mkF m 1 #[.val (.ref a1)] [(.ref a1)])) t → Steps p.tables e below (s₁.setTop (mkF m 0 #[.val (.ref a1)] [])) t := by
    intro t kt
    show Steps p.tables e below (s₁.setTop (mkF m 0 #[.val (.ref a1)] [])) _
    refine XS.aloadN X0.here hx rfl (hb hby d21_0) rfl rfl ?_
    exact kt
  refine Go.adv sg1 ?_
  obtain ⟨_, _, ⟨T2, L2, k2, n2⟩, -, X2, ⟨Lc2, hQ2, l2, y2, z2⟩, st2⟩ := X0.specialBack hx (y := (⟨"java/util/AbstractCollection", "<init>", "()V"⟩ : MethodName)) rfl hown (mvT hZ (hw _ (List.mem_of_getElem? (i := 164) rfl))) (mvT hZ (hw _ (List.mem_of_getElem? (i := 56) rfl))) (mvT hZ (hw _ (List.mem_of_getElem? (i := 60) rfl))) (by decide) (backOf (W := 0) (rm_ac l Z a0 hw [] a1  h0 n0 Z0 ) hZ (hw _ (List.mem_of_getElem? (i := 60) rfl)) (hw _ (List.mem_of_getElem? (i := 59) rfl)) (by decide) (by decide)) (g := (mkF m 1 #[.val (.ref a1)] [(.ref a1)])) rfl (by rw [hml]; rfl) (Steps.refl _) (a := a1) (argsL := []) (rest := []) (lenOf pd_ocV rfl) rfl (by show 2 * 0 + _ ≤ _; exact Nat.le_of_eq rfl) (hb hby d21_1) (fun _ _ => ⟨rfl, e0, (by decide : 0 + 0 ≤ _), (by decide : 0 + 0 ≤ _)⟩)
  dsimp only [Pt.U, Pt.locs, Pt.cells, Pt.slots] at X2 l2 y2 z2 st2 hQ2
  subst l2 y2 z2
  obtain ⟨rfl, N2q, e2⟩ := hQ2
  have N2 := Fr.app N0 N2q
  refine Go.tr st2 ?_
  show Go p.tables e below s _ _ _ (T2.setTop (mkF m 4 #[.val (.ref a1)] []))
  have sg3 : ∀ t, Steps p.tables e below (T2.setTop (mkF m 7 #[.val (.ref a1)] [(.int (17 : Int32)), (.ref a1)])) t → Steps p.tables e below (T2.setTop (mkF m 4 #[.val (.ref a1)] [])) t := by
    intro t kt
    show Steps p.tables e below (T2.setTop (mkF m 4 #[.val (.ref a1)] [])) _
    refine XS.aloadN X2.here hx rfl (hb hby d21_4) rfl rfl ?_
    show Steps p.tables e below (T2.setTop (mkF m 5 #[.val (.ref a1)] [(.ref a1)])) _
    refine XS.bipush X2.here hx rfl (hb hby d21_5) ?_
    exact kt
  refine Go.adv sg3 ?_
  obtain ⟨T4, h4, k4, X4, e4, E4, A4, -, st4⟩ := newR X2 hx hZ hown (hw _ (List.mem_of_getElem? (i := 166) rfl)) (hw _ (List.mem_of_getElem? (i := 167) rfl)) e2 (g := (mkF m 7 #[.val (.ref a1)] [(.int (17 : Int32)), (.ref a1)])) rfl (hb hby d21_7) rfl (by decide) (cap := 17) (by decide) (by decide) (by decide) (by decide)
  obtain ⟨b4, gb4⟩ : ∃ z, z = h0.size := ⟨_, rfl⟩
  rw [← gb4] at A4 st4
  have g_b4 : n0 ≤ b4 := Nat.le_trans Z0 (Nat.le_of_eq gb4.symm)
  have sz_b4 : h0.size ≤ b4 := Nat.le_trans (Keep.refl h0 [a1]).1 (Nat.le_of_eq gb4.symm)
  have ne_a1_b4 : a1 ≠ b4 := Nat.ne_of_lt (Nat.lt_of_lt_of_le E_a1.lt (Nat.le_of_eq gb4.symm))
  have K4 : Keep h0 h4 [a1] := (Keep.refl h0 [a1]).ext E4
  have Z4 : n0 ≤ h4.size := Nat.le_trans Z0 E4.1
  refine Go.adv st4 ?_
  show Go p.tables e below s _ _ _ (T4.setTop (mkF m 10 #[.val (.ref a1)] [(.ref b4), (.ref a1)]))
  have f5 := (F_elements_a1.ext E4)
  have f6 := (E_a1.ext E4)
  obtain ⟨T7, h7, X7, e7, W7, st7⟩ := putF X4 hx hZ hown (host := "") (Or.inl (hw _ (List.mem_of_getElem? (i := 168) rfl))) Via.refl e4 f5 f6 (Or.inl (hw _ (List.mem_of_getElem? (i := 169) rfl))) (hw _ (List.mem_of_getElem? (i := 159) rfl)) (ty := (.array (.object "java/lang/Object"))) (by decide) rfl rfl (g := (mkF m 10 #[.val (.ref a1)] [(.ref b4), (.ref a1)])) rfl rfl (hb hby d21_10)
  have Fw7 := f5.same W7
  have K7 : Keep h0 h7 [a1] := K4.wr W7 (Or.inl (List.mem_of_getElem? (i := 0) rfl))
  have Z7 : n0 ≤ h7.size := Nat.le_trans Z4 (Keep.of_wr W7).1
  have N7 := Fr.snoc X7 N2 g_a1
  refine Go.adv st7 ?_
  show Go p.tables e below s _ _ _ (T7.setTop (mkF m 13 #[.val (.ref a1)] []))
  refine Go.ret (v := none) X7 (fun _ => rfl) Bd.notSynchronized (fun fs hr => X7.returnOut hx Bd.returns (hb hby d21_13) hr) ?_ (by decide) (by decide)
  show Q_rm_ad Z a1 u_elements h0 n0 none T7.heap _
  rw [e7]
  have f8 := (f6.wr W7)
  exact ⟨rfl, N7, K7, f8⟩
theorem pn23 : plainName "java/util/Collections" = true := by first | (simp [plainName, overriddenIn]; done) | decide +kernel
theorem d23_0 : decode jdk_79_method_61_code 0 = .ok (.getstatic 343, 3) := by decide +kernel
theorem d23_3 : decode jdk_79_method_61_code 3 = .ok (.areturn, 1) := by decide +kernel
theorem ef_rm_ei (m : MethodId)  : entryFrame m #[] 0 = mkF m 0 #[] [] := by first | (simp [entryFrame, mkF, argsToLocals, Value.category]; done) | rfl
def Q_rm_ei (Z : State) (ei : Addr) (h0 : Heap) (n0 : Nat) (v : Option Value) (h : Heap) (L : List Loc) : Prop := v = some (.ref ei) ∧ Fr n0 L ∧ h = h0
set_option maxRecDepth 65536 in
set_option maxHeartbeats 40000000 in
theorem rm_ei (l : Launch) (Z : State) (a0 : Array Value) (hw : ∀ d ∈ tables_1, d.before a0 Z = true) (ws : List Jvm.Cond) (ei : Addr) (h0 : Heap) (n0 : Nat) (Z0 : n0 ≤ h0.size) (S_EMPTY_ITERATOR : Sta Z h0 "java/util/Collections$EmptyIterator" "EMPTY_ITERATOR" "Ljava/util/Collections$EmptyIterator;" (.ref ei)) :
    MetFree l (⟨"java/util/Collections", "emptyIterator", "()Ljava/util/Iterator;"⟩ : MethodName) (head1 (Jvm.Cond.code (⟨"java/util/Collections", "emptyIterator", "()Ljava/util/Iterator;"⟩ : MethodName) jdk_79_method_61_code 0 (some (.object "java/util/Iterator")) :: ws) ({ frames := 0, cells := 0, slots := 0, locals := 0 } : Room)) (fun a U => a = #[] ∧ Z.Warmed39 U.vm ∧ U.heap = h0) (fun _ _ _ _ _ => True) (fun _ U o U' => ∃ v L, o = .returned v ∧ Q_rm_ei Z ei h0 n0 v U'.heap L ∧ FrameEnd U o U' L ({ frames := 0, cells := 0, slots := 0, locals := 0 } : Room).cells ({ frames := 0, cells := 0, slots := 0, locals := 0 } : Room).slots) := by
  refine MetFree.of_bodySF (plainFor_of_name pn23) hisR ?_
  intro p e s m args below meth c s₁ Bd hml0 hP hK
  obtain ⟨rfl, hZ, hh⟩ := hP
  have hx := Bd.exec
  have hby := Bd.bytes
  have hml : c.maxLocals = 0 := hml0
  have hown : s.vm.findClass "java/util/Collections" = some m.cls := findClass_of_methodNamed Bd.named
  have hnm := (name_of_methodNamed Bd.named Bd.method).1
  have X0 : Stand p l e ({ frames := 0, cells := 0, slots := 0, locals := 0 } : Room) s m #[] below meth c s₁ [] 0 0 := Stand.of_body Bd
  have e0 : s₁.heap = h0 := by rw [← hh, Bd.state]; rfl
  have N0 := Fr.nil n0
  refine Go.start (Q := Q_rm_ei Z ei h0 n0) (ef_rm_ei m ) ?_
  obtain ⟨T1, X1, e1, st1⟩ := getS2 X0 hx hZ hown (host := "") (Or.inl (hw _ (List.mem_of_getElem? (i := 189) rfl))) Via.refl e0 S_EMPTY_ITERATOR (g := (mkF m 0 #[] [])) rfl (hb hby d23_0)
  refine Go.adv st1 ?_
  show Go p.tables e below s _ _ _ (T1.setTop (mkF m 3 #[] [(.ref ei)]))
  refine Go.ret (v := (some (.ref ei))) X1 (fun h => by rw [Bd.returns] at h; cases h) Bd.notSynchronized (fun fs hr => retOut X1 hx Bd.returns rfl (Or.inr (Or.inr (Or.inr (Or.inr ⟨rfl, rfl, rfl⟩)))) (hb hby d23_3) hr) ?_ (by decide) (by decide)
  show Q_rm_ei Z ei h0 n0 (some (.ref ei)) T1.heap _
  rw [e1]
  exact ⟨rfl, N0, rfl⟩
theorem pn22 : plainName "com/example/nudged_routes/nudgedroutes/simulation/LinkQueue$OriginLine" = true := by first | (simp [plainName, overriddenIn]; done) | decide +kernel
theorem d22_0 : decode prog_88_method_1_code 0 = .ok (.aload_n 0, 1) := by decide +kernel
theorem d22_1 : decode prog_88_method_1_code 1 = .ok (.invokespecial 1, 3) := by decide +kernel
theorem d22_4 : decode prog_88_method_1_code 4 = .ok (.aload_n 0, 1) := by decide +kernel
theorem d22_5 : decode prog_88_method_1_code 5 = .ok (.new 7, 3) := by decide +kernel
theorem d22_8 : decode prog_88_method_1_code 8 = .ok (.dup, 1) := by decide +kernel
theorem d22_9 : decode prog_88_method_1_code 9 = .ok (.invokespecial 9, 3) := by decide +kernel
theorem d22_12 : decode prog_88_method_1_code 12 = .ok (.putfield 10, 3) := by decide +kernel
theorem d22_15 : decode prog_88_method_1_code 15 = .ok (.aload_n 0, 1) := by decide +kernel
theorem d22_16 : decode prog_88_method_1_code 16 = .ok (.invokestatic 16, 3) := by decide +kernel
theorem pd_ocLjavasutilsIteratore : parseMethodDescriptor "()Ljava/util/Iterator;" = some ⟨[], some (.object "java/util/Iterator")⟩ := by decide +kernel
theorem d22_19 : decode prog_88_method_1_code 19 = .ok (.putfield 22, 3) := by decide +kernel
theorem d22_22 : decode prog_88_method_1_code 22 = .ok (.return_, 1) := by decide +kernel
theorem ef_rm_ol (m : MethodId) (x0 : Addr) : entryFrame m #[(.ref x0)] 1 = mkF m 0 #[.val (.ref x0)] [] := by first | (simp [entryFrame, mkF, argsToLocals, Value.category]; done) | rfl
def Q_rm_ol (Z : State) (a1 : Addr) (u_joined : Value) (u_inherited : Value) (ei : Addr) (h0 : Heap) (n0 : Nat) (v : Option Value) (h : Heap) (L : List Loc) : Prop := v = none ∧ Fr n0 L ∧ Keep h0 h [a1] ∧ Exa Z h a1 "com/example/nudged_routes/nudgedroutes/simulation/LinkQueue$OriginLine"
set_option maxRecDepth 65536 in
set_option maxHeartbeats 40000000 in
theorem rm_ol (l : Launch) (Z : State) (a0 : Array Value) (hw : ∀ d ∈ tables_1, d.before a0 Z = true) (ws : List Jvm.Cond) (a1 : Addr) (u_joined : Value) (u_inherited : Value) (ei : Addr) (h0 : Heap) (n0 : Nat) (Z0 : n0 ≤ h0.size) (S_EMPTY_ITERATOR : Sta Z h0 "java/util/Collections$EmptyIterator" "EMPTY_ITERATOR" "Ljava/util/Collections$EmptyIterator;" (.ref ei)) (E_a1 : Exa Z h0 a1 "com/example/nudged_routes/nudgedroutes/simulation/LinkQueue$OriginLine") (g_a1 : n0 ≤ a1) (F_joined_a1 : Fld Z h0 a1 "com/example/nudged_routes/nudgedroutes/simulation/LinkQueue$OriginLine" "joined" "Ljava/util/ArrayDeque;" u_joined) (F_inherited_a1 : Fld Z h0 a1 "com/example/nudged_routes/nudgedroutes/simulation/LinkQueue$OriginLine" "inherited" "Ljava/util/Iterator;" u_inherited) :
    MetFree l (⟨"com/example/nudged_routes/nudgedroutes/simulation/LinkQueue$OriginLine", "<init>", "()V"⟩ : MethodName) (head1 (Jvm.Cond.code (⟨"com/example/nudged_routes/nudgedroutes/simulation/LinkQueue$OriginLine", "<init>", "()V"⟩ : MethodName) prog_88_method_1_code 1 none :: ws) ({ frames := 3, cells := 2, slots := 20, locals := 38 } : Room)) (fun a U => a = #[(.ref a1)] ∧ Z.Warmed39 U.vm ∧ U.heap = h0) (fun _ _ _ _ _ => True) (fun _ U o U' => ∃ v L, o = .returned v ∧ Q_rm_ol Z a1 u_joined u_inherited ei h0 n0 v U'.heap L ∧ FrameEnd U o U' L ({ frames := 3, cells := 2, slots := 20, locals := 38 } : Room).cells ({ frames := 3, cells := 2, slots := 20, locals := 38 } : Room).slots) := by
  refine MetFree.of_bodySF (plainFor_of_name pn22) hisR ?_
  intro p e s m args below meth c s₁ Bd hml0 hP hK
  obtain ⟨rfl, hZ, hh⟩ := hP
  have hx := Bd.exec
  have hby := Bd.bytes
  have hml : c.maxLocals = 1 := hml0
  have hown : s.vm.findClass "com/example/nudged_routes/nudgedroutes/simulation/LinkQueue$OriginLine" = some m.cls := findClass_of_methodNamed Bd.named
  have hnm := (name_of_methodNamed Bd.named Bd.method).1
  have X0 : Stand p l e ({ frames := 3, cells := 2, slots := 20, locals := 38 } : Room) s m #[(.ref a1)] below meth c s₁ [] 0 0 := Stand.of_body Bd
  have e0 : s₁.heap = h0 := by rw [← hh, Bd.state]; rfl
  have N0 := Fr.nil n0
  refine Go.start (Q := Q_rm_ol Z a1 u_joined u_inherited ei h0 n0) (ef_rm_ol m a1) ?_
  have sg1 : ∀ t, Steps p.tables e below (s₁.setTop (mkF m 1 #[.val (.ref a1)] [(.ref a1)])) t → Steps p.tables e below (s₁.setTop (mkF m 0 #[.val (.ref a1)] [])) t := by
    intro t kt
    show Steps p.tables e below (s₁.setTop (mkF m 0 #[.val (.ref a1)] [])) _
    refine XS.aloadN X0.here hx rfl (hb hby d22_0) rfl rfl ?_
    exact kt
  refine Go.adv sg1 ?_
  obtain ⟨T2, X2, e2, st2⟩ := initO X0 hx hZ hown (hw _ (List.mem_of_getElem? (i := 180) rfl)) (hw _ (List.mem_of_getElem? (i := 18) rfl)) (hw _ (List.mem_of_getElem? (i := 19) rfl)) e0 (g := (mkF m 1 #[.val (.ref a1)] [(.ref a1)])) rfl (by rw [hml]; rfl) rfl (hb hby d22_1) (by decide) (W := 0) (by show 2 * 0 + _ ≤ _; exact Nat.le_of_eq rfl) (by decide)
  refine Go.adv st2 ?_
  show Go p.tables e below s _ _ _ (T2.setTop (mkF m 4 #[.val (.ref a1)] []))
  have sg3 : ∀ t, Steps p.tables e below (T2.setTop (mkF m 5 #[.val (.ref a1)] [(.ref a1)])) t → Steps p.tables e below (T2.setTop (mkF m 4 #[.val (.ref a1)] [])) t := by
    intro t kt
    show Steps p.tables e below (T2.setTop (mkF m 4 #[.val (.ref a1)] [])) _
    refine XS.aloadN X2.here hx rfl (hb hby d22_4) rfl rfl ?_
    exact kt
  refine Go.adv sg3 ?_
  obtain ⟨T4, h4, X4, e4, E4, A4, D4, -, st4⟩ := newO X2 hx hZ hown (hw _ (List.mem_of_getElem? (i := 181) rfl)) (hw _ (List.mem_of_getElem? (i := 159) rfl)) (hw _ (List.mem_of_getElem? (i := 160) rfl)) e2 (g := (mkF m 5 #[.val (.ref a1)] [(.ref a1)])) rfl (hb hby d22_5) (by decide) (by decide)
  obtain ⟨b4, gb4⟩ : ∃ z, z = h0.size := ⟨_, rfl⟩
  rw [← gb4] at A4 D4 st4
  have g_b4 : n0 ≤ b4 := Nat.le_trans Z0 (Nat.le_of_eq gb4.symm)
  have sz_b4 : h0.size ≤ b4 := Nat.le_trans (Keep.refl h0 [a1]).1 (Nat.le_of_eq gb4.symm)
  have ne_a1_b4 : a1 ≠ b4 := Nat.ne_of_lt (Nat.lt_of_lt_of_le E_a1.lt (Nat.le_of_eq gb4.symm))
  have K4 : Keep h0 h4 [a1] := (Keep.refl h0 [a1]).ext E4
  have Z4 : n0 ≤ h4.size := Nat.le_trans Z0 E4.1
  have F_elements_b4 : Fld Z h4 b4 "java/util/ArrayDeque" "elements" "[Ljava/lang/Object;" .null := D4 (Or.inl (hw _ (List.mem_of_getElem? (i := 169) rfl))) (ty := (.array (.object "java/lang/Object"))) (by decide)
  refine Go.adv st4 ?_
  show Go p.tables e below s _ _ _ (T4.setTop (mkF m 8 #[.val (.ref a1)] [(.ref b4), (.ref a1)]))
  have sg5 : ∀ t, Steps p.tables e below (T4.setTop (mkF m 9 #[.val (.ref a1)] [(.ref b4), (.ref b4), (.ref a1)])) t → Steps p.tables e below (T4.setTop (mkF m 8 #[.val (.ref a1)] [(.ref b4), (.ref a1)])) t := by
    intro t kt
    show Steps p.tables e below (T4.setTop (mkF m 8 #[.val (.ref a1)] [(.ref b4), (.ref a1)])) _
    refine XS.dup X4.here hx rfl (hb hby d22_8) rfl rfl ?_
    exact kt
  refine Go.adv sg5 ?_
  have f6 := (S_EMPTY_ITERATOR.ext E4)
  obtain ⟨_, _, ⟨T7, L7, k7, n7⟩, -, X7, ⟨Lc7, hQ7, l7, y7, z7⟩, st7⟩ := X4.specialBack hx (y := (⟨"java/util/ArrayDeque", "<init>", "()V"⟩ : MethodName)) rfl hown (mvT hZ (hw _ (List.mem_of_getElem? (i := 182) rfl))) (mvT hZ (hw _ (List.mem_of_getElem? (i := 162) rfl))) (mvT hZ (hw _ (List.mem_of_getElem? (i := 163) rfl))) (by decide) (backOf (W := 2) (rm_ad l Z a0 hw [] b4 (.null) h4 n0 Z4 A4 g_b4 F_elements_b4) hZ (hw _ (List.mem_of_getElem? (i := 163) rfl)) (hw _ (List.mem_of_getElem? (i := 160) rfl)) (by decide) (by decide)) (g := (mkF m 9 #[.val (.ref a1)] [(.ref b4), (.ref b4), (.ref a1)])) rfl (by rw [hml]; rfl) (Steps.refl _) (a := b4) (argsL := []) (rest := [(.ref b4), (.ref a1)]) (lenOf pd_ocV rfl) rfl (by show 2 * 0 + _ ≤ _; exact Nat.le_of_eq rfl) (hb hby d22_9) (fun _ _ => ⟨rfl, e4, (by decide : 1 + 1 ≤ _), (by decide : 3 + 17 ≤ _)⟩)
  dsimp only [Pt.U, Pt.locs, Pt.cells, Pt.slots] at X7 l7 y7 z7 st7 hQ7
  subst l7 y7 z7
  obtain ⟨rfl, N7q, Kc7, p7_0⟩ := hQ7
  have N7 := Fr.app N0 N7q
  have s7_EMPTY_ITERATOR := own_staKeep f6 Kc7 A4
  have K7 : Keep h0 T7.heap [a1] := K4.trans Kc7 (allS (Or.inr sz_b4) all0)
  have Z7 : n0 ≤ T7.heap.size := Nat.le_trans Z4 Kc7.1
  refine Go.tr st7 ?_
  show Go p.tables e below s _ _ _ (T7.setTop (mkF m 12 #[.val (.ref a1)] [(.ref b4), (.ref a1)]))
  have f8 := ((F_joined_a1.ext E4).keep Kc7 (ninS ne_a1_b4 nin0))
  have f9 := ((E_a1.ext E4).keep Kc7)
  obtain ⟨T10, h10, X10, e10, W10, st10⟩ := putF X7 hx hZ hown (host := "") (Or.inl (hw _ (List.mem_of_getElem? (i := 183) rfl))) Via.refl rfl f8 f9 (Or.inr ⟨(hw _ (List.mem_of_getElem? (i := 184) rfl)), rfl, hnm⟩) (hw _ (List.mem_of_getElem? (i := 175) rfl)) (ty := (.object "java/util/ArrayDeque")) (by decide) rfl rfl (g := (mkF m 12 #[.val (.ref a1)] [(.ref b4), (.ref a1)])) rfl rfl (hb hby d22_12)
  have Fw10 := f8.same W10
  have K10 : Keep h0 h10 [a1] := K7.wr W10 (Or.inl (List.mem_of_getElem? (i := 0) rfl))
  have Z10 : n0 ≤ h10.size := Nat.le_trans Z7 (Keep.of_wr W10).1
  have N10 := Fr.snoc X10 N7 g_a1
  refine Go.adv st10 ?_
  show Go p.tables e below s _ _ _ (T10.setTop (mkF m 15 #[.val (.ref a1)] []))
  have sg11 : ∀ t, Steps p.tables e below (T10.setTop (mkF m 16 #[.val (.ref a1)] [(.ref a1)])) t → Steps p.tables e below (T10.setTop (mkF m 15 #[.val (.ref a1)] [])) t := by
    intro t kt
    show Steps p.tables e below (T10.setTop (mkF m 15 #[.val (.ref a1)] [])) _
    refine XS.aloadN X10.here hx rfl (hb hby d22_15) rfl rfl ?_
    exact kt
  refine Go.adv sg11 ?_
  have f12 := (s7_EMPTY_ITERATOR.wr W10)
  obtain ⟨_, _, ⟨T13, L13, k13, n13⟩, -, X13, ⟨Lc13, hQ13, l13, y13, z13⟩, st13⟩ := Jvm.LawKit.callS X10 hx (y := (⟨"java/util/Collections", "emptyIterator", "()Ljava/util/Iterator;"⟩ : MethodName)) hown (mvT hZ (hw _ (List.mem_of_getElem? (i := 185) rfl))) (mvT hZ (hw _ (List.mem_of_getElem? (i := 186) rfl))) (mvT hZ (hw _ (List.mem_of_getElem? (i := 187) rfl))) (mvT hZ (hw _ (List.mem_of_getElem? (i := 188) rfl))) (by decide) (backOf (W := 1) (rm_ei l Z a0 hw []  ei h10 n0 Z10 f12) hZ (hw _ (List.mem_of_getElem? (i := 188) rfl)) (hw _ (List.mem_of_getElem? (i := 187) rfl)) (by decide) (by decide)) (g := (mkF m 16 #[.val (.ref a1)] [(.ref a1)])) rfl (by rw [hml]; rfl) (argsL := []) (rest := [(.ref a1)]) (lenOf pd_ocLjavasutilsIteratore rfl) rfl (by show 2 * 0 + _ ≤ _; exact Nat.le_of_eq rfl) (hb hby d22_16) (fun _ _ => ⟨rfl, e10, (by decide : 2 + 0 ≤ _), (by decide : 20 + 0 ≤ _)⟩)
  dsimp only [Pt.U, Pt.locs, Pt.cells, Pt.slots] at X13 l13 y13 z13 st13 hQ13
  subst l13 y13 z13
  obtain ⟨rfl, N13q, e13⟩ := hQ13
  have N13 := Fr.app N10 N13q
  refine Go.adv st13 ?_
  show Go p.tables e below s _ _ _ (T13.setTop (mkF m 19 #[.val (.ref a1)] [(.ref ei), (.ref a1)]))
  have f14 := (((F_inherited_a1.ext E4).keep Kc7 (ninS ne_a1_b4 nin0)).other W10 (Or.inr (slot_ne (Or.inr (hw _ (List.mem_of_getElem? (i := 192) rfl))) (Or.inr (hw _ (List.mem_of_getElem? (i := 184) rfl))) (by decide) (t := (.object "java/util/Iterator")) (t' := (.object "java/util/ArrayDeque")) (by decide) (by decide))))
  have f15 := (f9.wr W10)
  obtain ⟨T16, h16, X16, e16, W16, st16⟩ := putF X13 hx hZ hown (host := "") (Or.inl (hw _ (List.mem_of_getElem? (i := 191) rfl))) Via.refl e13 f14 f15 (Or.inr ⟨(hw _ (List.mem_of_getElem? (i := 192) rfl)), rfl, hnm⟩) (hw _ (List.mem_of_getElem? (i := 175) rfl)) (ty := (.object "java/util/Iterator")) (by decide) rfl rfl (g := (mkF m 19 #[.val (.ref a1)] [(.ref ei), (.ref a1)])) rfl rfl (hb hby d22_19)
  have Fw16 := f14.same W16
  have K16 : Keep h0 h16 [a1] := K10.wr W16 (Or.inl (List.mem_of_getElem? (i := 0) rfl))
  have Z16 : n0 ≤ h16.size := Nat.le_trans Z10 (Keep.of_wr W16).1
  have N16 := Fr.snoc X16 N13 g_a1
  refine Go.adv st16 ?_
  show Go p.tables e below s _ _ _ (T16.setTop (mkF m 22 #[.val (.ref a1)] []))
  refine Go.ret (v := none) X16 (fun _ => rfl) Bd.notSynchronized (fun fs hr => X16.returnOut hx Bd.returns (hb hby d22_22) hr) ?_ (by decide) (by decide)
  show Q_rm_ol Z a1 u_joined u_inherited ei h0 n0 none T16.heap _
  rw [e16]
  have f17 := (f15.wr W16)
  exact ⟨rfl, N16, K16, f17⟩
theorem pn3 : plainName "com/example/nudged_routes/nudgedroutes/simulation/LinkQueue" = true := by first | (simp [plainName, overriddenIn]; done) | decide +kernel
theorem d3_0 : decode prog_86_method_1_code 0 = .ok (.aload_n 0, 1) := by decide +kernel
theorem d3_1 : decode prog_86_method_1_code 1 = .ok (.invokespecial 3, 3) := by decide +kernel
theorem d3_4 : decode prog_86_method_1_code 4 = .ok (.aload_n 0, 1) := by decide +kernel
theorem d3_5 : decode prog_86_method_1_code 5 = .ok (.new 9, 3) := by decide +kernel
theorem d3_8 : decode prog_86_method_1_code 8 = .ok (.dup, 1) := by decide +kernel
theorem d3_9 : decode prog_86_method_1_code 9 = .ok (.invokespecial 11, 3) := by decide +kernel
theorem d3_12 : decode prog_86_method_1_code 12 = .ok (.putfield 12, 3) := by decide +kernel
theorem d3_15 : decode prog_86_method_1_code 15 = .ok (.aload_n 0, 1) := by decide +kernel
theorem d3_16 : decode prog_86_method_1_code 16 = .ok (.ldc2_w 18, 3) := by decide +kernel
theorem d3_19 : decode prog_86_method_1_code 19 = .ok (.putfield 20, 3) := by decide +kernel
theorem d3_22 : decode prog_86_method_1_code 22 = .ok (.aload_n 0, 1) := by decide +kernel
theorem d3_23 : decode prog_86_method_1_code 23 = .ok (.aload_n 1, 1) := by decide +kernel
theorem d3_24 : decode prog_86_method_1_code 24 = .ok (.putfield 24, 3) := by decide +kernel
theorem d3_27 : decode prog_86_method_1_code 27 = .ok (.aload_n 0, 1) := by decide +kernel
theorem d3_28 : decode prog_86_method_1_code 28 = .ok (.aload_n 1, 1) := by decide +kernel
theorem d3_29 : decode prog_86_method_1_code 29 = .ok (.invokevirtual 28, 3) := by decide +kernel
theorem pd_ocI : parseMethodDescriptor "()I" = some ⟨[], some .int⟩ := by decide +kernel
theorem d3_32 : decode prog_86_method_1_code 32 = .ok (.putfield 34, 3) := by decide +kernel
theorem d3_35 : decode prog_86_method_1_code 35 = .ok (.aload_n 0, 1) := by decide +kernel
theorem d3_36 : decode prog_86_method_1_code 36 = .ok (.dconst 1, 1) := by decide +kernel
theorem d3_37 : decode prog_86_method_1_code 37 = .ok (.ldc2_w 40, 3) := by decide +kernel
theorem d3_40 : decode prog_86_method_1_code 40 = .ok (.aload_n 1, 1) := by decide +kernel
theorem d3_41 : decode prog_86_method_1_code 41 = .ok (.invokevirtual 42, 3) := by decide +kernel
theorem pd_ocD : parseMethodDescriptor "()D" = some ⟨[], some .double⟩ := by decide +kernel
theorem d3_44 : decode prog_86_method_1_code 44 = .ok (.aload_n 1, 1) := by decide +kernel
theorem d3_45 : decode prog_86_method_1_code 45 = .ok (.invokevirtual 46, 3) := by decide +kernel
theorem d3_48 : decode prog_86_method_1_code 48 = .ok (.i2d, 1) := by decide +kernel
theorem d3_49 : decode prog_86_method_1_code 49 = .ok (.dmul, 1) := by decide +kernel
theorem d3_50 : decode prog_86_method_1_code 50 = .ok (.ldc2_w 49, 3) := by decide +kernel
theorem d3_53 : decode prog_86_method_1_code 53 = .ok (.ddiv, 1) := by decide +kernel
theorem d3_54 : decode prog_86_method_1_code 54 = .ok (.invokestatic 51, 3) := by decide +kernel
theorem d3_57 : decode prog_86_method_1_code 57 = .ok (.invokestatic 57, 3) := by decide +kernel
theorem pd_oDDcD : parseMethodDescriptor "(DD)D" = some ⟨[.double, .double], some .double⟩ := by decide +kernel
theorem d3_60 : decode prog_86_method_1_code 60 = .ok (.invokestatic 61, 3) := by decide +kernel
theorem d3_63 : decode prog_86_method_1_code 63 = .ok (.d2i, 1) := by decide +kernel
theorem d3_64 : decode prog_86_method_1_code 64 = .ok (.putfield 64, 3) := by decide +kernel
theorem d3_67 : decode prog_86_method_1_code 67 = .ok (.aload_n 0, 1) := by decide +kernel
theorem d3_68 : decode prog_86_method_1_code 68 = .ok (.lconst 1, 1) := by decide +kernel
theorem d3_69 : decode prog_86_method_1_code 69 = .ok (.aload_n 1, 1) := by decide +kernel
theorem d3_70 : decode prog_86_method_1_code 70 = .ok (.invokevirtual 67, 3) := by decide +kernel
theorem d3_73 : decode prog_86_method_1_code 73 = .ok (.invokestatic 70, 3) := by decide +kernel
theorem d3_76 : decode prog_86_method_1_code 76 = .ok (.invokestatic 74, 3) := by decide +kernel
theorem d3_79 : decode prog_86_method_1_code 79 = .ok (.putfield 77, 3) := by decide +kernel
theorem d3_82 : decode prog_86_method_1_code 82 = .ok (.aload_n 0, 1) := by decide +kernel
theorem d3_83 : decode prog_86_method_1_code 83 = .ok (.new 80, 3) := by decide +kernel
theorem d3_86 : decode prog_86_method_1_code 86 = .ok (.dup, 1) := by decide +kernel
theorem d3_87 : decode prog_86_method_1_code 87 = .ok (.invokespecial 82, 3) := by decide +kernel
theorem d3_90 : decode prog_86_method_1_code 90 = .ok (.putfield 83, 3) := by decide +kernel
theorem d3_93 : decode prog_86_method_1_code 93 = .ok (.aload_n 0, 1) := by decide +kernel
theorem d3_94 : decode prog_86_method_1_code 94 = .ok (.new 80, 3) := by decide +kernel
theorem d3_97 : decode prog_86_method_1_code 97 = .ok (.dup, 1) := by decide +kernel
theorem d3_98 : decode prog_86_method_1_code 98 = .ok (.invokespecial 82, 3) := by decide +kernel
theorem d3_101 : decode prog_86_method_1_code 101 = .ok (.putfield 87, 3) := by decide +kernel
theorem d3_104 : decode prog_86_method_1_code 104 = .ok (.aload_n 0, 1) := by decide +kernel
theorem d3_105 : decode prog_86_method_1_code 105 = .ok (.new 90, 3) := by decide +kernel
theorem d3_108 : decode prog_86_method_1_code 108 = .ok (.dup, 1) := by decide +kernel
theorem d3_109 : decode prog_86_method_1_code 109 = .ok (.invokespecial 92, 3) := by decide +kernel
theorem d3_112 : decode prog_86_method_1_code 112 = .ok (.putfield 93, 3) := by decide +kernel
theorem d3_115 : decode prog_86_method_1_code 115 = .ok (.aload_n 0, 1) := by decide +kernel
theorem d3_116 : decode prog_86_method_1_code 116 = .ok (.aconst_null, 1) := by decide +kernel
theorem d3_117 : decode prog_86_method_1_code 117 = .ok (.putfield 97, 3) := by decide +kernel
theorem d3_120 : decode prog_86_method_1_code 120 = .ok (.aload_n 0, 1) := by decide +kernel
theorem d3_121 : decode prog_86_method_1_code 121 = .ok (.new 80, 3) := by decide +kernel
theorem d3_124 : decode prog_86_method_1_code 124 = .ok (.dup, 1) := by decide +kernel
theorem d3_125 : decode prog_86_method_1_code 125 = .ok (.invokespecial 82, 3) := by decide +kernel
theorem d3_128 : decode prog_86_method_1_code 128 = .ok (.putfield 101, 3) := by decide +kernel
theorem d3_131 : decode prog_86_method_1_code 131 = .ok (.return_, 1) := by decide +kernel
theorem ef_rm_lq (m : MethodId) (x0 : Addr) (x1 : Addr) : entryFrame m #[(.ref x0), (.ref x1)] 2 = mkF m 0 #[.val (.ref x0), .val (.ref x1)] [] := by first | (simp [entryFrame, mkF, argsToLocals, Value.category]; done) | rfl
def Q_rm_lq (Z : State) (a1 : Addr) (a2 : Addr) (u_incidents : Value) (u_credit : Value) (u_link : Value) (u_freeFlowS : Value) (u_storage : Value) (u_earnedPerSecond : Value) (u_onLink : Value) (u_waitingOnLinks : Value) (u_waitingAtOrigins : Value) (u_copies : Value) (u_departures : Value) (u_scheduled : Value) (ed : Addr) (ei : Addr) (h0 : Heap) (n0 : Nat) (v : Option Value) (h : Heap) (L : List Loc) : Prop := v = none ∧ Fr n0 L ∧ Keep h0 h [a1] ∧ Exa Z h a1 "com/example/nudged_routes/nudgedroutes/simulation/LinkQueue" ∧ Fld Z h a1 "com/example/nudged_routes/nudgedroutes/simulation/LinkQueue" "scheduled" "Z" u_scheduled
set_option maxRecDepth 65536 in
set_option maxHeartbeats 40000000 in
theorem rm_lq (l : Launch) (Z : State) (a0 : Array Value) (hw : ∀ d ∈ tables_1, d.before a0 Z = true) (ws : List Jvm.Cond) (a1 : Addr) (a2 : Addr) (u_incidents : Value) (u_credit : Value) (u_link : Value) (u_freeFlowS : Value) (u_storage : Value) (u_earnedPerSecond : Value) (u_onLink : Value) (u_waitingOnLinks : Value) (u_waitingAtOrigins : Value) (u_copies : Value) (u_departures : Value) (u_scheduled : Value) (ed : Addr) (ei : Addr) (h0 : Heap) (n0 : Nat) (Z0 : n0 ≤ h0.size) (S_DEFAULTCAPACITY_EMPTY_ELEMENTDATA : Sta Z h0 "java/util/ArrayList" "DEFAULTCAPACITY_EMPTY_ELEMENTDATA" "[Ljava/lang/Object;" (.ref ed)) (S_EMPTY_ITERATOR : Sta Z h0 "java/util/Collections$EmptyIterator" "EMPTY_ITERATOR" "Ljava/util/Collections$EmptyIterator;" (.ref ei)) (S__assertionsDisabled : Sta Z h0 "java/lang/StrictMath" "$assertionsDisabled" "Z" (.int (1 : Int32))) (E_a1 : Exa Z h0 a1 "com/example/nudged_routes/nudgedroutes/simulation/LinkQueue") (g_a1 : n0 ≤ a1) (F_incidents_a1 : Fld Z h0 a1 "com/example/nudged_routes/nudgedroutes/simulation/LinkQueue" "incidents" "Ljava/util/List;" u_incidents) (F_credit_a1 : Fld Z h0 a1 "com/example/nudged_routes/nudgedroutes/simulation/LinkQueue" "credit" "J" u_credit) (F_link_a1 : Fld Z h0 a1 "com/example/nudged_routes/nudgedroutes/simulation/LinkQueue" "link" "Lcom/example/nudged_routes/nudgedroutes/network/Link;" u_link) (F_freeFlowS_a1 : Fld Z h0 a1 "com/example/nudged_routes/nudgedroutes/simulation/LinkQueue" "freeFlowS" "I" u_freeFlowS) (F_storage_a1 : Fld Z h0 a1 "com/example/nudged_routes/nudgedroutes/simulation/LinkQueue" "storage" "I" u_storage) (F_earnedPerSecond_a1 : Fld Z h0 a1 "com/example/nudged_routes/nudgedroutes/simulation/LinkQueue" "earnedPerSecond" "J" u_earnedPerSecond) (F_onLink_a1 : Fld Z h0 a1 "com/example/nudged_routes/nudgedroutes/simulation/LinkQueue" "onLink" "Ljava/util/ArrayDeque;" u_onLink) (F_waitingOnLinks_a1 : Fld Z h0 a1 "com/example/nudged_routes/nudgedroutes/simulation/LinkQueue" "waitingOnLinks" "Ljava/util/ArrayDeque;" u_waitingOnLinks) (F_waitingAtOrigins_a1 : Fld Z h0 a1 "com/example/nudged_routes/nudgedroutes/simulation/LinkQueue" "waitingAtOrigins" "Lcom/example/nudged_routes/nudgedroutes/simulation/LinkQueue$OriginLine;" u_waitingAtOrigins) (F_copies_a1 : Fld Z h0 a1 "com/example/nudged_routes/nudgedroutes/simulation/LinkQueue" "copies" "Lcom/example/nudged_routes/nudgedroutes/simulation/DayCopies;" u_copies) (F_departures_a1 : Fld Z h0 a1 "com/example/nudged_routes/nudgedroutes/simulation/LinkQueue" "departures" "Ljava/util/ArrayDeque;" u_departures) (F_scheduled_a1 : Fld Z h0 a1 "com/example/nudged_routes/nudgedroutes/simulation/LinkQueue" "scheduled" "Z" u_scheduled) (E_a2 : Exa Z h0 a2 "com/example/nudged_routes/nudgedroutes/network/Link") (F_capacityVph_a2 : Fld Z h0 a2 "com/example/nudged_routes/nudgedroutes/network/Link" "capacityVph" "D" (.double (4655631299166339072 : UInt64))) (F_lengthM_a2 : Fld Z h0 a2 "com/example/nudged_routes/nudgedroutes/network/Link" "lengthM" "D" (.double (4636737291354636288 : UInt64))) (F_freeFlowTimeS_a2 : Fld Z h0 a2 "com/example/nudged_routes/nudgedroutes/network/Link" "freeFlowTimeS" "D" (.double (4621819117588971520 : UInt64))) (F_lanes_a2 : Fld Z h0 a2 "com/example/nudged_routes/nudgedroutes/network/Link" "lanes" "I" (.int (1 : Int32))) (hne : a2 ≠ a1) :
    MetFree l (⟨"com/example/nudged_routes/nudgedroutes/simulation/LinkQueue", "<init>", "(Lcom/example/nudged_routes/nudgedroutes/network/Link;)V"⟩ : MethodName) (head1 (Jvm.Cond.code (⟨"com/example/nudged_routes/nudgedroutes/simulation/LinkQueue", "<init>", "(Lcom/example/nudged_routes/nudgedroutes/network/Link;)V"⟩ : MethodName) prog_86_method_1_code 2 none :: ws) ({ frames := 5, cells := 10, slots := 86, locals := 54 } : Room)) (fun a U => a = #[(.ref a1), (.ref a2)] ∧ Z.Warmed39 U.vm ∧ U.heap = h0) (fun _ _ _ _ _ => True) (fun _ U o U' => ∃ v L, o = .returned v ∧ Q_rm_lq Z a1 a2 u_incidents u_credit u_link u_freeFlowS u_storage u_earnedPerSecond u_onLink u_waitingOnLinks u_waitingAtOrigins u_copies u_departures u_scheduled ed ei h0 n0 v U'.heap L ∧ FrameEnd U o U' L ({ frames := 5, cells := 10, slots := 86, locals := 54 } : Room).cells ({ frames := 5, cells := 10, slots := 86, locals := 54 } : Room).slots) := by
  refine MetFree.of_bodySF (plainFor_of_name pn3) hisR ?_
  intro p e s m args below meth c s₁ Bd hml0 hP hK
  obtain ⟨rfl, hZ, hh⟩ := hP
  have hx := Bd.exec
  have hby := Bd.bytes
  have hml : c.maxLocals = 2 := hml0
  have hown : s.vm.findClass "com/example/nudged_routes/nudgedroutes/simulation/LinkQueue" = some m.cls := findClass_of_methodNamed Bd.named
  have hnm := (name_of_methodNamed Bd.named Bd.method).1
  have X0 : Stand p l e ({ frames := 5, cells := 10, slots := 86, locals := 54 } : Room) s m #[(.ref a1), (.ref a2)] below meth c s₁ [] 0 0 := Stand.of_body Bd
  have e0 : s₁.heap = h0 := by rw [← hh, Bd.state]; rfl
  have N0 := Fr.nil n0
  refine Go.start (Q := Q_rm_lq Z a1 a2 u_incidents u_credit u_link u_freeFlowS u_storage u_earnedPerSecond u_onLink u_waitingOnLinks u_waitingAtOrigins u_copies u_departures u_scheduled ed ei h0 n0) (ef_rm_lq m a1 a2) ?_
  have sg1 : ∀ t, Steps p.tables e below (s₁.setTop (mkF m 1 #[.val (.ref a1), .val (.ref a2)] [(.ref a1)])) t → Steps p.tables e below (s₁.setTop (mkF m 0 #[.val (.ref a1), .val (.ref a2)] [])) t := by
    intro t kt
    show Steps p.tables e below (s₁.setTop (mkF m 0 #[.val (.ref a1), .val (.ref a2)] [])) _
    refine XS.aloadN X0.here hx rfl (hb hby d3_0) rfl rfl ?_
    exact kt
  refine Go.adv sg1 ?_
  obtain ⟨T2, X2, e2, st2⟩ := initO X0 hx hZ hown (hw _ (List.mem_of_getElem? (i := 42) rfl)) (hw _ (List.mem_of_getElem? (i := 18) rfl)) (hw _ (List.mem_of_getElem? (i := 19) rfl)) e0 (g := (mkF m 1 #[.val (.ref a1), .val (.ref a2)] [(.ref a1)])) rfl (by rw [hml]; rfl) rfl (hb hby d3_1) (by decide) (W := 0) (by show 2 * 0 + _ ≤ _; exact Nat.le_of_eq rfl) (by decide)
  refine Go.adv st2 ?_
  show Go p.tables e below s _ _ _ (T2.setTop (mkF m 4 #[.val (.ref a1), .val (.ref a2)] []))
  have sg3 : ∀ t, Steps p.tables e below (T2.setTop (mkF m 5 #[.val (.ref a1), .val (.ref a2)] [(.ref a1)])) t → Steps p.tables e below (T2.setTop (mkF m 4 #[.val (.ref a1), .val (.ref a2)] [])) t := by
    intro t kt
    show Steps p.tables e below (T2.setTop (mkF m 4 #[.val (.ref a1), .val (.ref a2)] [])) _
    refine XS.aloadN X2.here hx rfl (hb hby d3_4) rfl rfl ?_
    exact kt
  refine Go.adv sg3 ?_
  obtain ⟨T4, h4, X4, e4, E4, A4, D4, -, st4⟩ := newO X2 hx hZ hown (hw _ (List.mem_of_getElem? (i := 43) rfl)) (hw _ (List.mem_of_getElem? (i := 44) rfl)) (hw _ (List.mem_of_getElem? (i := 45) rfl)) e2 (g := (mkF m 5 #[.val (.ref a1), .val (.ref a2)] [(.ref a1)])) rfl (hb hby d3_5) (by decide) (by decide)
  obtain ⟨b4, gb4⟩ : ∃ z, z = h0.size := ⟨_, rfl⟩
  rw [← gb4] at A4 D4 st4
  have g_b4 : n0 ≤ b4 := Nat.le_trans Z0 (Nat.le_of_eq gb4.symm)
  have sz_b4 : h0.size ≤ b4 := Nat.le_trans (Keep.refl h0 [a1]).1 (Nat.le_of_eq gb4.symm)
  have ne_a1_b4 : a1 ≠ b4 := Nat.ne_of_lt (Nat.lt_of_lt_of_le E_a1.lt (Nat.le_of_eq gb4.symm))
  have ne_a2_b4 : a2 ≠ b4 := Nat.ne_of_lt (Nat.lt_of_lt_of_le E_a2.lt (Nat.le_of_eq gb4.symm))
  have K4 : Keep h0 h4 [a1] := (Keep.refl h0 [a1]).ext E4
  have Z4 : n0 ≤ h4.size := Nat.le_trans Z0 E4.1
  have F_modCount_b4 : Fld Z h4 b4 "java/util/AbstractList" "modCount" "I" (.int (0 : Int32)) := D4 (Or.inl (hw _ (List.mem_of_getElem? (i := 63) rfl))) (ty := .int) (by decide)
  have F_elementData_b4 : Fld Z h4 b4 "java/util/ArrayList" "elementData" "[Ljava/lang/Object;" .null := D4 (Or.inl (hw _ (List.mem_of_getElem? (i := 66) rfl))) (ty := (.array (.object "java/lang/Object"))) (by decide)
  refine Go.adv st4 ?_
  show Go p.tables e below s _ _ _ (T4.setTop (mkF m 8 #[.val (.ref a1), .val (.ref a2)] [(.ref b4), (.ref a1)]))
  have sg5 : ∀ t, Steps p.tables e below (T4.setTop (mkF m 9 #[.val (.ref a1), .val (.ref a2)] [(.ref b4), (.ref b4), (.ref a1)])) t → Steps p.tables e below (T4.setTop (mkF m 8 #[.val (.ref a1), .val (.ref a2)] [(.ref b4), (.ref a1)])) t := by
    intro t kt
    show Steps p.tables e below (T4.setTop (mkF m 8 #[.val (.ref a1), .val (.ref a2)] [(.ref b4), (.ref a1)])) _
    refine XS.dup X4.here hx rfl (hb hby d3_8) rfl rfl ?_
    exact kt
  refine Go.adv sg5 ?_
  have f6 := (S_DEFAULTCAPACITY_EMPTY_ELEMENTDATA.ext E4)
  have f7 := (S_EMPTY_ITERATOR.ext E4)
  have f8 := (S__assertionsDisabled.ext E4)
  obtain ⟨_, _, ⟨T9, L9, k9, n9⟩, -, X9, ⟨Lc9, hQ9, l9, y9, z9⟩, st9⟩ := X4.specialBack hx (y := (⟨"java/util/ArrayList", "<init>", "()V"⟩ : MethodName)) rfl hown (mvT hZ (hw _ (List.mem_of_getElem? (i := 46) rfl))) (mvT hZ (hw _ (List.mem_of_getElem? (i := 47) rfl))) (mvT hZ (hw _ (List.mem_of_getElem? (i := 48) rfl))) (by decide) (backOf (W := 2) (rm_al l Z a0 hw [] b4 (.int (0 : Int32)) (.null) ed h4 n0 Z4 f6 A4 g_b4 F_modCount_b4 F_elementData_b4) hZ (hw _ (List.mem_of_getElem? (i := 48) rfl)) (hw _ (List.mem_of_getElem? (i := 45) rfl)) (by decide) (by decide)) (g := (mkF m 9 #[.val (.ref a1), .val (.ref a2)] [(.ref b4), (.ref b4), (.ref a1)])) rfl (by rw [hml]; rfl) (Steps.refl _) (a := b4) (argsL := []) (rest := [(.ref b4), (.ref a1)]) (lenOf pd_ocV rfl) rfl (by show 2 * 0 + _ ≤ _; exact Nat.le_of_eq rfl) (hb hby d3_9) (fun _ _ => ⟨rfl, e4, (by decide : 1 + 0 ≤ _), (by decide : 3 + 0 ≤ _)⟩)
  dsimp only [Pt.U, Pt.locs, Pt.cells, Pt.slots] at X9 l9 y9 z9 st9 hQ9
  subst l9 y9 z9
  obtain ⟨rfl, N9q, Kc9, p9_0⟩ := hQ9
  have N9 := Fr.app N0 N9q
  have s9_DEFAULTCAPACITY_EMPTY_ELEMENTDATA := own_staKeep f6 Kc9 A4
  have s9_EMPTY_ITERATOR := own_staKeep f7 Kc9 A4
  have s9__assertionsDisabled := own_staKeep f8 Kc9 A4
  have K9 : Keep h0 T9.heap [a1] := K4.trans Kc9 (allS (Or.inr sz_b4) all0)
  have Z9 : n0 ≤ T9.heap.size := Nat.le_trans Z4 Kc9.1
  refine Go.tr st9 ?_
  show Go p.tables e below s _ _ _ (T9.setTop (mkF m 12 #[.val (.ref a1), .val (.ref a2)] [(.ref b4), (.ref a1)]))
  have f10 := ((F_incidents_a1.ext E4).keep Kc9 (ninS ne_a1_b4 nin0))
  have f11 := ((E_a1.ext E4).keep Kc9)
  obtain ⟨T12, h12, X12, e12, W12, st12⟩ := putF X9 hx hZ hown (host := "") (Or.inl (hw _ (List.mem_of_getElem? (i := 67) rfl))) Via.refl rfl f10 f11 (Or.inr ⟨(hw _ (List.mem_of_getElem? (i := 68) rfl)), rfl, hnm⟩) (hw _ (List.mem_of_getElem? (i := 37) rfl)) (ty := (.object "java/util/List")) (by decide) rfl rfl (g := (mkF m 12 #[.val (.ref a1), .val (.ref a2)] [(.ref b4), (.ref a1)])) rfl rfl (hb hby d3_12)
  have Fw12 := f10.same W12
  have K12 : Keep h0 h12 [a1] := K9.wr W12 (Or.inl (List.mem_of_getElem? (i := 0) rfl))
  have Z12 : n0 ≤ h12.size := Nat.le_trans Z9 (Keep.of_wr W12).1
  have N12 := Fr.snoc X12 N9 g_a1
  refine Go.adv st12 ?_
  show Go p.tables e below s _ _ _ (T12.setTop (mkF m 15 #[.val (.ref a1), .val (.ref a2)] []))
  have sg13 : ∀ t, Steps p.tables e below (T12.setTop (mkF m 19 #[.val (.ref a1), .val (.ref a2)] [(.long (3600000 : Int64)), (.ref a1)])) t → Steps p.tables e below (T12.setTop (mkF m 15 #[.val (.ref a1), .val (.ref a2)] [])) t := by
    intro t kt
    show Steps p.tables e below (T12.setTop (mkF m 15 #[.val (.ref a1), .val (.ref a2)] [])) _
    refine XS.aloadN X12.here hx rfl (hb hby d3_15) rfl rfl ?_
    show Steps p.tables e below (T12.setTop (mkF m 16 #[.val (.ref a1), .val (.ref a2)] [(.ref a1)])) _
    refine X12.ldc2Long hx hown (mvT hZ (hw _ (List.mem_of_getElem? (i := 69) rfl))) (g := (mkF m 16 #[.val (.ref a1), .val (.ref a2)] [(.ref a1)])) rfl (hb hby d3_16) _ ?_
    exact kt
  refine Go.adv sg13 ?_
  have f14 := (((F_credit_a1.ext E4).keep Kc9 (ninS ne_a1_b4 nin0)).other W12 (Or.inr (slot_ne (Or.inl (hw _ (List.mem_of_getElem? (i := 71) rfl))) (Or.inr (hw _ (List.mem_of_getElem? (i := 68) rfl))) (by decide) (t := .long) (t' := (.object "java/util/List")) (by decide) (by decide))))
  have f15 := (f11.wr W12)
  obtain ⟨T16, h16, X16, e16, W16, st16⟩ := putF X12 hx hZ hown (host := "") (Or.inl (hw _ (List.mem_of_getElem? (i := 70) rfl))) Via.refl e12 f14 f15 (Or.inl (hw _ (List.mem_of_getElem? (i := 71) rfl))) (hw _ (List.mem_of_getElem? (i := 37) rfl)) (ty := .long) (by decide) rfl rfl (g := (mkF m 19 #[.val (.ref a1), .val (.ref a2)] [(.long (3600000 : Int64)), (.ref a1)])) rfl rfl (hb hby d3_19)
  have Fw16 := f14.same W16
  have K16 : Keep h0 h16 [a1] := K12.wr W16 (Or.inl (List.mem_of_getElem? (i := 0) rfl))
  have Z16 : n0 ≤ h16.size := Nat.le_trans Z12 (Keep.of_wr W16).1
  have N16 := Fr.snoc X16 N12 g_a1
  refine Go.adv st16 ?_
  show Go p.tables e below s _ _ _ (T16.setTop (mkF m 22 #[.val (.ref a1), .val (.ref a2)] []))
  have sg17 : ∀ t, Steps p.tables e below (T16.setTop (mkF m 24 #[.val (.ref a1), .val (.ref a2)] [(.ref a2), (.ref a1)])) t → Steps p.tables e below (T16.setTop (mkF m 22 #[.val (.ref a1), .val (.ref a2)] [])) t := by
    intro t kt
    show Steps p.tables e below (T16.setTop (mkF m 22 #[.val (.ref a1), .val (.ref a2)] [])) _
    refine XS.aloadN X16.here hx rfl (hb hby d3_22) rfl rfl ?_
    show Steps p.tables e below (T16.setTop (mkF m 23 #[.val (.ref a1), .val (.ref a2)] [(.ref a1)])) _
    refine XS.aloadN X16.here hx rfl (hb hby d3_23) rfl rfl ?_
    exact kt
  refine Go.adv sg17 ?_
  have f18 := ((((F_link_a1.ext E4).keep Kc9 (ninS ne_a1_b4 nin0)).other W12 (Or.inr (slot_ne (Or.inr (hw _ (List.mem_of_getElem? (i := 73) rfl))) (Or.inr (hw _ (List.mem_of_getElem? (i := 68) rfl))) (by decide) (t := (.object "com/example/nudged_routes/nudgedroutes/network/Link")) (t' := (.object "java/util/List")) (by decide) (by decide)))).other W16 (Or.inr (slot_ne (Or.inr (hw _ (List.mem_of_getElem? (i := 73) rfl))) (Or.inl (hw _ (List.mem_of_getElem? (i := 71) rfl))) (by decide) (t := (.object "com/example/nudged_routes/nudgedroutes/network/Link")) (t' := .long) (by decide) (by decide))))
  have f19 := (f15.wr W16)
  obtain ⟨T20, h20, X20, e20, W20, st20⟩ := putF X16 hx hZ hown (host := "") (Or.inl (hw _ (List.mem_of_getElem? (i := 72) rfl))) Via.refl e16 f18 f19 (Or.inr ⟨(hw _ (List.mem_of_getElem? (i := 73) rfl)), rfl, hnm⟩) (hw _ (List.mem_of_getElem? (i := 37) rfl)) (ty := (.object "com/example/nudged_routes/nudgedroutes/network/Link")) (by decide) rfl rfl (g := (mkF m 24 #[.val (.ref a1), .val (.ref a2)] [(.ref a2), (.ref a1)])) rfl rfl (hb hby d3_24)
  have Fw20 := f18.same W20
  have K20 : Keep h0 h20 [a1] := K16.wr W20 (Or.inl (List.mem_of_getElem? (i := 0) rfl))
  have Z20 : n0 ≤ h20.size := Nat.le_trans Z16 (Keep.of_wr W20).1
  have N20 := Fr.snoc X20 N16 g_a1
  refine Go.adv st20 ?_
  show Go p.tables e below s _ _ _ (T20.setTop (mkF m 27 #[.val (.ref a1), .val (.ref a2)] []))
  have sg21 : ∀ t, Steps p.tables e below (T20.setTop (mkF m 29 #[.val (.ref a1), .val (.ref a2)] [(.ref a2), (.ref a1)])) t → Steps p.tables e below (T20.setTop (mkF m 27 #[.val (.ref a1), .val (.ref a2)] [])) t := by
    intro t kt
    show Steps p.tables e below (T20.setTop (mkF m 27 #[.val (.ref a1), .val (.ref a2)] [])) _
    refine XS.aloadN X20.here hx rfl (hb hby d3_27) rfl rfl ?_
    show Steps p.tables e below (T20.setTop (mkF m 28 #[.val (.ref a1), .val (.ref a2)] [(.ref a1)])) _
    refine XS.aloadN X20.here hx rfl (hb hby d3_28) rfl rfl ?_
    exact kt
  refine Go.adv sg21 ?_
  have f22 := (((((F_freeFlowTimeS_a2.ext E4).keep Kc9 (ninS ne_a2_b4 nin0)).other W12 (Or.inl hne)).other W16 (Or.inl hne)).other W20 (Or.inl hne))
  have f24 := (((((E_a2.ext E4).keep Kc9).wr W12).wr W16).wr W20)
  obtain ⟨cq23, kq23, q23a, q23b, q23c⟩ := isOf hZ e20 f24
  obtain ⟨_, _, ⟨T23, L23, k23, n23⟩, -, X23, ⟨Lc23, hQ23, l23, y23, z23⟩, st23⟩ := X20.virtualBack hx (y := (⟨"com/example/nudged_routes/nudgedroutes/network/Link", "wholeFreeFlowS", "()I"⟩ : MethodName)) (z := (⟨"com/example/nudged_routes/nudgedroutes/network/Link", "wholeFreeFlowS", "()I"⟩ : MethodName)) hown (mvT hZ (hw _ (List.mem_of_getElem? (i := 74) rfl))) (mvT hZ (hw _ (List.mem_of_getElem? (i := 75) rfl))) (notFace_of_selects (args := #[]) (mvT hZ (hw _ (List.mem_of_getElem? (i := 77) rfl)))) (mvT hZ (hw _ (List.mem_of_getElem? (i := 77) rfl))) (mvT hZ (hw _ (List.mem_of_getElem? (i := 76) rfl))) (by decide) (backOf (W := 1) (rm_whole l Z a0 hw [] a2  h20 n0 Z20 f22) hZ (hw _ (List.mem_of_getElem? (i := 78) rfl)) (hw _ (List.mem_of_getElem? (i := 2) rfl)) (by decide) (by decide)) q23a q23c (g := (mkF m 29 #[.val (.ref a1), .val (.ref a2)] [(.ref a2), (.ref a1)])) rfl (by rw [hml]; rfl) (Steps.refl _) (argsL := []) (rest := [(.ref a1)]) (lenOf pd_ocI rfl) rfl (by show 2 * 0 + _ ≤ _; exact Nat.le_of_eq rfl) (hb hby d3_29) (fun _ _ => ⟨rfl, e20, (by decide : 1 + 0 ≤ _), (by decide : 3 + 0 ≤ _)⟩)
  dsimp only [Pt.U, Pt.locs, Pt.cells, Pt.slots] at X23 l23 y23 z23 st23 hQ23
  subst l23 y23 z23
  obtain ⟨rfl, N23q, e23⟩ := hQ23
  have N23 := Fr.app N20 N23q
  refine Go.tr st23 ?_
  show Go p.tables e below s _ _ _ (T23.setTop (mkF m 32 #[.val (.ref a1), .val (.ref a2)] [(.int ((own_maxJ (1 : Int64) (own_minJ (2147483647 : Int64) (own_round (4621819117588971520 : UInt64)))).toInt32)), (.ref a1)]))
  have f25 := (((((F_freeFlowS_a1.ext E4).keep Kc9 (ninS ne_a1_b4 nin0)).other W12 (Or.inr (slot_ne (Or.inr (hw _ (List.mem_of_getElem? (i := 100) rfl))) (Or.inr (hw _ (List.mem_of_getElem? (i := 68) rfl))) (by decide) (t := .int) (t' := (.object "java/util/List")) (by decide) (by decide)))).other W16 (Or.inr (slot_ne (Or.inr (hw _ (List.mem_of_getElem? (i := 100) rfl))) (Or.inl (hw _ (List.mem_of_getElem? (i := 71) rfl))) (by decide) (t := .int) (t' := .long) (by decide) (by decide)))).other W20 (Or.inr (slot_ne (Or.inr (hw _ (List.mem_of_getElem? (i := 100) rfl))) (Or.inr (hw _ (List.mem_of_getElem? (i := 73) rfl))) (by decide) (t := .int) (t' := (.object "com/example/nudged_routes/nudgedroutes/network/Link")) (by decide) (by decide))))
  have f26 := (f19.wr W20)
  obtain ⟨T27, h27, X27, e27, W27, st27⟩ := putF X23 hx hZ hown (host := "") (Or.inl (hw _ (List.mem_of_getElem? (i := 99) rfl))) Via.refl e23 f25 f26 (Or.inr ⟨(hw _ (List.mem_of_getElem? (i := 100) rfl)), rfl, hnm⟩) (hw _ (List.mem_of_getElem? (i := 37) rfl)) (ty := .int) (by decide) rfl rfl (g := (mkF m 32 #[.val (.ref a1), .val (.ref a2)] [(.int ((own_maxJ (1 : Int64) (own_minJ (2147483647 : Int64) (own_round (4621819117588971520 : UInt64)))).toInt32)), (.ref a1)])) rfl rfl (hb hby d3_32)
  have Fw27 := f25.same W27
  have K27 : Keep h0 h27 [a1] := K20.wr W27 (Or.inl (List.mem_of_getElem? (i := 0) rfl))
  have Z27 : n0 ≤ h27.size := Nat.le_trans Z20 (Keep.of_wr W27).1
  have N27 := Fr.snoc X27 N23 g_a1
  refine Go.adv st27 ?_
  show Go p.tables e below s _ _ _ (T27.setTop (mkF m 35 #[.val (.ref a1), .val (.ref a2)] []))
  have sg28 : ∀ t, Steps p.tables e below (T27.setTop (mkF m 41 #[.val (.ref a1), .val (.ref a2)] [(.ref a2), (.double (4746794007244308480 : UInt64)), (.double (4607182418800017408 : UInt64)), (.ref a1)])) t → Steps p.tables e below (T27.setTop (mkF m 35 #[.val (.ref a1), .val (.ref a2)] [])) t := by
    intro t kt
    show Steps p.tables e below (T27.setTop (mkF m 35 #[.val (.ref a1), .val (.ref a2)] [])) _
    refine XS.aloadN X27.here hx rfl (hb hby d3_35) rfl rfl ?_
    show Steps p.tables e below (T27.setTop (mkF m 36 #[.val (.ref a1), .val (.ref a2)] [(.ref a1)])) _
    refine own_dconst1 X27.here hx rfl (hb hby d3_36) ?_
    show Steps p.tables e below (T27.setTop (mkF m 37 #[.val (.ref a1), .val (.ref a2)] [(.double (4607182418800017408 : UInt64)), (.ref a1)])) _
    refine X27.ldc2DoubleC hx hown (mvT hZ (hw _ (List.mem_of_getElem? (i := 101) rfl))) (g := (mkF m 37 #[.val (.ref a1), .val (.ref a2)] [(.double (4607182418800017408 : UInt64)), (.ref a1)])) rfl (hb hby d3_37) _ ?_
    show Steps p.tables e below (T27.setTop (mkF m 40 #[.val (.ref a1), .val (.ref a2)] [(.double (4746794007244308480 : UInt64)), (.double (4607182418800017408 : UInt64)), (.ref a1)])) _
    refine XS.aloadN X27.here hx rfl (hb hby d3_40) rfl rfl ?_
    exact kt
  refine Go.adv sg28 ?_
  have f29 := ((((((F_lengthM_a2.ext E4).keep Kc9 (ninS ne_a2_b4 nin0)).other W12 (Or.inl hne)).other W16 (Or.inl hne)).other W20 (Or.inl hne)).other W27 (Or.inl hne))
  have f31 := (f24.wr W27)
  obtain ⟨cq30, kq30, q30a, q30b, q30c⟩ := isOf hZ e27 f31
  obtain ⟨_, _, ⟨T30, L30, k30, n30⟩, -, X30, ⟨Lc30, hQ30, l30, y30, z30⟩, st30⟩ := X27.virtualBack hx (y := (⟨"com/example/nudged_routes/nudgedroutes/network/Link", "lengthM", "()D"⟩ : MethodName)) (z := (⟨"com/example/nudged_routes/nudgedroutes/network/Link", "lengthM", "()D"⟩ : MethodName)) hown (mvT hZ (hw _ (List.mem_of_getElem? (i := 102) rfl))) (mvT hZ (hw _ (List.mem_of_getElem? (i := 103) rfl))) (notFace_of_selects (args := #[]) (mvT hZ (hw _ (List.mem_of_getElem? (i := 105) rfl)))) (mvT hZ (hw _ (List.mem_of_getElem? (i := 105) rfl))) (mvT hZ (hw _ (List.mem_of_getElem? (i := 104) rfl))) (by decide) (backOf (W := 5) (rm_len l Z a0 hw [] a2 (4636737291354636288 : UInt64) h27 n0 Z27 f29) hZ (hw _ (List.mem_of_getElem? (i := 106) rfl)) (hw _ (List.mem_of_getElem? (i := 2) rfl)) (by decide) (by decide)) q30a q30c (g := (mkF m 41 #[.val (.ref a1), .val (.ref a2)] [(.ref a2), (.double (4746794007244308480 : UInt64)), (.double (4607182418800017408 : UInt64)), (.ref a1)])) rfl (by rw [hml]; rfl) (Steps.refl _) (argsL := []) (rest := [(.double (4746794007244308480 : UInt64)), (.double (4607182418800017408 : UInt64)), (.ref a1)]) (lenOf pd_ocD rfl) rfl (by show 2 * 0 + _ ≤ _; exact Nat.le_of_eq rfl) (hb hby d3_41) (fun _ _ => ⟨rfl, e27, (by decide : 1 + 0 ≤ _), (by decide : 3 + 0 ≤ _)⟩)
  dsimp only [Pt.U, Pt.locs, Pt.cells, Pt.slots] at X30 l30 y30 z30 st30 hQ30
  subst l30 y30 z30
  obtain ⟨rfl, N30q, e30⟩ := hQ30
  have N30 := Fr.app N27 N30q
  refine Go.tr st30 ?_
  show Go p.tables e below s _ _ _ (T30.setTop (mkF m 44 #[.val (.ref a1), .val (.ref a2)] [(.double (4636737291354636288 : UInt64)), (.double (4746794007244308480 : UInt64)), (.double (4607182418800017408 : UInt64)), (.ref a1)]))
  have sg32 : ∀ t, Steps p.tables e below (T30.setTop (mkF m 45 #[.val (.ref a1), .val (.ref a2)] [(.ref a2), (.double (4636737291354636288 : UInt64)), (.double (4746794007244308480 : UInt64)), (.double (4607182418800017408 : UInt64)), (.ref a1)])) t → Steps p.tables e below (T30.setTop (mkF m 44 #[.val (.ref a1), .val (.ref a2)] [(.double (4636737291354636288 : UInt64)), (.double (4746794007244308480 : UInt64)), (.double (4607182418800017408 : UInt64)), (.ref a1)])) t := by
    intro t kt
    show Steps p.tables e below (T30.setTop (mkF m 44 #[.val (.ref a1), .val (.ref a2)] [(.double (4636737291354636288 : UInt64)), (.double (4746794007244308480 : UInt64)), (.double (4607182418800017408 : UInt64)), (.ref a1)])) _
    refine XS.aloadN X30.here hx rfl (hb hby d3_44) rfl rfl ?_
    exact kt
  refine Go.adv sg32 ?_
  have f33 := ((((((F_lanes_a2.ext E4).keep Kc9 (ninS ne_a2_b4 nin0)).other W12 (Or.inl hne)).other W16 (Or.inl hne)).other W20 (Or.inl hne)).other W27 (Or.inl hne))
  obtain ⟨cq34, kq34, q34a, q34b, q34c⟩ := isOf hZ e30 f31
  obtain ⟨_, _, ⟨T34, L34, k34, n34⟩, -, X34, ⟨Lc34, hQ34, l34, y34, z34⟩, st34⟩ := X30.virtualBack hx (y := (⟨"com/example/nudged_routes/nudgedroutes/network/Link", "lanes", "()I"⟩ : MethodName)) (z := (⟨"com/example/nudged_routes/nudgedroutes/network/Link", "lanes", "()I"⟩ : MethodName)) hown (mvT hZ (hw _ (List.mem_of_getElem? (i := 107) rfl))) (mvT hZ (hw _ (List.mem_of_getElem? (i := 108) rfl))) (notFace_of_selects (args := #[]) (mvT hZ (hw _ (List.mem_of_getElem? (i := 110) rfl)))) (mvT hZ (hw _ (List.mem_of_getElem? (i := 110) rfl))) (mvT hZ (hw _ (List.mem_of_getElem? (i := 109) rfl))) (by decide) (backOf (W := 7) (rm_lanes l Z a0 hw [] a2 (1 : Int32) h27 n0 Z27 f33) hZ (hw _ (List.mem_of_getElem? (i := 111) rfl)) (hw _ (List.mem_of_getElem? (i := 2) rfl)) (by decide) (by decide)) q34a q34c (g := (mkF m 45 #[.val (.ref a1), .val (.ref a2)] [(.ref a2), (.double (4636737291354636288 : UInt64)), (.double (4746794007244308480 : UInt64)), (.double (4607182418800017408 : UInt64)), (.ref a1)])) rfl (by rw [hml]; rfl) (Steps.refl _) (argsL := []) (rest := [(.double (4636737291354636288 : UInt64)), (.double (4746794007244308480 : UInt64)), (.double (4607182418800017408 : UInt64)), (.ref a1)]) (lenOf pd_ocI rfl) rfl (by show 2 * 0 + _ ≤ _; exact Nat.le_of_eq rfl) (hb hby d3_45) (fun _ _ => ⟨rfl, e30, (by decide : 1 + 0 ≤ _), (by decide : 3 + 0 ≤ _)⟩)
  dsimp only [Pt.U, Pt.locs, Pt.cells, Pt.slots] at X34 l34 y34 z34 st34 hQ34
  subst l34 y34 z34
  obtain ⟨rfl, N34q, e34⟩ := hQ34
  have N34 := Fr.app N30 N34q
  refine Go.tr st34 ?_
  show Go p.tables e below s _ _ _ (T34.setTop (mkF m 48 #[.val (.ref a1), .val (.ref a2)] [(.int (1 : Int32)), (.double (4636737291354636288 : UInt64)), (.double (4746794007244308480 : UInt64)), (.double (4607182418800017408 : UInt64)), (.ref a1)]))
  have sg35 : ∀ t, Steps p.tables e below (T34.setTop (mkF m 54 #[.val (.ref a1), .val (.ref a2)] [(.double (FP.ddiv (FP.dmul (4636737291354636288 : UInt64) (FP.i2d (1 : Int32))) (4620130267728707584 : UInt64))), (.double (4746794007244308480 : UInt64)), (.double (4607182418800017408 : UInt64)), (.ref a1)])) t → Steps p.tables e below (T34.setTop (mkF m 48 #[.val (.ref a1), .val (.ref a2)] [(.int (1 : Int32)), (.double (4636737291354636288 : UInt64)), (.double (4746794007244308480 : UInt64)), (.double (4607182418800017408 : UInt64)), (.ref a1)])) t := by
    intro t kt
    show Steps p.tables e below (T34.setTop (mkF m 48 #[.val (.ref a1), .val (.ref a2)] [(.int (1 : Int32)), (.double (4636737291354636288 : UInt64)), (.double (4746794007244308480 : UInt64)), (.double (4607182418800017408 : UInt64)), (.ref a1)])) _
    refine own_i2d X34.here hx rfl (hb hby d3_48) rfl ?_
    show Steps p.tables e below (T34.setTop (mkF m 49 #[.val (.ref a1), .val (.ref a2)] [(.double (FP.i2d (1 : Int32))), (.double (4636737291354636288 : UInt64)), (.double (4746794007244308480 : UInt64)), (.double (4607182418800017408 : UInt64)), (.ref a1)])) _
    refine own_dmul X34.here hx rfl (hb hby d3_49) rfl own_n1 ?_
    show Steps p.tables e below (T34.setTop (mkF m 50 #[.val (.ref a1), .val (.ref a2)] [(.double (FP.dmul (4636737291354636288 : UInt64) (FP.i2d (1 : Int32)))), (.double (4746794007244308480 : UInt64)), (.double (4607182418800017408 : UInt64)), (.ref a1)])) _
    refine X34.ldc2DoubleC hx hown (mvT hZ (hw _ (List.mem_of_getElem? (i := 112) rfl))) (g := (mkF m 50 #[.val (.ref a1), .val (.ref a2)] [(.double (FP.dmul (4636737291354636288 : UInt64) (FP.i2d (1 : Int32)))), (.double (4746794007244308480 : UInt64)), (.double (4607182418800017408 : UInt64)), (.ref a1)])) rfl (hb hby d3_50) _ ?_
    show Steps p.tables e below (T34.setTop (mkF m 53 #[.val (.ref a1), .val (.ref a2)] [(.double (4620130267728707584 : UInt64)), (.double (FP.dmul (4636737291354636288 : UInt64) (FP.i2d (1 : Int32)))), (.double (4746794007244308480 : UInt64)), (.double (4607182418800017408 : UInt64)), (.ref a1)])) _
    refine own_ddiv X34.here hx rfl (hb hby d3_53) rfl own_n2 ?_
    exact kt
  refine Go.adv sg35 ?_
  have f36 := ((((s9__assertionsDisabled.wr W12).wr W16).wr W20).wr W27)
  obtain ⟨vm37, X37, st37⟩ := own_floor hw X34 hx hZ hown e34 f36 (g := (mkF m 54 #[.val (.ref a1), .val (.ref a2)] [(.double (FP.ddiv (FP.dmul (4636737291354636288 : UInt64) (FP.i2d (1 : Int32))) (4620130267728707584 : UInt64))), (.double (4746794007244308480 : UInt64)), (.double (4607182418800017408 : UInt64)), (.ref a1)])) rfl (by rw [hml]; rfl) (rest := [(.double (4746794007244308480 : UInt64)), (.double (4607182418800017408 : UInt64)), (.ref a1)]) (d1 := (FP.ddiv (FP.dmul (4636737291354636288 : UInt64) (FP.i2d (1 : Int32))) (4620130267728707584 : UInt64))) rfl (hb hby d3_54) (by decide) (by show 2 * 0 + 5 ≤ 500; decide) own_fl
  obtain ⟨T37, gT37⟩ : ∃ t, t = T34.setVm vm37 := ⟨_, rfl⟩
  rw [← gT37] at X37 st37
  have e37 : T37.heap = h27 := by rw [gT37]; exact e34
  refine Go.adv st37 ?_
  show Go p.tables e below s _ _ _ (T37.setTop (mkF m 57 #[.val (.ref a1), .val (.ref a2)] [(.double (own_cut (FP.ddiv (FP.dmul (4636737291354636288 : UInt64) (FP.i2d (1 : Int32))) (4620130267728707584 : UInt64)))), (.double (4746794007244308480 : UInt64)), (.double (4607182418800017408 : UInt64)), (.ref a1)]))
  obtain ⟨_, vm38, _, -, X38, ⟨rfl, rfl⟩, st38⟩ := Jvm.LawKit.callS X37 hx (y := Jvm.Free.Fl.Abs.minDN) (bytes := Jvm.Free.Fl.Abs.minDCode) (maxL := 4) (ret := some .double) hown (mvT hZ (hw _ (List.mem_of_getElem? (i := 135) rfl))) (mvT hZ (hw _ (List.mem_of_getElem? (i := 136) rfl))) (mvT hZ (hw _ (List.mem_of_getElem? (i := 82) rfl))) (mvT hZ (hw _ (List.mem_of_getElem? (i := 137) rfl))) (by decide) (Jvm.Free.Fl.Abs.minD_pays (len := 3) (W := 3) (4746794007244308480 : UInt64) (own_cut (FP.ddiv (FP.dmul (4636737291354636288 : UInt64) (FP.i2d (1 : Int32))) (4620130267728707584 : UInt64))) (mvT hZ (hw _ (List.mem_of_getElem? (i := 137) rfl))) (by decide) (by decide)) (g := (mkF m 57 #[.val (.ref a1), .val (.ref a2)] [(.double (own_cut (FP.ddiv (FP.dmul (4636737291354636288 : UInt64) (FP.i2d (1 : Int32))) (4620130267728707584 : UInt64)))), (.double (4746794007244308480 : UInt64)), (.double (4607182418800017408 : UInt64)), (.ref a1)])) rfl (by rw [hml]; rfl) (argsL := [(.double (4746794007244308480 : UInt64)), (.double (own_cut (FP.ddiv (FP.dmul (4636737291354636288 : UInt64) (FP.i2d (1 : Int32))) (4620130267728707584 : UInt64))))]) (rest := [(.double (4607182418800017408 : UInt64)), (.ref a1)]) (lenOf pd_oDDcD rfl) rfl (by show 2 * 0 + _ ≤ _; exact Nat.le_of_eq rfl) (hb hby d3_57) (fun _ _ => ⟨(by decide : 1 ≤ _), (by decide : 3 ≤ _), rfl, own_nb, own_fl.2.2.2.2.2.2⟩)
  dsimp only [Pt.U, Pt.locs, Pt.cells, Pt.slots] at X38 st38
  obtain ⟨T38, gT38⟩ : ∃ t, t = T37.setVm vm38 := ⟨_, rfl⟩
  rw [← gT38] at X38 st38
  have e38 : T38.heap = h27 := by rw [gT38]; exact e37
  refine Go.adv st38 ?_
  show Go p.tables e below s _ _ _ (T38.setTop (mkF m 60 #[.val (.ref a1), .val (.ref a2)] [(.double (Native.java_lang_Math.nans.pick64 false (4746794007244308480 : UInt64) (own_cut (FP.ddiv (FP.dmul (4636737291354636288 : UInt64) (FP.i2d (1 : Int32))) (4620130267728707584 : UInt64))))), (.double (4607182418800017408 : UInt64)), (.ref a1)]))
  obtain ⟨_, vm39, _, -, X39, ⟨rfl, rfl⟩, st39⟩ := Jvm.LawKit.callS X38 hx (y := Jvm.Free.Fl.Abs.maxDN) (bytes := Jvm.Free.Fl.Abs.maxDCode) (maxL := 4) (ret := some .double) hown (mvT hZ (hw _ (List.mem_of_getElem? (i := 138) rfl))) (mvT hZ (hw _ (List.mem_of_getElem? (i := 139) rfl))) (mvT hZ (hw _ (List.mem_of_getElem? (i := 82) rfl))) (mvT hZ (hw _ (List.mem_of_getElem? (i := 140) rfl))) (by decide) (Jvm.Free.Fl.Abs.maxD_pays (len := 3) (W := 1) (4607182418800017408 : UInt64) (Native.java_lang_Math.nans.pick64 false (4746794007244308480 : UInt64) (own_cut (FP.ddiv (FP.dmul (4636737291354636288 : UInt64) (FP.i2d (1 : Int32))) (4620130267728707584 : UInt64)))) (mvT hZ (hw _ (List.mem_of_getElem? (i := 140) rfl))) (by decide) (by decide)) (g := (mkF m 60 #[.val (.ref a1), .val (.ref a2)] [(.double (Native.java_lang_Math.nans.pick64 false (4746794007244308480 : UInt64) (own_cut (FP.ddiv (FP.dmul (4636737291354636288 : UInt64) (FP.i2d (1 : Int32))) (4620130267728707584 : UInt64))))), (.double (4607182418800017408 : UInt64)), (.ref a1)])) rfl (by rw [hml]; rfl) (argsL := [(.double (4607182418800017408 : UInt64)), (.double (Native.java_lang_Math.nans.pick64 false (4746794007244308480 : UInt64) (own_cut (FP.ddiv (FP.dmul (4636737291354636288 : UInt64) (FP.i2d (1 : Int32))) (4620130267728707584 : UInt64)))))]) (rest := [(.ref a1)]) (lenOf pd_oDDcD rfl) rfl (by show 2 * 0 + _ ≤ _; exact Nat.le_of_eq rfl) (hb hby d3_60) (fun _ _ => ⟨(by decide : 1 ≤ _), (by decide : 3 ≤ _), rfl, own_no, own_np⟩)
  dsimp only [Pt.U, Pt.locs, Pt.cells, Pt.slots] at X39 st39
  obtain ⟨T39, gT39⟩ : ∃ t, t = T38.setVm vm39 := ⟨_, rfl⟩
  rw [← gT39] at X39 st39
  have e39 : T39.heap = h27 := by rw [gT39]; exact e38
  refine Go.adv st39 ?_
  show Go p.tables e below s _ _ _ (T39.setTop (mkF m 63 #[.val (.ref a1), .val (.ref a2)] [(.double (Native.java_lang_Math.nans.pick64 true (4607182418800017408 : UInt64) (Native.java_lang_Math.nans.pick64 false (4746794007244308480 : UInt64) (own_cut (FP.ddiv (FP.dmul (4636737291354636288 : UInt64) (FP.i2d (1 : Int32))) (4620130267728707584 : UInt64)))))), (.ref a1)]))
  have sg40 : ∀ t, Steps p.tables e below (T39.setTop (mkF m 64 #[.val (.ref a1), .val (.ref a2)] [(.int (FP.d2i (Native.java_lang_Math.nans.pick64 true (4607182418800017408 : UInt64) (Native.java_lang_Math.nans.pick64 false (4746794007244308480 : UInt64) (own_cut (FP.ddiv (FP.dmul (4636737291354636288 : UInt64) (FP.i2d (1 : Int32))) (4620130267728707584 : UInt64))))))), (.ref a1)])) t → Steps p.tables e below (T39.setTop (mkF m 63 #[.val (.ref a1), .val (.ref a2)] [(.double (Native.java_lang_Math.nans.pick64 true (4607182418800017408 : UInt64) (Native.java_lang_Math.nans.pick64 false (4746794007244308480 : UInt64) (own_cut (FP.ddiv (FP.dmul (4636737291354636288 : UInt64) (FP.i2d (1 : Int32))) (4620130267728707584 : UInt64)))))), (.ref a1)])) t := by
    intro t kt
    show Steps p.tables e below (T39.setTop (mkF m 63 #[.val (.ref a1), .val (.ref a2)] [(.double (Native.java_lang_Math.nans.pick64 true (4607182418800017408 : UInt64) (Native.java_lang_Math.nans.pick64 false (4746794007244308480 : UInt64) (own_cut (FP.ddiv (FP.dmul (4636737291354636288 : UInt64) (FP.i2d (1 : Int32))) (4620130267728707584 : UInt64)))))), (.ref a1)])) _
    refine own_d2i X39.here hx rfl (hb hby d3_63) rfl ?_
    exact kt
  refine Go.adv sg40 ?_
  have f41 := ((((((F_storage_a1.ext E4).keep Kc9 (ninS ne_a1_b4 nin0)).other W12 (Or.inr (slot_ne (Or.inr (hw _ (List.mem_of_getElem? (i := 142) rfl))) (Or.inr (hw _ (List.mem_of_getElem? (i := 68) rfl))) (by decide) (t := .int) (t' := (.object "java/util/List")) (by decide) (by decide)))).other W16 (Or.inr (slot_ne (Or.inr (hw _ (List.mem_of_getElem? (i := 142) rfl))) (Or.inl (hw _ (List.mem_of_getElem? (i := 71) rfl))) (by decide) (t := .int) (t' := .long) (by decide) (by decide)))).other W20 (Or.inr (slot_ne (Or.inr (hw _ (List.mem_of_getElem? (i := 142) rfl))) (Or.inr (hw _ (List.mem_of_getElem? (i := 73) rfl))) (by decide) (t := .int) (t' := (.object "com/example/nudged_routes/nudgedroutes/network/Link")) (by decide) (by decide)))).other W27 (Or.inr (slot_ne (Or.inr (hw _ (List.mem_of_getElem? (i := 142) rfl))) (Or.inr (hw _ (List.mem_of_getElem? (i := 100) rfl))) (by decide) (t := .int) (t' := .int) (by decide) (by decide))))
  have f42 := (f26.wr W27)
  obtain ⟨T43, h43, X43, e43, W43, st43⟩ := putF X39 hx hZ hown (host := "") (Or.inl (hw _ (List.mem_of_getElem? (i := 141) rfl))) Via.refl e39 f41 f42 (Or.inr ⟨(hw _ (List.mem_of_getElem? (i := 142) rfl)), rfl, hnm⟩) (hw _ (List.mem_of_getElem? (i := 37) rfl)) (ty := .int) (by decide) rfl rfl (g := (mkF m 64 #[.val (.ref a1), .val (.ref a2)] [(.int (FP.d2i (Native.java_lang_Math.nans.pick64 true (4607182418800017408 : UInt64) (Native.java_lang_Math.nans.pick64 false (4746794007244308480 : UInt64) (own_cut (FP.ddiv (FP.dmul (4636737291354636288 : UInt64) (FP.i2d (1 : Int32))) (4620130267728707584 : UInt64))))))), (.ref a1)])) rfl rfl (hb hby d3_64)
  have Fw43 := f41.same W43
  have K43 : Keep h0 h43 [a1] := K27.wr W43 (Or.inl (List.mem_of_getElem? (i := 0) rfl))
  have Z43 : n0 ≤ h43.size := Nat.le_trans Z27 (Keep.of_wr W43).1
  have N43 := Fr.snoc X43 N34 g_a1
  refine Go.adv st43 ?_
  show Go p.tables e below s _ _ _ (T43.setTop (mkF m 67 #[.val (.ref a1), .val (.ref a2)] []))
  have sg44 : ∀ t, Steps p.tables e below (T43.setTop (mkF m 70 #[.val (.ref a1), .val (.ref a2)] [(.ref a2), (.long (1 : Int64)), (.ref a1)])) t → Steps p.tables e below (T43.setTop (mkF m 67 #[.val (.ref a1), .val (.ref a2)] [])) t := by
    intro t kt
    show Steps p.tables e below (T43.setTop (mkF m 67 #[.val (.ref a1), .val (.ref a2)] [])) _
    refine XS.aloadN X43.here hx rfl (hb hby d3_67) rfl rfl ?_
    show Steps p.tables e below (T43.setTop (mkF m 68 #[.val (.ref a1), .val (.ref a2)] [(.ref a1)])) _
    refine XS.lconst X43.here hx rfl (hb hby d3_68) ?_
    show Steps p.tables e below (T43.setTop (mkF m 69 #[.val (.ref a1), .val (.ref a2)] [(.long (1 : Int64)), (.ref a1)])) _
    refine XS.aloadN X43.here hx rfl (hb hby d3_69) rfl rfl ?_
    exact kt
  refine Go.adv sg44 ?_
  have f45 := (((((((F_capacityVph_a2.ext E4).keep Kc9 (ninS ne_a2_b4 nin0)).other W12 (Or.inl hne)).other W16 (Or.inl hne)).other W20 (Or.inl hne)).other W27 (Or.inl hne)).other W43 (Or.inl hne))
  have f47 := (f31.wr W43)
  obtain ⟨cq46, kq46, q46a, q46b, q46c⟩ := isOf hZ e43 f47
  obtain ⟨_, _, ⟨T46, L46, k46, n46⟩, -, X46, ⟨Lc46, hQ46, l46, y46, z46⟩, st46⟩ := X43.virtualBack hx (y := (⟨"com/example/nudged_routes/nudgedroutes/network/Link", "capacityVph", "()D"⟩ : MethodName)) (z := (⟨"com/example/nudged_routes/nudgedroutes/network/Link", "capacityVph", "()D"⟩ : MethodName)) hown (mvT hZ (hw _ (List.mem_of_getElem? (i := 143) rfl))) (mvT hZ (hw _ (List.mem_of_getElem? (i := 144) rfl))) (notFace_of_selects (args := #[]) (mvT hZ (hw _ (List.mem_of_getElem? (i := 146) rfl)))) (mvT hZ (hw _ (List.mem_of_getElem? (i := 146) rfl))) (mvT hZ (hw _ (List.mem_of_getElem? (i := 145) rfl))) (by decide) (backOf (W := 3) (rm_cap l Z a0 hw [] a2 (4655631299166339072 : UInt64) h43 n0 Z43 f45) hZ (hw _ (List.mem_of_getElem? (i := 147) rfl)) (hw _ (List.mem_of_getElem? (i := 2) rfl)) (by decide) (by decide)) q46a q46c (g := (mkF m 70 #[.val (.ref a1), .val (.ref a2)] [(.ref a2), (.long (1 : Int64)), (.ref a1)])) rfl (by rw [hml]; rfl) (Steps.refl _) (argsL := []) (rest := [(.long (1 : Int64)), (.ref a1)]) (lenOf pd_ocD rfl) rfl (by show 2 * 0 + _ ≤ _; exact Nat.le_of_eq rfl) (hb hby d3_70) (fun _ _ => ⟨rfl, e43, (by decide : 1 + 0 ≤ _), (by decide : 3 + 0 ≤ _)⟩)
  dsimp only [Pt.U, Pt.locs, Pt.cells, Pt.slots] at X46 l46 y46 z46 st46 hQ46
  subst l46 y46 z46
  obtain ⟨rfl, N46q, e46⟩ := hQ46
  have N46 := Fr.app N43 N46q
  refine Go.tr st46 ?_
  show Go p.tables e below s _ _ _ (T46.setTop (mkF m 73 #[.val (.ref a1), .val (.ref a2)] [(.double (4655631299166339072 : UInt64)), (.long (1 : Int64)), (.ref a1)]))
  obtain ⟨_, _, ⟨T48, L48, k48, n48⟩, -, X48, ⟨Lc48, hQ48, l48, y48, z48⟩, st48⟩ := Jvm.LawKit.callS X46 hx (y := (⟨"com/example/nudged_routes/nudgedroutes/simulation/LinkQueue", "thousandthsPerSecond", "(D)J"⟩ : MethodName)) hown (mvT hZ (hw _ (List.mem_of_getElem? (i := 148) rfl))) (mvT hZ (hw _ (List.mem_of_getElem? (i := 149) rfl))) (mvT hZ (hw _ (List.mem_of_getElem? (i := 38) rfl))) (mvT hZ (hw _ (List.mem_of_getElem? (i := 150) rfl))) (by decide) (backOf (W := 3) (rm_thou l Z a0 hw []   h43 n0 Z43 ) hZ (hw _ (List.mem_of_getElem? (i := 150) rfl)) (hw _ (List.mem_of_getElem? (i := 38) rfl)) (by decide) (by decide)) (g := (mkF m 73 #[.val (.ref a1), .val (.ref a2)] [(.double (4655631299166339072 : UInt64)), (.long (1 : Int64)), (.ref a1)])) rfl (by rw [hml]; rfl) (argsL := [(.double (4655631299166339072 : UInt64))]) (rest := [(.long (1 : Int64)), (.ref a1)]) (lenOf pd_oDcJ rfl) rfl (by show 2 * 0 + _ ≤ _; exact Nat.le_of_eq rfl) (hb hby d3_73) (fun _ _ => ⟨rfl, e46, (by decide : 1 + 0 ≤ _), (by decide : 3 + 0 ≤ _)⟩)
  dsimp only [Pt.U, Pt.locs, Pt.cells, Pt.slots] at X48 l48 y48 z48 st48 hQ48
  subst l48 y48 z48
  obtain ⟨rfl, N48q, e48⟩ := hQ48
  have N48 := Fr.app N46 N48q
  refine Go.adv st48 ?_
  show Go p.tables e below s _ _ _ (T48.setTop (mkF m 76 #[.val (.ref a1), .val (.ref a2)] [(.long (own_minJ (2305843009213693951 : Int64) (own_round (FP.dmul (4655631299166339072 : UInt64) (4652007308841189376 : UInt64))))), (.long (1 : Int64)), (.ref a1)]))
  obtain ⟨_, _, ⟨T49, L49, k49, n49⟩, -, X49, ⟨Lc49, hQ49, l49, y49, z49⟩, st49⟩ := Jvm.LawKit.callS X48 hx (y := (⟨"java/lang/Math", "max", "(JJ)J"⟩ : MethodName)) hown (mvT hZ (hw _ (List.mem_of_getElem? (i := 155) rfl))) (mvT hZ (hw _ (List.mem_of_getElem? (i := 97) rfl))) (mvT hZ (hw _ (List.mem_of_getElem? (i := 82) rfl))) (mvT hZ (hw _ (List.mem_of_getElem? (i := 98) rfl))) (by decide) (backOf (W := 1) (rm_maxJ l Z a0 hw [] (1 : Int64) (own_minJ (2305843009213693951 : Int64) (own_round (FP.dmul (4655631299166339072 : UInt64) (4652007308841189376 : UInt64))))  h43 n0 Z43 ) hZ (hw _ (List.mem_of_getElem? (i := 98) rfl)) (hw _ (List.mem_of_getElem? (i := 82) rfl)) (by decide) (by decide)) (g := (mkF m 76 #[.val (.ref a1), .val (.ref a2)] [(.long (own_minJ (2305843009213693951 : Int64) (own_round (FP.dmul (4655631299166339072 : UInt64) (4652007308841189376 : UInt64))))), (.long (1 : Int64)), (.ref a1)])) rfl (by rw [hml]; rfl) (argsL := [(.long (1 : Int64)), (.long (own_minJ (2305843009213693951 : Int64) (own_round (FP.dmul (4655631299166339072 : UInt64) (4652007308841189376 : UInt64)))))]) (rest := [(.ref a1)]) (lenOf pd_oJJcJ rfl) rfl (by show 2 * 0 + _ ≤ _; exact Nat.le_of_eq rfl) (hb hby d3_76) (fun _ _ => ⟨rfl, e48, (by decide : 1 + 0 ≤ _), (by decide : 3 + 0 ≤ _)⟩)
  dsimp only [Pt.U, Pt.locs, Pt.cells, Pt.slots] at X49 l49 y49 z49 st49 hQ49
  subst l49 y49 z49
  obtain ⟨rfl, N49q, e49⟩ := hQ49
  have N49 := Fr.app N48 N49q
  refine Go.adv st49 ?_
  show Go p.tables e below s _ _ _ (T49.setTop (mkF m 79 #[.val (.ref a1), .val (.ref a2)] [(.long (own_maxJ (1 : Int64) (own_minJ (2305843009213693951 : Int64) (own_round (FP.dmul (4655631299166339072 : UInt64) (4652007308841189376 : UInt64)))))), (.ref a1)]))
  have f50 := (((((((F_earnedPerSecond_a1.ext E4).keep Kc9 (ninS ne_a1_b4 nin0)).other W12 (Or.inr (slot_ne (Or.inr (hw _ (List.mem_of_getElem? (i := 157) rfl))) (Or.inr (hw _ (List.mem_of_getElem? (i := 68) rfl))) (by decide) (t := .long) (t' := (.object "java/util/List")) (by decide) (by decide)))).other W16 (Or.inr (slot_ne (Or.inr (hw _ (List.mem_of_getElem? (i := 157) rfl))) (Or.inl (hw _ (List.mem_of_getElem? (i := 71) rfl))) (by decide) (t := .long) (t' := .long) (by decide) (by decide)))).other W20 (Or.inr (slot_ne (Or.inr (hw _ (List.mem_of_getElem? (i := 157) rfl))) (Or.inr (hw _ (List.mem_of_getElem? (i := 73) rfl))) (by decide) (t := .long) (t' := (.object "com/example/nudged_routes/nudgedroutes/network/Link")) (by decide) (by decide)))).other W27 (Or.inr (slot_ne (Or.inr (hw _ (List.mem_of_getElem? (i := 157) rfl))) (Or.inr (hw _ (List.mem_of_getElem? (i := 100) rfl))) (by decide) (t := .long) (t' := .int) (by decide) (by decide)))).other W43 (Or.inr (slot_ne (Or.inr (hw _ (List.mem_of_getElem? (i := 157) rfl))) (Or.inr (hw _ (List.mem_of_getElem? (i := 142) rfl))) (by decide) (t := .long) (t' := .int) (by decide) (by decide))))
  have f51 := (f42.wr W43)
  obtain ⟨T52, h52, X52, e52, W52, st52⟩ := putF X49 hx hZ hown (host := "") (Or.inl (hw _ (List.mem_of_getElem? (i := 156) rfl))) Via.refl e49 f50 f51 (Or.inr ⟨(hw _ (List.mem_of_getElem? (i := 157) rfl)), rfl, hnm⟩) (hw _ (List.mem_of_getElem? (i := 37) rfl)) (ty := .long) (by decide) rfl rfl (g := (mkF m 79 #[.val (.ref a1), .val (.ref a2)] [(.long (own_maxJ (1 : Int64) (own_minJ (2305843009213693951 : Int64) (own_round (FP.dmul (4655631299166339072 : UInt64) (4652007308841189376 : UInt64)))))), (.ref a1)])) rfl rfl (hb hby d3_79)
  have Fw52 := f50.same W52
  have K52 : Keep h0 h52 [a1] := K43.wr W52 (Or.inl (List.mem_of_getElem? (i := 0) rfl))
  have Z52 : n0 ≤ h52.size := Nat.le_trans Z43 (Keep.of_wr W52).1
  have N52 := Fr.snoc X52 N49 g_a1
  refine Go.adv st52 ?_
  show Go p.tables e below s _ _ _ (T52.setTop (mkF m 82 #[.val (.ref a1), .val (.ref a2)] []))
  have sg53 : ∀ t, Steps p.tables e below (T52.setTop (mkF m 83 #[.val (.ref a1), .val (.ref a2)] [(.ref a1)])) t → Steps p.tables e below (T52.setTop (mkF m 82 #[.val (.ref a1), .val (.ref a2)] [])) t := by
    intro t kt
    show Steps p.tables e below (T52.setTop (mkF m 82 #[.val (.ref a1), .val (.ref a2)] [])) _
    refine XS.aloadN X52.here hx rfl (hb hby d3_82) rfl rfl ?_
    exact kt
  refine Go.adv sg53 ?_
  obtain ⟨T54, h54, X54, e54, E54, A54, D54, -, st54⟩ := newO X52 hx hZ hown (hw _ (List.mem_of_getElem? (i := 158) rfl)) (hw _ (List.mem_of_getElem? (i := 159) rfl)) (hw _ (List.mem_of_getElem? (i := 160) rfl)) e52 (g := (mkF m 83 #[.val (.ref a1), .val (.ref a2)] [(.ref a1)])) rfl (hb hby d3_83) (by decide) (by decide)
  obtain ⟨b54, gb54⟩ : ∃ z, z = h52.size := ⟨_, rfl⟩
  rw [← gb54] at A54 D54 st54
  have g_b54 : n0 ≤ b54 := Nat.le_trans Z52 (Nat.le_of_eq gb54.symm)
  have sz_b54 : h0.size ≤ b54 := Nat.le_trans K52.1 (Nat.le_of_eq gb54.symm)
  have f55 := (f51.wr W52)
  have ne_a1_b54 : a1 ≠ b54 := Nat.ne_of_lt (Nat.lt_of_lt_of_le f55.lt (Nat.le_of_eq gb54.symm))
  have f56 := (f47.wr W52)
  have ne_a2_b54 : a2 ≠ b54 := Nat.ne_of_lt (Nat.lt_of_lt_of_le f56.lt (Nat.le_of_eq gb54.symm))
  have f57 := ((((((p9_0.wr W12).wr W16).wr W20).wr W27).wr W43).wr W52)
  have ne_b4_b54 : b4 ≠ b54 := Nat.ne_of_lt (Nat.lt_of_lt_of_le f57.lt (Nat.le_of_eq gb54.symm))
  have K54 : Keep h0 h54 [a1] := K52.ext E54
  have Z54 : n0 ≤ h54.size := Nat.le_trans Z52 E54.1
  have F_elements_b54 : Fld Z h54 b54 "java/util/ArrayDeque" "elements" "[Ljava/lang/Object;" .null := D54 (Or.inl (hw _ (List.mem_of_getElem? (i := 169) rfl))) (ty := (.array (.object "java/lang/Object"))) (by decide)
  refine Go.adv st54 ?_
  show Go p.tables e below s _ _ _ (T54.setTop (mkF m 86 #[.val (.ref a1), .val (.ref a2)] [(.ref b54), (.ref a1)]))
  have sg58 : ∀ t, Steps p.tables e below (T54.setTop (mkF m 87 #[.val (.ref a1), .val (.ref a2)] [(.ref b54), (.ref b54), (.ref a1)])) t → Steps p.tables e below (T54.setTop (mkF m 86 #[.val (.ref a1), .val (.ref a2)] [(.ref b54), (.ref a1)])) t := by
    intro t kt
    show Steps p.tables e below (T54.setTop (mkF m 86 #[.val (.ref a1), .val (.ref a2)] [(.ref b54), (.ref a1)])) _
    refine XS.dup X54.here hx rfl (hb hby d3_86) rfl rfl ?_
    exact kt
  refine Go.adv sg58 ?_
  have f59 := (((((((s9_DEFAULTCAPACITY_EMPTY_ELEMENTDATA.wr W12).wr W16).wr W20).wr W27).wr W43).wr W52).ext E54)
  have f60 := (((((((s9_EMPTY_ITERATOR.wr W12).wr W16).wr W20).wr W27).wr W43).wr W52).ext E54)
  have f61 := (((f36.wr W43).wr W52).ext E54)
  obtain ⟨_, _, ⟨T62, L62, k62, n62⟩, -, X62, ⟨Lc62, hQ62, l62, y62, z62⟩, st62⟩ := X54.specialBack hx (y := (⟨"java/util/ArrayDeque", "<init>", "()V"⟩ : MethodName)) rfl hown (mvT hZ (hw _ (List.mem_of_getElem? (i := 161) rfl))) (mvT hZ (hw _ (List.mem_of_getElem? (i := 162) rfl))) (mvT hZ (hw _ (List.mem_of_getElem? (i := 163) rfl))) (by decide) (backOf (W := 2) (rm_ad l Z a0 hw [] b54 (.null) h54 n0 Z54 A54 g_b54 F_elements_b54) hZ (hw _ (List.mem_of_getElem? (i := 163) rfl)) (hw _ (List.mem_of_getElem? (i := 160) rfl)) (by decide) (by decide)) (g := (mkF m 87 #[.val (.ref a1), .val (.ref a2)] [(.ref b54), (.ref b54), (.ref a1)])) rfl (by rw [hml]; rfl) (Steps.refl _) (a := b54) (argsL := []) (rest := [(.ref b54), (.ref a1)]) (lenOf pd_ocV rfl) rfl (by show 2 * 0 + _ ≤ _; exact Nat.le_of_eq rfl) (hb hby d3_87) (fun _ _ => ⟨rfl, e54, (by decide : 2 + 1 ≤ _), (by decide : 6 + 17 ≤ _)⟩)
  dsimp only [Pt.U, Pt.locs, Pt.cells, Pt.slots] at X62 l62 y62 z62 st62 hQ62
  subst l62 y62 z62
  obtain ⟨rfl, N62q, Kc62, p62_0⟩ := hQ62
  have N62 := Fr.app N52 N62q
  have s62_DEFAULTCAPACITY_EMPTY_ELEMENTDATA := own_staKeep f59 Kc62 A54
  have s62_EMPTY_ITERATOR := own_staKeep f60 Kc62 A54
  have s62__assertionsDisabled := own_staKeep f61 Kc62 A54
  have K62 : Keep h0 T62.heap [a1] := K54.trans Kc62 (allS (Or.inr sz_b54) all0)
  have Z62 : n0 ≤ T62.heap.size := Nat.le_trans Z54 Kc62.1
  refine Go.tr st62 ?_
  show Go p.tables e below s _ _ _ (T62.setTop (mkF m 90 #[.val (.ref a1), .val (.ref a2)] [(.ref b54), (.ref a1)]))
  have f63 := ((((((((((F_onLink_a1.ext E4).keep Kc9 (ninS ne_a1_b4 nin0)).other W12 (Or.inr (slot_ne (Or.inr (hw _ (List.mem_of_getElem? (i := 171) rfl))) (Or.inr (hw _ (List.mem_of_getElem? (i := 68) rfl))) (by decide) (t := (.object "java/util/ArrayDeque")) (t' := (.object "java/util/List")) (by decide) (by decide)))).other W16 (Or.inr (slot_ne (Or.inr (hw _ (List.mem_of_getElem? (i := 171) rfl))) (Or.inl (hw _ (List.mem_of_getElem? (i := 71) rfl))) (by decide) (t := (.object "java/util/ArrayDeque")) (t' := .long) (by decide) (by decide)))).other W20 (Or.inr (slot_ne (Or.inr (hw _ (List.mem_of_getElem? (i := 171) rfl))) (Or.inr (hw _ (List.mem_of_getElem? (i := 73) rfl))) (by decide) (t := (.object "java/util/ArrayDeque")) (t' := (.object "com/example/nudged_routes/nudgedroutes/network/Link")) (by decide) (by decide)))).other W27 (Or.inr (slot_ne (Or.inr (hw _ (List.mem_of_getElem? (i := 171) rfl))) (Or.inr (hw _ (List.mem_of_getElem? (i := 100) rfl))) (by decide) (t := (.object "java/util/ArrayDeque")) (t' := .int) (by decide) (by decide)))).other W43 (Or.inr (slot_ne (Or.inr (hw _ (List.mem_of_getElem? (i := 171) rfl))) (Or.inr (hw _ (List.mem_of_getElem? (i := 142) rfl))) (by decide) (t := (.object "java/util/ArrayDeque")) (t' := .int) (by decide) (by decide)))).other W52 (Or.inr (slot_ne (Or.inr (hw _ (List.mem_of_getElem? (i := 171) rfl))) (Or.inr (hw _ (List.mem_of_getElem? (i := 157) rfl))) (by decide) (t := (.object "java/util/ArrayDeque")) (t' := .long) (by decide) (by decide)))).ext E54).keep Kc62 (ninS ne_a1_b54 nin0))
  have f64 := ((f55.ext E54).keep Kc62)
  obtain ⟨T65, h65, X65, e65, W65, st65⟩ := putF X62 hx hZ hown (host := "") (Or.inl (hw _ (List.mem_of_getElem? (i := 170) rfl))) Via.refl rfl f63 f64 (Or.inr ⟨(hw _ (List.mem_of_getElem? (i := 171) rfl)), rfl, hnm⟩) (hw _ (List.mem_of_getElem? (i := 37) rfl)) (ty := (.object "java/util/ArrayDeque")) (by decide) rfl rfl (g := (mkF m 90 #[.val (.ref a1), .val (.ref a2)] [(.ref b54), (.ref a1)])) rfl rfl (hb hby d3_90)
  have Fw65 := f63.same W65
  have K65 : Keep h0 h65 [a1] := K62.wr W65 (Or.inl (List.mem_of_getElem? (i := 0) rfl))
  have Z65 : n0 ≤ h65.size := Nat.le_trans Z62 (Keep.of_wr W65).1
  have N65 := Fr.snoc X65 N62 g_a1
  refine Go.adv st65 ?_
  show Go p.tables e below s _ _ _ (T65.setTop (mkF m 93 #[.val (.ref a1), .val (.ref a2)] []))
  have sg66 : ∀ t, Steps p.tables e below (T65.setTop (mkF m 94 #[.val (.ref a1), .val (.ref a2)] [(.ref a1)])) t → Steps p.tables e below (T65.setTop (mkF m 93 #[.val (.ref a1), .val (.ref a2)] [])) t := by
    intro t kt
    show Steps p.tables e below (T65.setTop (mkF m 93 #[.val (.ref a1), .val (.ref a2)] [])) _
    refine XS.aloadN X65.here hx rfl (hb hby d3_93) rfl rfl ?_
    exact kt
  refine Go.adv sg66 ?_
  obtain ⟨T67, h67, X67, e67, E67, A67, D67, -, st67⟩ := newO X65 hx hZ hown (hw _ (List.mem_of_getElem? (i := 158) rfl)) (hw _ (List.mem_of_getElem? (i := 159) rfl)) (hw _ (List.mem_of_getElem? (i := 160) rfl)) e65 (g := (mkF m 94 #[.val (.ref a1), .val (.ref a2)] [(.ref a1)])) rfl (hb hby d3_94) (by decide) (by decide)
  obtain ⟨b67, gb67⟩ : ∃ z, z = h65.size := ⟨_, rfl⟩
  rw [← gb67] at A67 D67 st67
  have g_b67 : n0 ≤ b67 := Nat.le_trans Z65 (Nat.le_of_eq gb67.symm)
  have sz_b67 : h0.size ≤ b67 := Nat.le_trans K65.1 (Nat.le_of_eq gb67.symm)
  have f68 := (f64.wr W65)
  have ne_a1_b67 : a1 ≠ b67 := Nat.ne_of_lt (Nat.lt_of_lt_of_le f68.lt (Nat.le_of_eq gb67.symm))
  have f69 := (((f56.ext E54).keep Kc62).wr W65)
  have ne_a2_b67 : a2 ≠ b67 := Nat.ne_of_lt (Nat.lt_of_lt_of_le f69.lt (Nat.le_of_eq gb67.symm))
  have f70 := (((f57.ext E54).keep Kc62).wr W65)
  have ne_b4_b67 : b4 ≠ b67 := Nat.ne_of_lt (Nat.lt_of_lt_of_le f70.lt (Nat.le_of_eq gb67.symm))
  have f71 := (p62_0.wr W65)
  have ne_b54_b67 : b54 ≠ b67 := Nat.ne_of_lt (Nat.lt_of_lt_of_le f71.lt (Nat.le_of_eq gb67.symm))
  have K67 : Keep h0 h67 [a1] := K65.ext E67
  have Z67 : n0 ≤ h67.size := Nat.le_trans Z65 E67.1
  have F_elements_b67 : Fld Z h67 b67 "java/util/ArrayDeque" "elements" "[Ljava/lang/Object;" .null := D67 (Or.inl (hw _ (List.mem_of_getElem? (i := 169) rfl))) (ty := (.array (.object "java/lang/Object"))) (by decide)
  refine Go.adv st67 ?_
  show Go p.tables e below s _ _ _ (T67.setTop (mkF m 97 #[.val (.ref a1), .val (.ref a2)] [(.ref b67), (.ref a1)]))
  have sg72 : ∀ t, Steps p.tables e below (T67.setTop (mkF m 98 #[.val (.ref a1), .val (.ref a2)] [(.ref b67), (.ref b67), (.ref a1)])) t → Steps p.tables e below (T67.setTop (mkF m 97 #[.val (.ref a1), .val (.ref a2)] [(.ref b67), (.ref a1)])) t := by
    intro t kt
    show Steps p.tables e below (T67.setTop (mkF m 97 #[.val (.ref a1), .val (.ref a2)] [(.ref b67), (.ref a1)])) _
    refine XS.dup X67.here hx rfl (hb hby d3_97) rfl rfl ?_
    exact kt
  refine Go.adv sg72 ?_
  have f73 := ((s62_DEFAULTCAPACITY_EMPTY_ELEMENTDATA.wr W65).ext E67)
  have f74 := ((s62_EMPTY_ITERATOR.wr W65).ext E67)
  have f75 := ((s62__assertionsDisabled.wr W65).ext E67)
  obtain ⟨_, _, ⟨T76, L76, k76, n76⟩, -, X76, ⟨Lc76, hQ76, l76, y76, z76⟩, st76⟩ := X67.specialBack hx (y := (⟨"java/util/ArrayDeque", "<init>", "()V"⟩ : MethodName)) rfl hown (mvT hZ (hw _ (List.mem_of_getElem? (i := 161) rfl))) (mvT hZ (hw _ (List.mem_of_getElem? (i := 162) rfl))) (mvT hZ (hw _ (List.mem_of_getElem? (i := 163) rfl))) (by decide) (backOf (W := 2) (rm_ad l Z a0 hw [] b67 (.null) h67 n0 Z67 A67 g_b67 F_elements_b67) hZ (hw _ (List.mem_of_getElem? (i := 163) rfl)) (hw _ (List.mem_of_getElem? (i := 160) rfl)) (by decide) (by decide)) (g := (mkF m 98 #[.val (.ref a1), .val (.ref a2)] [(.ref b67), (.ref b67), (.ref a1)])) rfl (by rw [hml]; rfl) (Steps.refl _) (a := b67) (argsL := []) (rest := [(.ref b67), (.ref a1)]) (lenOf pd_ocV rfl) rfl (by show 2 * 0 + _ ≤ _; exact Nat.le_of_eq rfl) (hb hby d3_98) (fun _ _ => ⟨rfl, e67, (by decide : 4 + 1 ≤ _), (by decide : 26 + 17 ≤ _)⟩)
  dsimp only [Pt.U, Pt.locs, Pt.cells, Pt.slots] at X76 l76 y76 z76 st76 hQ76
  subst l76 y76 z76
  obtain ⟨rfl, N76q, Kc76, p76_0⟩ := hQ76
  have N76 := Fr.app N65 N76q
  have s76_DEFAULTCAPACITY_EMPTY_ELEMENTDATA := own_staKeep f73 Kc76 A67
  have s76_EMPTY_ITERATOR := own_staKeep f74 Kc76 A67
  have s76__assertionsDisabled := own_staKeep f75 Kc76 A67
  have K76 : Keep h0 T76.heap [a1] := K67.trans Kc76 (allS (Or.inr sz_b67) all0)
  have Z76 : n0 ≤ T76.heap.size := Nat.le_trans Z67 Kc76.1
  refine Go.tr st76 ?_
  show Go p.tables e below s _ _ _ (T76.setTop (mkF m 101 #[.val (.ref a1), .val (.ref a2)] [(.ref b67), (.ref a1)]))
  have f77 := (((((((((((((F_waitingOnLinks_a1.ext E4).keep Kc9 (ninS ne_a1_b4 nin0)).other W12 (Or.inr (slot_ne (Or.inr (hw _ (List.mem_of_getElem? (i := 173) rfl))) (Or.inr (hw _ (List.mem_of_getElem? (i := 68) rfl))) (by decide) (t := (.object "java/util/ArrayDeque")) (t' := (.object "java/util/List")) (by decide) (by decide)))).other W16 (Or.inr (slot_ne (Or.inr (hw _ (List.mem_of_getElem? (i := 173) rfl))) (Or.inl (hw _ (List.mem_of_getElem? (i := 71) rfl))) (by decide) (t := (.object "java/util/ArrayDeque")) (t' := .long) (by decide) (by decide)))).other W20 (Or.inr (slot_ne (Or.inr (hw _ (List.mem_of_getElem? (i := 173) rfl))) (Or.inr (hw _ (List.mem_of_getElem? (i := 73) rfl))) (by decide) (t := (.object "java/util/ArrayDeque")) (t' := (.object "com/example/nudged_routes/nudgedroutes/network/Link")) (by decide) (by decide)))).other W27 (Or.inr (slot_ne (Or.inr (hw _ (List.mem_of_getElem? (i := 173) rfl))) (Or.inr (hw _ (List.mem_of_getElem? (i := 100) rfl))) (by decide) (t := (.object "java/util/ArrayDeque")) (t' := .int) (by decide) (by decide)))).other W43 (Or.inr (slot_ne (Or.inr (hw _ (List.mem_of_getElem? (i := 173) rfl))) (Or.inr (hw _ (List.mem_of_getElem? (i := 142) rfl))) (by decide) (t := (.object "java/util/ArrayDeque")) (t' := .int) (by decide) (by decide)))).other W52 (Or.inr (slot_ne (Or.inr (hw _ (List.mem_of_getElem? (i := 173) rfl))) (Or.inr (hw _ (List.mem_of_getElem? (i := 157) rfl))) (by decide) (t := (.object "java/util/ArrayDeque")) (t' := .long) (by decide) (by decide)))).ext E54).keep Kc62 (ninS ne_a1_b54 nin0)).other W65 (Or.inr (slot_ne (Or.inr (hw _ (List.mem_of_getElem? (i := 173) rfl))) (Or.inr (hw _ (List.mem_of_getElem? (i := 171) rfl))) (by decide) (t := (.object "java/util/ArrayDeque")) (t' := (.object "java/util/ArrayDeque")) (by decide) (by decide)))).ext E67).keep Kc76 (ninS ne_a1_b67 nin0))
  have f78 := ((f68.ext E67).keep Kc76)
  obtain ⟨T79, h79, X79, e79, W79, st79⟩ := putF X76 hx hZ hown (host := "") (Or.inl (hw _ (List.mem_of_getElem? (i := 172) rfl))) Via.refl rfl f77 f78 (Or.inr ⟨(hw _ (List.mem_of_getElem? (i := 173) rfl)), rfl, hnm⟩) (hw _ (List.mem_of_getElem? (i := 37) rfl)) (ty := (.object "java/util/ArrayDeque")) (by decide) rfl rfl (g := (mkF m 101 #[.val (.ref a1), .val (.ref a2)] [(.ref b67), (.ref a1)])) rfl rfl (hb hby d3_101)
  have Fw79 := f77.same W79
  have K79 : Keep h0 h79 [a1] := K76.wr W79 (Or.inl (List.mem_of_getElem? (i := 0) rfl))
  have Z79 : n0 ≤ h79.size := Nat.le_trans Z76 (Keep.of_wr W79).1
  have N79 := Fr.snoc X79 N76 g_a1
  refine Go.adv st79 ?_
  show Go p.tables e below s _ _ _ (T79.setTop (mkF m 104 #[.val (.ref a1), .val (.ref a2)] []))
  have sg80 : ∀ t, Steps p.tables e below (T79.setTop (mkF m 105 #[.val (.ref a1), .val (.ref a2)] [(.ref a1)])) t → Steps p.tables e below (T79.setTop (mkF m 104 #[.val (.ref a1), .val (.ref a2)] [])) t := by
    intro t kt
    show Steps p.tables e below (T79.setTop (mkF m 104 #[.val (.ref a1), .val (.ref a2)] [])) _
    refine XS.aloadN X79.here hx rfl (hb hby d3_104) rfl rfl ?_
    exact kt
  refine Go.adv sg80 ?_
  obtain ⟨T81, h81, X81, e81, E81, A81, D81, -, st81⟩ := newO X79 hx hZ hown (hw _ (List.mem_of_getElem? (i := 174) rfl)) (hw _ (List.mem_of_getElem? (i := 175) rfl)) (hw _ (List.mem_of_getElem? (i := 176) rfl)) e79 (g := (mkF m 105 #[.val (.ref a1), .val (.ref a2)] [(.ref a1)])) rfl (hb hby d3_105) (by decide) (by decide)
  obtain ⟨b81, gb81⟩ : ∃ z, z = h79.size := ⟨_, rfl⟩
  rw [← gb81] at A81 D81 st81
  have g_b81 : n0 ≤ b81 := Nat.le_trans Z79 (Nat.le_of_eq gb81.symm)
  have sz_b81 : h0.size ≤ b81 := Nat.le_trans K79.1 (Nat.le_of_eq gb81.symm)
  have f82 := (f78.wr W79)
  have ne_a1_b81 : a1 ≠ b81 := Nat.ne_of_lt (Nat.lt_of_lt_of_le f82.lt (Nat.le_of_eq gb81.symm))
  have f83 := (((f69.ext E67).keep Kc76).wr W79)
  have ne_a2_b81 : a2 ≠ b81 := Nat.ne_of_lt (Nat.lt_of_lt_of_le f83.lt (Nat.le_of_eq gb81.symm))
  have f84 := (((f70.ext E67).keep Kc76).wr W79)
  have ne_b4_b81 : b4 ≠ b81 := Nat.ne_of_lt (Nat.lt_of_lt_of_le f84.lt (Nat.le_of_eq gb81.symm))
  have f85 := (((f71.ext E67).keep Kc76).wr W79)
  have ne_b54_b81 : b54 ≠ b81 := Nat.ne_of_lt (Nat.lt_of_lt_of_le f85.lt (Nat.le_of_eq gb81.symm))
  have f86 := (p76_0.wr W79)
  have ne_b67_b81 : b67 ≠ b81 := Nat.ne_of_lt (Nat.lt_of_lt_of_le f86.lt (Nat.le_of_eq gb81.symm))
  have K81 : Keep h0 h81 [a1] := K79.ext E81
  have Z81 : n0 ≤ h81.size := Nat.le_trans Z79 E81.1
  have F_joined_b81 : Fld Z h81 b81 "com/example/nudged_routes/nudgedroutes/simulation/LinkQueue$OriginLine" "joined" "Ljava/util/ArrayDeque;" .null := D81 (Or.inr (hw _ (List.mem_of_getElem? (i := 184) rfl))) (ty := (.object "java/util/ArrayDeque")) (by decide)
  have F_inherited_b81 : Fld Z h81 b81 "com/example/nudged_routes/nudgedroutes/simulation/LinkQueue$OriginLine" "inherited" "Ljava/util/Iterator;" .null := D81 (Or.inr (hw _ (List.mem_of_getElem? (i := 192) rfl))) (ty := (.object "java/util/Iterator")) (by decide)
  refine Go.adv st81 ?_
  show Go p.tables e below s _ _ _ (T81.setTop (mkF m 108 #[.val (.ref a1), .val (.ref a2)] [(.ref b81), (.ref a1)]))
  have sg87 : ∀ t, Steps p.tables e below (T81.setTop (mkF m 109 #[.val (.ref a1), .val (.ref a2)] [(.ref b81), (.ref b81), (.ref a1)])) t → Steps p.tables e below (T81.setTop (mkF m 108 #[.val (.ref a1), .val (.ref a2)] [(.ref b81), (.ref a1)])) t := by
    intro t kt
    show Steps p.tables e below (T81.setTop (mkF m 108 #[.val (.ref a1), .val (.ref a2)] [(.ref b81), (.ref a1)])) _
    refine XS.dup X81.here hx rfl (hb hby d3_108) rfl rfl ?_
    exact kt
  refine Go.adv sg87 ?_
  have f88 := ((s76_EMPTY_ITERATOR.wr W79).ext E81)
  have f89 := ((s76_DEFAULTCAPACITY_EMPTY_ELEMENTDATA.wr W79).ext E81)
  have f90 := ((s76__assertionsDisabled.wr W79).ext E81)
  obtain ⟨_, _, ⟨T91, L91, k91, n91⟩, -, X91, ⟨Lc91, hQ91, l91, y91, z91⟩, st91⟩ := X81.specialBack hx (y := (⟨"com/example/nudged_routes/nudgedroutes/simulation/LinkQueue$OriginLine", "<init>", "()V"⟩ : MethodName)) rfl hown (mvT hZ (hw _ (List.mem_of_getElem? (i := 177) rfl))) (mvT hZ (hw _ (List.mem_of_getElem? (i := 178) rfl))) (mvT hZ (hw _ (List.mem_of_getElem? (i := 179) rfl))) (by decide) (backOf (W := 2) (rm_ol l Z a0 hw [] b81 (.null) (.null) ei h81 n0 Z81 f88 A81 g_b81 F_joined_b81 F_inherited_b81) hZ (hw _ (List.mem_of_getElem? (i := 179) rfl)) (hw _ (List.mem_of_getElem? (i := 176) rfl)) (by decide) (by decide)) (g := (mkF m 109 #[.val (.ref a1), .val (.ref a2)] [(.ref b81), (.ref b81), (.ref a1)])) rfl (by rw [hml]; rfl) (Steps.refl _) (a := b81) (argsL := []) (rest := [(.ref b81), (.ref a1)]) (lenOf pd_ocV rfl) rfl (by show 2 * 0 + _ ≤ _; exact Nat.le_of_eq rfl) (hb hby d3_109) (fun _ _ => ⟨rfl, e81, (by decide : 6 + 2 ≤ _), (by decide : 46 + 20 ≤ _)⟩)
  dsimp only [Pt.U, Pt.locs, Pt.cells, Pt.slots] at X91 l91 y91 z91 st91 hQ91
  subst l91 y91 z91
  obtain ⟨rfl, N91q, Kc91, p91_0⟩ := hQ91
  have N91 := Fr.app N79 N91q
  have s91_DEFAULTCAPACITY_EMPTY_ELEMENTDATA := own_staKeep f89 Kc91 A81
  have s91_EMPTY_ITERATOR := own_staKeep f88 Kc91 A81
  have s91__assertionsDisabled := own_staKeep f90 Kc91 A81
  have K91 : Keep h0 T91.heap [a1] := K81.trans Kc91 (allS (Or.inr sz_b81) all0)
  have Z91 : n0 ≤ T91.heap.size := Nat.le_trans Z81 Kc91.1
  refine Go.tr st91 ?_
  show Go p.tables e below s _ _ _ (T91.setTop (mkF m 112 #[.val (.ref a1), .val (.ref a2)] [(.ref b81), (.ref a1)]))
  have f92 := ((((((((((((((((F_waitingAtOrigins_a1.ext E4).keep Kc9 (ninS ne_a1_b4 nin0)).other W12 (Or.inr (slot_ne (Or.inr (hw _ (List.mem_of_getElem? (i := 194) rfl))) (Or.inr (hw _ (List.mem_of_getElem? (i := 68) rfl))) (by decide) (t := (.object "com/example/nudged_routes/nudgedroutes/simulation/LinkQueue$OriginLine")) (t' := (.object "java/util/List")) (by decide) (by decide)))).other W16 (Or.inr (slot_ne (Or.inr (hw _ (List.mem_of_getElem? (i := 194) rfl))) (Or.inl (hw _ (List.mem_of_getElem? (i := 71) rfl))) (by decide) (t := (.object "com/example/nudged_routes/nudgedroutes/simulation/LinkQueue$OriginLine")) (t' := .long) (by decide) (by decide)))).other W20 (Or.inr (slot_ne (Or.inr (hw _ (List.mem_of_getElem? (i := 194) rfl))) (Or.inr (hw _ (List.mem_of_getElem? (i := 73) rfl))) (by decide) (t := (.object "com/example/nudged_routes/nudgedroutes/simulation/LinkQueue$OriginLine")) (t' := (.object "com/example/nudged_routes/nudgedroutes/network/Link")) (by decide) (by decide)))).other W27 (Or.inr (slot_ne (Or.inr (hw _ (List.mem_of_getElem? (i := 194) rfl))) (Or.inr (hw _ (List.mem_of_getElem? (i := 100) rfl))) (by decide) (t := (.object "com/example/nudged_routes/nudgedroutes/simulation/LinkQueue$OriginLine")) (t' := .int) (by decide) (by decide)))).other W43 (Or.inr (slot_ne (Or.inr (hw _ (List.mem_of_getElem? (i := 194) rfl))) (Or.inr (hw _ (List.mem_of_getElem? (i := 142) rfl))) (by decide) (t := (.object "com/example/nudged_routes/nudgedroutes/simulation/LinkQueue$OriginLine")) (t' := .int) (by decide) (by decide)))).other W52 (Or.inr (slot_ne (Or.inr (hw _ (List.mem_of_getElem? (i := 194) rfl))) (Or.inr (hw _ (List.mem_of_getElem? (i := 157) rfl))) (by decide) (t := (.object "com/example/nudged_routes/nudgedroutes/simulation/LinkQueue$OriginLine")) (t' := .long) (by decide) (by decide)))).ext E54).keep Kc62 (ninS ne_a1_b54 nin0)).other W65 (Or.inr (slot_ne (Or.inr (hw _ (List.mem_of_getElem? (i := 194) rfl))) (Or.inr (hw _ (List.mem_of_getElem? (i := 171) rfl))) (by decide) (t := (.object "com/example/nudged_routes/nudgedroutes/simulation/LinkQueue$OriginLine")) (t' := (.object "java/util/ArrayDeque")) (by decide) (by decide)))).ext E67).keep Kc76 (ninS ne_a1_b67 nin0)).other W79 (Or.inr (slot_ne (Or.inr (hw _ (List.mem_of_getElem? (i := 194) rfl))) (Or.inr (hw _ (List.mem_of_getElem? (i := 173) rfl))) (by decide) (t := (.object "com/example/nudged_routes/nudgedroutes/simulation/LinkQueue$OriginLine")) (t' := (.object "java/util/ArrayDeque")) (by decide) (by decide)))).ext E81).keep Kc91 (ninS ne_a1_b81 nin0))
  have f93 := ((f82.ext E81).keep Kc91)
  obtain ⟨T94, h94, X94, e94, W94, st94⟩ := putF X91 hx hZ hown (host := "") (Or.inl (hw _ (List.mem_of_getElem? (i := 193) rfl))) Via.refl rfl f92 f93 (Or.inr ⟨(hw _ (List.mem_of_getElem? (i := 194) rfl)), rfl, hnm⟩) (hw _ (List.mem_of_getElem? (i := 37) rfl)) (ty := (.object "com/example/nudged_routes/nudgedroutes/simulation/LinkQueue$OriginLine")) (by decide) rfl rfl (g := (mkF m 112 #[.val (.ref a1), .val (.ref a2)] [(.ref b81), (.ref a1)])) rfl rfl (hb hby d3_112)
  have Fw94 := f92.same W94
  have K94 : Keep h0 h94 [a1] := K91.wr W94 (Or.inl (List.mem_of_getElem? (i := 0) rfl))
  have Z94 : n0 ≤ h94.size := Nat.le_trans Z91 (Keep.of_wr W94).1
  have N94 := Fr.snoc X94 N91 g_a1
  refine Go.adv st94 ?_
  show Go p.tables e below s _ _ _ (T94.setTop (mkF m 115 #[.val (.ref a1), .val (.ref a2)] []))
  have sg95 : ∀ t, Steps p.tables e below (T94.setTop (mkF m 117 #[.val (.ref a1), .val (.ref a2)] [.null, (.ref a1)])) t → Steps p.tables e below (T94.setTop (mkF m 115 #[.val (.ref a1), .val (.ref a2)] [])) t := by
    intro t kt
    show Steps p.tables e below (T94.setTop (mkF m 115 #[.val (.ref a1), .val (.ref a2)] [])) _
    refine XS.aloadN X94.here hx rfl (hb hby d3_115) rfl rfl ?_
    show Steps p.tables e below (T94.setTop (mkF m 116 #[.val (.ref a1), .val (.ref a2)] [(.ref a1)])) _
    refine XS.aconstNull X94.here hx rfl (hb hby d3_116) ?_
    exact kt
  refine Go.adv sg95 ?_
  have f96 := (((((((((((((((((F_copies_a1.ext E4).keep Kc9 (ninS ne_a1_b4 nin0)).other W12 (Or.inr (slot_ne (Or.inr (hw _ (List.mem_of_getElem? (i := 196) rfl))) (Or.inr (hw _ (List.mem_of_getElem? (i := 68) rfl))) (by decide) (t := (.object "com/example/nudged_routes/nudgedroutes/simulation/DayCopies")) (t' := (.object "java/util/List")) (by decide) (by decide)))).other W16 (Or.inr (slot_ne (Or.inr (hw _ (List.mem_of_getElem? (i := 196) rfl))) (Or.inl (hw _ (List.mem_of_getElem? (i := 71) rfl))) (by decide) (t := (.object "com/example/nudged_routes/nudgedroutes/simulation/DayCopies")) (t' := .long) (by decide) (by decide)))).other W20 (Or.inr (slot_ne (Or.inr (hw _ (List.mem_of_getElem? (i := 196) rfl))) (Or.inr (hw _ (List.mem_of_getElem? (i := 73) rfl))) (by decide) (t := (.object "com/example/nudged_routes/nudgedroutes/simulation/DayCopies")) (t' := (.object "com/example/nudged_routes/nudgedroutes/network/Link")) (by decide) (by decide)))).other W27 (Or.inr (slot_ne (Or.inr (hw _ (List.mem_of_getElem? (i := 196) rfl))) (Or.inr (hw _ (List.mem_of_getElem? (i := 100) rfl))) (by decide) (t := (.object "com/example/nudged_routes/nudgedroutes/simulation/DayCopies")) (t' := .int) (by decide) (by decide)))).other W43 (Or.inr (slot_ne (Or.inr (hw _ (List.mem_of_getElem? (i := 196) rfl))) (Or.inr (hw _ (List.mem_of_getElem? (i := 142) rfl))) (by decide) (t := (.object "com/example/nudged_routes/nudgedroutes/simulation/DayCopies")) (t' := .int) (by decide) (by decide)))).other W52 (Or.inr (slot_ne (Or.inr (hw _ (List.mem_of_getElem? (i := 196) rfl))) (Or.inr (hw _ (List.mem_of_getElem? (i := 157) rfl))) (by decide) (t := (.object "com/example/nudged_routes/nudgedroutes/simulation/DayCopies")) (t' := .long) (by decide) (by decide)))).ext E54).keep Kc62 (ninS ne_a1_b54 nin0)).other W65 (Or.inr (slot_ne (Or.inr (hw _ (List.mem_of_getElem? (i := 196) rfl))) (Or.inr (hw _ (List.mem_of_getElem? (i := 171) rfl))) (by decide) (t := (.object "com/example/nudged_routes/nudgedroutes/simulation/DayCopies")) (t' := (.object "java/util/ArrayDeque")) (by decide) (by decide)))).ext E67).keep Kc76 (ninS ne_a1_b67 nin0)).other W79 (Or.inr (slot_ne (Or.inr (hw _ (List.mem_of_getElem? (i := 196) rfl))) (Or.inr (hw _ (List.mem_of_getElem? (i := 173) rfl))) (by decide) (t := (.object "com/example/nudged_routes/nudgedroutes/simulation/DayCopies")) (t' := (.object "java/util/ArrayDeque")) (by decide) (by decide)))).ext E81).keep Kc91 (ninS ne_a1_b81 nin0)).other W94 (Or.inr (slot_ne (Or.inr (hw _ (List.mem_of_getElem? (i := 196) rfl))) (Or.inr (hw _ (List.mem_of_getElem? (i := 194) rfl))) (by decide) (t := (.object "com/example/nudged_routes/nudgedroutes/simulation/DayCopies")) (t' := (.object "com/example/nudged_routes/nudgedroutes/simulation/LinkQueue$OriginLine")) (by decide) (by decide))))
  have f97 := (f93.wr W94)
  obtain ⟨T98, h98, X98, e98, W98, st98⟩ := putF X94 hx hZ hown (host := "") (Or.inl (hw _ (List.mem_of_getElem? (i := 195) rfl))) Via.refl e94 f96 f97 (Or.inr ⟨(hw _ (List.mem_of_getElem? (i := 196) rfl)), rfl, hnm⟩) (hw _ (List.mem_of_getElem? (i := 37) rfl)) (ty := (.object "com/example/nudged_routes/nudgedroutes/simulation/DayCopies")) (by decide) rfl rfl (g := (mkF m 117 #[.val (.ref a1), .val (.ref a2)] [.null, (.ref a1)])) rfl rfl (hb hby d3_117)
  have Fw98 := f96.same W98
  have K98 : Keep h0 h98 [a1] := K94.wr W98 (Or.inl (List.mem_of_getElem? (i := 0) rfl))
  have Z98 : n0 ≤ h98.size := Nat.le_trans Z94 (Keep.of_wr W98).1
  have N98 := Fr.snoc X98 N94 g_a1
  refine Go.adv st98 ?_
  show Go p.tables e below s _ _ _ (T98.setTop (mkF m 120 #[.val (.ref a1), .val (.ref a2)] []))
  have sg99 : ∀ t, Steps p.tables e below (T98.setTop (mkF m 121 #[.val (.ref a1), .val (.ref a2)] [(.ref a1)])) t → Steps p.tables e below (T98.setTop (mkF m 120 #[.val (.ref a1), .val (.ref a2)] [])) t := by
    intro t kt
    show Steps p.tables e below (T98.setTop (mkF m 120 #[.val (.ref a1), .val (.ref a2)] [])) _
    refine XS.aloadN X98.here hx rfl (hb hby d3_120) rfl rfl ?_
    exact kt
  refine Go.adv sg99 ?_
  obtain ⟨T100, h100, X100, e100, E100, A100, D100, -, st100⟩ := newO X98 hx hZ hown (hw _ (List.mem_of_getElem? (i := 158) rfl)) (hw _ (List.mem_of_getElem? (i := 159) rfl)) (hw _ (List.mem_of_getElem? (i := 160) rfl)) e98 (g := (mkF m 121 #[.val (.ref a1), .val (.ref a2)] [(.ref a1)])) rfl (hb hby d3_121) (by decide) (by decide)
  obtain ⟨b100, gb100⟩ : ∃ z, z = h98.size := ⟨_, rfl⟩
  rw [← gb100] at A100 D100 st100
  have g_b100 : n0 ≤ b100 := Nat.le_trans Z98 (Nat.le_of_eq gb100.symm)
  have sz_b100 : h0.size ≤ b100 := Nat.le_trans K98.1 (Nat.le_of_eq gb100.symm)
  have f101 := (f97.wr W98)
  have ne_a1_b100 : a1 ≠ b100 := Nat.ne_of_lt (Nat.lt_of_lt_of_le f101.lt (Nat.le_of_eq gb100.symm))
  have f102 := ((((f83.ext E81).keep Kc91).wr W94).wr W98)
  have ne_a2_b100 : a2 ≠ b100 := Nat.ne_of_lt (Nat.lt_of_lt_of_le f102.lt (Nat.le_of_eq gb100.symm))
  have f103 := ((((f84.ext E81).keep Kc91).wr W94).wr W98)
  have ne_b4_b100 : b4 ≠ b100 := Nat.ne_of_lt (Nat.lt_of_lt_of_le f103.lt (Nat.le_of_eq gb100.symm))
  have f104 := ((((f85.ext E81).keep Kc91).wr W94).wr W98)
  have ne_b54_b100 : b54 ≠ b100 := Nat.ne_of_lt (Nat.lt_of_lt_of_le f104.lt (Nat.le_of_eq gb100.symm))
  have f105 := ((((f86.ext E81).keep Kc91).wr W94).wr W98)
  have ne_b67_b100 : b67 ≠ b100 := Nat.ne_of_lt (Nat.lt_of_lt_of_le f105.lt (Nat.le_of_eq gb100.symm))
  have f106 := ((p91_0.wr W94).wr W98)
  have ne_b81_b100 : b81 ≠ b100 := Nat.ne_of_lt (Nat.lt_of_lt_of_le f106.lt (Nat.le_of_eq gb100.symm))
  have K100 : Keep h0 h100 [a1] := K98.ext E100
  have Z100 : n0 ≤ h100.size := Nat.le_trans Z98 E100.1
  have F_elements_b100 : Fld Z h100 b100 "java/util/ArrayDeque" "elements" "[Ljava/lang/Object;" .null := D100 (Or.inl (hw _ (List.mem_of_getElem? (i := 169) rfl))) (ty := (.array (.object "java/lang/Object"))) (by decide)
  refine Go.adv st100 ?_
  show Go p.tables e below s _ _ _ (T100.setTop (mkF m 124 #[.val (.ref a1), .val (.ref a2)] [(.ref b100), (.ref a1)]))
  have sg107 : ∀ t, Steps p.tables e below (T100.setTop (mkF m 125 #[.val (.ref a1), .val (.ref a2)] [(.ref b100), (.ref b100), (.ref a1)])) t → Steps p.tables e below (T100.setTop (mkF m 124 #[.val (.ref a1), .val (.ref a2)] [(.ref b100), (.ref a1)])) t := by
    intro t kt
    show Steps p.tables e below (T100.setTop (mkF m 124 #[.val (.ref a1), .val (.ref a2)] [(.ref b100), (.ref a1)])) _
    refine XS.dup X100.here hx rfl (hb hby d3_124) rfl rfl ?_
    exact kt
  refine Go.adv sg107 ?_
  have f108 := (((s91_DEFAULTCAPACITY_EMPTY_ELEMENTDATA.wr W94).wr W98).ext E100)
  have f109 := (((s91_EMPTY_ITERATOR.wr W94).wr W98).ext E100)
  have f110 := (((s91__assertionsDisabled.wr W94).wr W98).ext E100)
  obtain ⟨_, _, ⟨T111, L111, k111, n111⟩, -, X111, ⟨Lc111, hQ111, l111, y111, z111⟩, st111⟩ := X100.specialBack hx (y := (⟨"java/util/ArrayDeque", "<init>", "()V"⟩ : MethodName)) rfl hown (mvT hZ (hw _ (List.mem_of_getElem? (i := 161) rfl))) (mvT hZ (hw _ (List.mem_of_getElem? (i := 162) rfl))) (mvT hZ (hw _ (List.mem_of_getElem? (i := 163) rfl))) (by decide) (backOf (W := 2) (rm_ad l Z a0 hw [] b100 (.null) h100 n0 Z100 A100 g_b100 F_elements_b100) hZ (hw _ (List.mem_of_getElem? (i := 163) rfl)) (hw _ (List.mem_of_getElem? (i := 160) rfl)) (by decide) (by decide)) (g := (mkF m 125 #[.val (.ref a1), .val (.ref a2)] [(.ref b100), (.ref b100), (.ref a1)])) rfl (by rw [hml]; rfl) (Steps.refl _) (a := b100) (argsL := []) (rest := [(.ref b100), (.ref a1)]) (lenOf pd_ocV rfl) rfl (by show 2 * 0 + _ ≤ _; exact Nat.le_of_eq rfl) (hb hby d3_125) (fun _ _ => ⟨rfl, e100, (by decide : 9 + 1 ≤ _), (by decide : 69 + 17 ≤ _)⟩)
  dsimp only [Pt.U, Pt.locs, Pt.cells, Pt.slots] at X111 l111 y111 z111 st111 hQ111
  subst l111 y111 z111
  obtain ⟨rfl, N111q, Kc111, p111_0⟩ := hQ111
  have N111 := Fr.app N98 N111q
  have s111_DEFAULTCAPACITY_EMPTY_ELEMENTDATA := own_staKeep f108 Kc111 A100
  have s111_EMPTY_ITERATOR := own_staKeep f109 Kc111 A100
  have s111__assertionsDisabled := own_staKeep f110 Kc111 A100
  have K111 : Keep h0 T111.heap [a1] := K100.trans Kc111 (allS (Or.inr sz_b100) all0)
  have Z111 : n0 ≤ T111.heap.size := Nat.le_trans Z100 Kc111.1
  refine Go.tr st111 ?_
  show Go p.tables e below s _ _ _ (T111.setTop (mkF m 128 #[.val (.ref a1), .val (.ref a2)] [(.ref b100), (.ref a1)]))
  have f112 := ((((((((((((((((((((F_departures_a1.ext E4).keep Kc9 (ninS ne_a1_b4 nin0)).other W12 (Or.inr (slot_ne (Or.inr (hw _ (List.mem_of_getElem? (i := 198) rfl))) (Or.inr (hw _ (List.mem_of_getElem? (i := 68) rfl))) (by decide) (t := (.object "java/util/ArrayDeque")) (t' := (.object "java/util/List")) (by decide) (by decide)))).other W16 (Or.inr (slot_ne (Or.inr (hw _ (List.mem_of_getElem? (i := 198) rfl))) (Or.inl (hw _ (List.mem_of_getElem? (i := 71) rfl))) (by decide) (t := (.object "java/util/ArrayDeque")) (t' := .long) (by decide) (by decide)))).other W20 (Or.inr (slot_ne (Or.inr (hw _ (List.mem_of_getElem? (i := 198) rfl))) (Or.inr (hw _ (List.mem_of_getElem? (i := 73) rfl))) (by decide) (t := (.object "java/util/ArrayDeque")) (t' := (.object "com/example/nudged_routes/nudgedroutes/network/Link")) (by decide) (by decide)))).other W27 (Or.inr (slot_ne (Or.inr (hw _ (List.mem_of_getElem? (i := 198) rfl))) (Or.inr (hw _ (List.mem_of_getElem? (i := 100) rfl))) (by decide) (t := (.object "java/util/ArrayDeque")) (t' := .int) (by decide) (by decide)))).other W43 (Or.inr (slot_ne (Or.inr (hw _ (List.mem_of_getElem? (i := 198) rfl))) (Or.inr (hw _ (List.mem_of_getElem? (i := 142) rfl))) (by decide) (t := (.object "java/util/ArrayDeque")) (t' := .int) (by decide) (by decide)))).other W52 (Or.inr (slot_ne (Or.inr (hw _ (List.mem_of_getElem? (i := 198) rfl))) (Or.inr (hw _ (List.mem_of_getElem? (i := 157) rfl))) (by decide) (t := (.object "java/util/ArrayDeque")) (t' := .long) (by decide) (by decide)))).ext E54).keep Kc62 (ninS ne_a1_b54 nin0)).other W65 (Or.inr (slot_ne (Or.inr (hw _ (List.mem_of_getElem? (i := 198) rfl))) (Or.inr (hw _ (List.mem_of_getElem? (i := 171) rfl))) (by decide) (t := (.object "java/util/ArrayDeque")) (t' := (.object "java/util/ArrayDeque")) (by decide) (by decide)))).ext E67).keep Kc76 (ninS ne_a1_b67 nin0)).other W79 (Or.inr (slot_ne (Or.inr (hw _ (List.mem_of_getElem? (i := 198) rfl))) (Or.inr (hw _ (List.mem_of_getElem? (i := 173) rfl))) (by decide) (t := (.object "java/util/ArrayDeque")) (t' := (.object "java/util/ArrayDeque")) (by decide) (by decide)))).ext E81).keep Kc91 (ninS ne_a1_b81 nin0)).other W94 (Or.inr (slot_ne (Or.inr (hw _ (List.mem_of_getElem? (i := 198) rfl))) (Or.inr (hw _ (List.mem_of_getElem? (i := 194) rfl))) (by decide) (t := (.object "java/util/ArrayDeque")) (t' := (.object "com/example/nudged_routes/nudgedroutes/simulation/LinkQueue$OriginLine")) (by decide) (by decide)))).other W98 (Or.inr (slot_ne (Or.inr (hw _ (List.mem_of_getElem? (i := 198) rfl))) (Or.inr (hw _ (List.mem_of_getElem? (i := 196) rfl))) (by decide) (t := (.object "java/util/ArrayDeque")) (t' := (.object "com/example/nudged_routes/nudgedroutes/simulation/DayCopies")) (by decide) (by decide)))).ext E100).keep Kc111 (ninS ne_a1_b100 nin0))
  have f113 := ((f101.ext E100).keep Kc111)
  obtain ⟨T114, h114, X114, e114, W114, st114⟩ := putF X111 hx hZ hown (host := "") (Or.inl (hw _ (List.mem_of_getElem? (i := 197) rfl))) Via.refl rfl f112 f113 (Or.inr ⟨(hw _ (List.mem_of_getElem? (i := 198) rfl)), rfl, hnm⟩) (hw _ (List.mem_of_getElem? (i := 37) rfl)) (ty := (.object "java/util/ArrayDeque")) (by decide) rfl rfl (g := (mkF m 128 #[.val (.ref a1), .val (.ref a2)] [(.ref b100), (.ref a1)])) rfl rfl (hb hby d3_128)
  have Fw114 := f112.same W114
  have K114 : Keep h0 h114 [a1] := K111.wr W114 (Or.inl (List.mem_of_getElem? (i := 0) rfl))
  have Z114 : n0 ≤ h114.size := Nat.le_trans Z111 (Keep.of_wr W114).1
  have N114 := Fr.snoc X114 N111 g_a1
  refine Go.adv st114 ?_
  show Go p.tables e below s _ _ _ (T114.setTop (mkF m 131 #[.val (.ref a1), .val (.ref a2)] []))
  refine Go.ret (v := none) X114 (fun _ => rfl) Bd.notSynchronized (fun fs hr => X114.returnOut hx Bd.returns (hb hby d3_131) hr) ?_ (by decide) (by decide)
  show Q_rm_lq Z a1 a2 u_incidents u_credit u_link u_freeFlowS u_storage u_earnedPerSecond u_onLink u_waitingOnLinks u_waitingAtOrigins u_copies u_departures u_scheduled ed ei h0 n0 none T114.heap _
  rw [e114]
  have f115 := (f113.wr W114)
  have f116 := (((((((((((((((((((((F_scheduled_a1.ext E4).keep Kc9 (ninS ne_a1_b4 nin0)).other W12 (Or.inr (slot_ne (Or.inl (hw _ (List.mem_of_getElem? (i := 209) rfl))) (Or.inr (hw _ (List.mem_of_getElem? (i := 68) rfl))) (by decide) (t := .boolean) (t' := (.object "java/util/List")) (by decide) (by decide)))).other W16 (Or.inr (slot_ne (Or.inl (hw _ (List.mem_of_getElem? (i := 209) rfl))) (Or.inl (hw _ (List.mem_of_getElem? (i := 71) rfl))) (by decide) (t := .boolean) (t' := .long) (by decide) (by decide)))).other W20 (Or.inr (slot_ne (Or.inl (hw _ (List.mem_of_getElem? (i := 209) rfl))) (Or.inr (hw _ (List.mem_of_getElem? (i := 73) rfl))) (by decide) (t := .boolean) (t' := (.object "com/example/nudged_routes/nudgedroutes/network/Link")) (by decide) (by decide)))).other W27 (Or.inr (slot_ne (Or.inl (hw _ (List.mem_of_getElem? (i := 209) rfl))) (Or.inr (hw _ (List.mem_of_getElem? (i := 100) rfl))) (by decide) (t := .boolean) (t' := .int) (by decide) (by decide)))).other W43 (Or.inr (slot_ne (Or.inl (hw _ (List.mem_of_getElem? (i := 209) rfl))) (Or.inr (hw _ (List.mem_of_getElem? (i := 142) rfl))) (by decide) (t := .boolean) (t' := .int) (by decide) (by decide)))).other W52 (Or.inr (slot_ne (Or.inl (hw _ (List.mem_of_getElem? (i := 209) rfl))) (Or.inr (hw _ (List.mem_of_getElem? (i := 157) rfl))) (by decide) (t := .boolean) (t' := .long) (by decide) (by decide)))).ext E54).keep Kc62 (ninS ne_a1_b54 nin0)).other W65 (Or.inr (slot_ne (Or.inl (hw _ (List.mem_of_getElem? (i := 209) rfl))) (Or.inr (hw _ (List.mem_of_getElem? (i := 171) rfl))) (by decide) (t := .boolean) (t' := (.object "java/util/ArrayDeque")) (by decide) (by decide)))).ext E67).keep Kc76 (ninS ne_a1_b67 nin0)).other W79 (Or.inr (slot_ne (Or.inl (hw _ (List.mem_of_getElem? (i := 209) rfl))) (Or.inr (hw _ (List.mem_of_getElem? (i := 173) rfl))) (by decide) (t := .boolean) (t' := (.object "java/util/ArrayDeque")) (by decide) (by decide)))).ext E81).keep Kc91 (ninS ne_a1_b81 nin0)).other W94 (Or.inr (slot_ne (Or.inl (hw _ (List.mem_of_getElem? (i := 209) rfl))) (Or.inr (hw _ (List.mem_of_getElem? (i := 194) rfl))) (by decide) (t := .boolean) (t' := (.object "com/example/nudged_routes/nudgedroutes/simulation/LinkQueue$OriginLine")) (by decide) (by decide)))).other W98 (Or.inr (slot_ne (Or.inl (hw _ (List.mem_of_getElem? (i := 209) rfl))) (Or.inr (hw _ (List.mem_of_getElem? (i := 196) rfl))) (by decide) (t := .boolean) (t' := (.object "com/example/nudged_routes/nudgedroutes/simulation/DayCopies")) (by decide) (by decide)))).ext E100).keep Kc111 (ninS ne_a1_b100 nin0)).other W114 (Or.inr (slot_ne (Or.inl (hw _ (List.mem_of_getElem? (i := 209) rfl))) (Or.inr (hw _ (List.mem_of_getElem? (i := 198) rfl))) (by decide) (t := .boolean) (t' := (.object "java/util/ArrayDeque")) (by decide) (by decide))))
  exact ⟨rfl, N114, K114, f115, f116⟩
theorem pn25 : plainName "com/example/nudged_routes/nudgedroutes/simulation/LinkQueue" = true := by first | (simp [plainName, overriddenIn]; done) | decide +kernel
theorem d25_0 : decode prog_86_method_25_code 0 = .ok (.aload_n 0, 1) := by decide +kernel
theorem d25_1 : decode prog_86_method_25_code 1 = .ok (.iconst 0, 1) := by decide +kernel
theorem d25_2 : decode prog_86_method_25_code 2 = .ok (.putfield 264, 3) := by decide +kernel
theorem d25_5 : decode prog_86_method_25_code 5 = .ok (.return_, 1) := by decide +kernel
theorem ef_rm_un (m : MethodId) (x0 : Addr) : entryFrame m #[(.ref x0)] 1 = mkF m 0 #[.val (.ref x0)] [] := by first | (simp [entryFrame, mkF, argsToLocals, Value.category]; done) | rfl
def Q_rm_un (Z : State) (a1 : Addr) (u_scheduled : Value) (h0 : Heap) (n0 : Nat) (v : Option Value) (h : Heap) (L : List Loc) : Prop := v = none ∧ Fr n0 L ∧ Keep h0 h [a1] ∧ Exa Z h a1 "com/example/nudged_routes/nudgedroutes/simulation/LinkQueue" ∧ Fld Z h a1 "com/example/nudged_routes/nudgedroutes/simulation/LinkQueue" "scheduled" "Z" (.int (0 : Int32))
set_option maxRecDepth 65536 in
set_option maxHeartbeats 40000000 in
theorem rm_un (l : Launch) (Z : State) (a0 : Array Value) (hw : ∀ d ∈ tables_1, d.before a0 Z = true) (ws : List Jvm.Cond) (a1 : Addr) (u_scheduled : Value) (h0 : Heap) (n0 : Nat) (Z0 : n0 ≤ h0.size) (E_a1 : Exa Z h0 a1 "com/example/nudged_routes/nudgedroutes/simulation/LinkQueue") (g_a1 : n0 ≤ a1) (F_scheduled_a1 : Fld Z h0 a1 "com/example/nudged_routes/nudgedroutes/simulation/LinkQueue" "scheduled" "Z" u_scheduled) :
    MetFree l (⟨"com/example/nudged_routes/nudgedroutes/simulation/LinkQueue", "unschedule", "()V"⟩ : MethodName) (head1 (Jvm.Cond.code (⟨"com/example/nudged_routes/nudgedroutes/simulation/LinkQueue", "unschedule", "()V"⟩ : MethodName) prog_86_method_25_code 1 none :: ws) ({ frames := 0, cells := 0, slots := 0, locals := 0 } : Room)) (fun a U => a = #[(.ref a1)] ∧ Z.Warmed39 U.vm ∧ U.heap = h0) (fun _ _ _ _ _ => True) (fun _ U o U' => ∃ v L, o = .returned v ∧ Q_rm_un Z a1 u_scheduled h0 n0 v U'.heap L ∧ FrameEnd U o U' L ({ frames := 0, cells := 0, slots := 0, locals := 0 } : Room).cells ({ frames := 0, cells := 0, slots := 0, locals := 0 } : Room).slots) := by
  refine MetFree.of_bodySF (plainFor_of_name pn25) hisR ?_
  intro p e s m args below meth c s₁ Bd hml0 hP hK
  obtain ⟨rfl, hZ, hh⟩ := hP
  have hx := Bd.exec
  have hby := Bd.bytes
  have hml : c.maxLocals = 1 := hml0
  have hown : s.vm.findClass "com/example/nudged_routes/nudgedroutes/simulation/LinkQueue" = some m.cls := findClass_of_methodNamed Bd.named
  have hnm := (name_of_methodNamed Bd.named Bd.method).1
  have X0 : Stand p l e ({ frames := 0, cells := 0, slots := 0, locals := 0 } : Room) s m #[(.ref a1)] below meth c s₁ [] 0 0 := Stand.of_body Bd
  have e0 : s₁.heap = h0 := by rw [← hh, Bd.state]; rfl
  have N0 := Fr.nil n0
  refine Go.start (Q := Q_rm_un Z a1 u_scheduled h0 n0) (ef_rm_un m a1) ?_
  have sg1 : ∀ t, Steps p.tables e below (s₁.setTop (mkF m 2 #[.val (.ref a1)] [(.int (0 : Int32)), (.ref a1)])) t → Steps p.tables e below (s₁.setTop (mkF m 0 #[.val (.ref a1)] [])) t := by
    intro t kt
    show Steps p.tables e below (s₁.setTop (mkF m 0 #[.val (.ref a1)] [])) _
    refine XS.aloadN X0.here hx rfl (hb hby d25_0) rfl rfl ?_
    show Steps p.tables e below (s₁.setTop (mkF m 1 #[.val (.ref a1)] [(.ref a1)])) _
    refine XS.iconst X0.here hx rfl (hb hby d25_1) ?_
    exact kt
  refine Go.adv sg1 ?_
  obtain ⟨T2, h2, X2, e2, W2, st2⟩ := putFN X0 hx hZ hown (hw _ (List.mem_of_getElem? (i := 208) rfl)) Via.refl e0 F_scheduled_a1 E_a1 (Or.inl (hw _ (List.mem_of_getElem? (i := 209) rfl))) (hw _ (List.mem_of_getElem? (i := 37) rfl)) (ty := .boolean) (v' := (.int (0 : Int32))) (by decide) rfl rfl (g := (mkF m 2 #[.val (.ref a1)] [(.int (0 : Int32)), (.ref a1)])) rfl rfl (hb hby d25_2)
  have Fw2 := F_scheduled_a1.same W2
  have K2 : Keep h0 h2 [a1] := (Keep.refl h0 [a1]).wr W2 (Or.inl (List.mem_of_getElem? (i := 0) rfl))
  have Z2 : n0 ≤ h2.size := Nat.le_trans Z0 (Keep.of_wr W2).1
  have N2 := Fr.snoc X2 N0 g_a1
  refine Go.adv st2 ?_
  show Go p.tables e below s _ _ _ (T2.setTop (mkF m 5 #[.val (.ref a1)] []))
  refine Go.ret (v := none) X2 (fun _ => rfl) Bd.notSynchronized (fun fs hr => X2.returnOut hx Bd.returns (hb hby d25_5) hr) ?_ (by decide) (by decide)
  show Q_rm_un Z a1 u_scheduled h0 n0 none T2.heap _
  rw [e2]
  have f3 := (E_a1.wr W2)
  exact ⟨rfl, N2, K2, f3, Fw2⟩
theorem pn26 : plainName "com/example/nudged_routes/nudgedroutes/simulation/LinkQueue" = true := by first | (simp [plainName, overriddenIn]; done) | decide +kernel
theorem d26_0 : decode prog_86_method_24_code 0 = .ok (.aload_n 0, 1) := by decide +kernel
theorem d26_1 : decode prog_86_method_24_code 1 = .ok (.getfield 264, 3) := by decide +kernel
theorem d26_4 : decode prog_86_method_24_code 4 = .ok (.istore_n 1, 1) := by decide +kernel
theorem d26_5 : decode prog_86_method_24_code 5 = .ok (.aload_n 0, 1) := by decide +kernel
theorem d26_6 : decode prog_86_method_24_code 6 = .ok (.iconst 1, 1) := by decide +kernel
theorem d26_7 : decode prog_86_method_24_code 7 = .ok (.putfield 264, 3) := by decide +kernel
theorem d26_10 : decode prog_86_method_24_code 10 = .ok (.iload_n 1, 1) := by decide +kernel
theorem d26_11 : decode prog_86_method_24_code 11 = .ok (.ifCond .ne 7, 3) := by decide +kernel
theorem d26_14 : decode prog_86_method_24_code 14 = .ok (.iconst 1, 1) := by decide +kernel
theorem d26_15 : decode prog_86_method_24_code 15 = .ok (.goto 4, 3) := by decide +kernel
theorem d26_19 : decode prog_86_method_24_code 19 = .ok (.ireturn, 1) := by decide +kernel
theorem d26_18 : decode prog_86_method_24_code 18 = .ok (.iconst 0, 1) := by decide +kernel
theorem ef_rm_sc (m : MethodId) (x0 : Addr) : entryFrame m #[(.ref x0)] 2 = mkF m 0 #[.val (.ref x0), .unset] [] := by first | (simp [entryFrame, mkF, argsToLocals, Value.category]; done) | rfl
def Q_rm_sc (Z : State) (a1 : Addr) (sc : Int32) (h0 : Heap) (n0 : Nat) (v : Option Value) (h : Heap) (L : List Loc) : Prop := v = some (.int (own_not sc)) ∧ Fr n0 L ∧ Keep h0 h [a1] ∧ Exa Z h a1 "com/example/nudged_routes/nudgedroutes/simulation/LinkQueue" ∧ Fld Z h a1 "com/example/nudged_routes/nudgedroutes/simulation/LinkQueue" "scheduled" "Z" (.int (1 : Int32))
set_option maxRecDepth 65536 in
set_option maxHeartbeats 40000000 in
theorem rm_sc (l : Launch) (Z : State) (a0 : Array Value) (hw : ∀ d ∈ tables_1, d.before a0 Z = true) (ws : List Jvm.Cond) (a1 : Addr) (sc : Int32) (h0 : Heap) (n0 : Nat) (Z0 : n0 ≤ h0.size) (E_a1 : Exa Z h0 a1 "com/example/nudged_routes/nudgedroutes/simulation/LinkQueue") (g_a1 : n0 ≤ a1) (F_scheduled_a1 : Fld Z h0 a1 "com/example/nudged_routes/nudgedroutes/simulation/LinkQueue" "scheduled" "Z" (.int sc)) :
    MetFree l (⟨"com/example/nudged_routes/nudgedroutes/simulation/LinkQueue", "schedule", "()Z"⟩ : MethodName) (head1 (Jvm.Cond.code (⟨"com/example/nudged_routes/nudgedroutes/simulation/LinkQueue", "schedule", "()Z"⟩ : MethodName) prog_86_method_24_code 2 (some .boolean) :: ws) ({ frames := 0, cells := 0, slots := 0, locals := 0 } : Room)) (fun a U => a = #[(.ref a1)] ∧ Z.Warmed39 U.vm ∧ U.heap = h0) (fun _ _ _ _ _ => True) (fun _ U o U' => ∃ v L, o = .returned v ∧ Q_rm_sc Z a1 sc h0 n0 v U'.heap L ∧ FrameEnd U o U' L ({ frames := 0, cells := 0, slots := 0, locals := 0 } : Room).cells ({ frames := 0, cells := 0, slots := 0, locals := 0 } : Room).slots) := by
  refine MetFree.of_bodySF (plainFor_of_name pn26) hisR ?_
  intro p e s m args below meth c s₁ Bd hml0 hP hK
  obtain ⟨rfl, hZ, hh⟩ := hP
  have hx := Bd.exec
  have hby := Bd.bytes
  have hml : c.maxLocals = 2 := hml0
  have hown : s.vm.findClass "com/example/nudged_routes/nudgedroutes/simulation/LinkQueue" = some m.cls := findClass_of_methodNamed Bd.named
  have hnm := (name_of_methodNamed Bd.named Bd.method).1
  have X0 : Stand p l e ({ frames := 0, cells := 0, slots := 0, locals := 0 } : Room) s m #[(.ref a1)] below meth c s₁ [] 0 0 := Stand.of_body Bd
  have e0 : s₁.heap = h0 := by rw [← hh, Bd.state]; rfl
  have N0 := Fr.nil n0
  refine Go.start (Q := Q_rm_sc Z a1 sc h0 n0) (ef_rm_sc m a1) ?_
  have sg1 : ∀ t, Steps p.tables e below (s₁.setTop (mkF m 1 #[.val (.ref a1), .unset] [(.ref a1)])) t → Steps p.tables e below (s₁.setTop (mkF m 0 #[.val (.ref a1), .unset] [])) t := by
    intro t kt
    show Steps p.tables e below (s₁.setTop (mkF m 0 #[.val (.ref a1), .unset] [])) _
    refine XS.aloadN X0.here hx rfl (hb hby d26_0) rfl rfl ?_
    exact kt
  refine Go.adv sg1 ?_
  obtain ⟨T2, X2, e2, st2⟩ := getF X0 hx hZ hown (host := "") (Or.inl (hw _ (List.mem_of_getElem? (i := 208) rfl))) Via.refl e0 F_scheduled_a1 (g := (mkF m 1 #[.val (.ref a1), .unset] [(.ref a1)])) rfl rfl (hb hby d26_1)
  refine Go.adv st2 ?_
  show Go p.tables e below s _ _ _ (T2.setTop (mkF m 4 #[.val (.ref a1), .unset] [(.int sc)]))
  have sg3 : ∀ t, Steps p.tables e below (T2.setTop (mkF m 7 #[.val (.ref a1), .val (.int sc)] [(.int (1 : Int32)), (.ref a1)])) t → Steps p.tables e below (T2.setTop (mkF m 4 #[.val (.ref a1), .unset] [(.int sc)])) t := by
    intro t kt
    show Steps p.tables e below (T2.setTop (mkF m 4 #[.val (.ref a1), .unset] [(.int sc)])) _
    refine XS.istoreN X2.here hx rfl (hb hby d26_4) rfl (l' := #[.val (.ref a1), .val (.int sc)]) rfl ?_
    show Steps p.tables e below (T2.setTop (mkF m 5 #[.val (.ref a1), .val (.int sc)] [])) _
    refine XS.aloadN X2.here hx rfl (hb hby d26_5) rfl rfl ?_
    show Steps p.tables e below (T2.setTop (mkF m 6 #[.val (.ref a1), .val (.int sc)] [(.ref a1)])) _
    refine XS.iconst X2.here hx rfl (hb hby d26_6) ?_
    exact kt
  refine Go.adv sg3 ?_
  obtain ⟨T4, h4, X4, e4, W4, st4⟩ := putFN X2 hx hZ hown (hw _ (List.mem_of_getElem? (i := 208) rfl)) Via.refl e2 F_scheduled_a1 E_a1 (Or.inl (hw _ (List.mem_of_getElem? (i := 209) rfl))) (hw _ (List.mem_of_getElem? (i := 37) rfl)) (ty := .boolean) (v' := (.int (1 : Int32))) (by decide) rfl rfl (g := (mkF m 7 #[.val (.ref a1), .val (.int sc)] [(.int (1 : Int32)), (.ref a1)])) rfl rfl (hb hby d26_7)
  have Fw4 := F_scheduled_a1.same W4
  have K4 : Keep h0 h4 [a1] := (Keep.refl h0 [a1]).wr W4 (Or.inl (List.mem_of_getElem? (i := 0) rfl))
  have Z4 : n0 ≤ h4.size := Nat.le_trans Z0 (Keep.of_wr W4).1
  have N4 := Fr.snoc X4 N0 g_a1
  refine Go.adv st4 ?_
  show Go p.tables e below s _ _ _ (T4.setTop (mkF m 10 #[.val (.ref a1), .val (.int sc)] []))
  by_cases hc : sc = (0 : Int32)
  · have sg5 : ∀ t, Steps p.tables e below (T4.setTop (mkF m 19 #[.val (.ref a1), .val (.int sc)] [(.int (1 : Int32))])) t → Steps p.tables e below (T4.setTop (mkF m 10 #[.val (.ref a1), .val (.int sc)] [])) t := by
      intro t kt
      show Steps p.tables e below (T4.setTop (mkF m 10 #[.val (.ref a1), .val (.int sc)] [])) _
      refine XS.iloadN X4.here hx rfl (hb hby d26_10) rfl ?_
      show Steps p.tables e below (T4.setTop (mkF m 11 #[.val (.ref a1), .val (.int sc)] [(.int sc)])) _
      refine XS.ifNo X4.here hx rfl (hb hby d26_11) rfl ((if0 _ _).trans (teq (hc : sc = (0 : Int32))).2) ?_
      show Steps p.tables e below (T4.setTop (mkF m 14 #[.val (.ref a1), .val (.int sc)] [])) _
      refine XS.iconst X4.here hx rfl (hb hby d26_14) ?_
      show Steps p.tables e below (T4.setTop (mkF m 15 #[.val (.ref a1), .val (.int sc)] [(.int (1 : Int32))])) _
      refine XS.goto X4.here hx rfl (pc0 := 15) (pc' := 19) rfl (hb hby d26_15) (by decide) (by decide) ?_
      exact kt
    refine Go.adv sg5 ?_
    refine Go.ret (v := (some (.int (1 : Int32)))) X4 (fun h => by rw [Bd.returns] at h; cases h) Bd.notSynchronized (fun fs hr => retN X4 hx (t := .boolean) Bd.returns (by simp) (hb hby d26_19) hr) ?_ (by decide) (by decide)
    show Q_rm_sc Z a1 sc h0 n0 (some (.int (1 : Int32))) T4.heap _
    rw [e4]
    have f6 := (E_a1.wr W4)
    exact ⟨congrArg (fun z => some (Value.int z)) (own_not_a hc).symm, N4, K4, f6, Fw4⟩
  · have sg7 : ∀ t, Steps p.tables e below (T4.setTop (mkF m 19 #[.val (.ref a1), .val (.int sc)] [(.int (0 : Int32))])) t → Steps p.tables e below (T4.setTop (mkF m 10 #[.val (.ref a1), .val (.int sc)] [])) t := by
      intro t kt
      show Steps p.tables e below (T4.setTop (mkF m 10 #[.val (.ref a1), .val (.int sc)] [])) _
      refine XS.iloadN X4.here hx rfl (hb hby d26_10) rfl ?_
      show Steps p.tables e below (T4.setTop (mkF m 11 #[.val (.ref a1), .val (.int sc)] [(.int sc)])) _
      refine XS.ifYes X4.here hx rfl (pc0 := 11) (pc' := 18) rfl (hb hby d26_11) rfl ((if0 _ _).trans (feq (hc : ¬ (sc = (0 : Int32)))).2) (by decide) (by decide) ?_
      show Steps p.tables e below (T4.setTop (mkF m 18 #[.val (.ref a1), .val (.int sc)] [])) _
      refine XS.iconst X4.here hx rfl (hb hby d26_18) ?_
      exact kt
    refine Go.adv sg7 ?_
    refine Go.ret (v := (some (.int (0 : Int32)))) X4 (fun h => by rw [Bd.returns] at h; cases h) Bd.notSynchronized (fun fs hr => retN X4 hx (t := .boolean) Bd.returns (by simp) (hb hby d26_19) hr) ?_ (by decide) (by decide)
    show Q_rm_sc Z a1 sc h0 n0 (some (.int (0 : Int32))) T4.heap _
    rw [e4]
    have f8 := (E_a1.wr W4)
    exact ⟨congrArg (fun z => some (Value.int z)) (own_not_b hc).symm, N4, K4, f8, Fw4⟩
theorem pn24 : plainName "com/example/nudged_routes/nudgedroutes/simulation/LinkQueueSchedulePinLaw" = true := by first | (simp [plainName, overriddenIn]; done) | decide +kernel
theorem d24_0 : decode method_3_code 0 = .ok (.iload_n 1, 1) := by decide +kernel
theorem d24_1 : decode method_3_code 1 = .ok (.ifCond .ge 5, 3) := by decide +kernel
theorem d24_6 : decode method_3_code 6 = .ok (.iload_n 2, 1) := by decide +kernel
theorem d24_7 : decode method_3_code 7 = .ok (.ifCond .eq 31, 3) := by decide +kernel
theorem d24_38 : decode method_3_code 38 = .ok (.aload_n 0, 1) := by decide +kernel
theorem d24_39 : decode method_3_code 39 = .ok (.invokevirtual 35, 3) := by decide +kernel
theorem d24_42 : decode method_3_code 42 = .ok (.iconst 0, 1) := by decide +kernel
theorem d24_43 : decode method_3_code 43 = .ok (.ireturn, 1) := by decide +kernel
theorem d24_10 : decode method_3_code 10 = .ok (.aload_n 0, 1) := by decide +kernel
theorem d24_11 : decode method_3_code 11 = .ok (.invokevirtual 31, 3) := by decide +kernel
theorem pd_ocZ : parseMethodDescriptor "()Z" = some ⟨[], some .boolean⟩ := by decide +kernel
theorem d24_14 : decode method_3_code 14 = .ok (.istore_n 3, 1) := by decide +kernel
theorem d24_15 : decode method_3_code 15 = .ok (.iload_n 1, 1) := by decide +kernel
theorem d24_16 : decode method_3_code 16 = .ok (.ifCond .ne 7, 3) := by decide +kernel
theorem d24_19 : decode method_3_code 19 = .ok (.iconst 1, 1) := by decide +kernel
theorem d24_20 : decode method_3_code 20 = .ok (.goto 4, 3) := by decide +kernel
theorem d24_24 : decode method_3_code 24 = .ok (.istore 4, 2) := by decide +kernel
theorem d24_26 : decode method_3_code 26 = .ok (.iload_n 3, 1) := by decide +kernel
theorem d24_27 : decode method_3_code 27 = .ok (.iload 4, 2) := by decide +kernel
theorem d24_29 : decode method_3_code 29 = .ok (.if_icmp .ne 7, 3) := by decide +kernel
theorem d24_32 : decode method_3_code 32 = .ok (.iconst 1, 1) := by decide +kernel
theorem d24_33 : decode method_3_code 33 = .ok (.goto 4, 3) := by decide +kernel
theorem d24_37 : decode method_3_code 37 = .ok (.ireturn, 1) := by decide +kernel
theorem d24_23 : decode method_3_code 23 = .ok (.iconst 0, 1) := by decide +kernel
theorem ef_rm_step (m : MethodId) (x0 : Addr) (x1 : Int32) (x2 : Int32) : entryFrame m #[(.ref x0), (.int x1), (.int x2)] 5 = mkF m 0 #[.val (.ref x0), .val (.int x1), .val (.int x2), .unset, .unset] [] := by first | (simp [entryFrame, mkF, argsToLocals, Value.category]; done) | rfl
def Q_rm_step (Z : State) (a1 : Addr) (p1 : Int32) (p2 : Int32) (h0 : Heap) (n0 : Nat) (v : Option Value) (h : Heap) (L : List Loc) : Prop := v = some (.int (own_bit p2)) ∧ Fr n0 L ∧ Keep h0 h [a1] ∧ Exa Z h a1 "com/example/nudged_routes/nudgedroutes/simulation/LinkQueue" ∧ Fld Z h a1 "com/example/nudged_routes/nudgedroutes/simulation/LinkQueue" "scheduled" "Z" (.int (own_bit p2))
set_option maxRecDepth 65536 in
set_option maxHeartbeats 40000000 in
theorem rm_step (l : Launch) (Z : State) (a0 : Array Value) (hw : ∀ d ∈ tables_1, d.before a0 Z = true) (ws : List Jvm.Cond) (a1 : Addr) (p1 : Int32) (p2 : Int32) (h0 : Heap) (n0 : Nat) (Z0 : n0 ≤ h0.size) (E_a1 : Exa Z h0 a1 "com/example/nudged_routes/nudgedroutes/simulation/LinkQueue") (g_a1 : n0 ≤ a1) (F_scheduled_a1 : Fld Z h0 a1 "com/example/nudged_routes/nudgedroutes/simulation/LinkQueue" "scheduled" "Z" (.int p1)) (hs : p1 = (0 : Int32) ∨ p1 = (1 : Int32)) :
    MetFree l (⟨"com/example/nudged_routes/nudgedroutes/simulation/LinkQueueSchedulePinLaw", "step", "(Lcom/example/nudged_routes/nudgedroutes/simulation/LinkQueue;II)I"⟩ : MethodName) (head1 (Jvm.Cond.code (⟨"com/example/nudged_routes/nudgedroutes/simulation/LinkQueueSchedulePinLaw", "step", "(Lcom/example/nudged_routes/nudgedroutes/simulation/LinkQueue;II)I"⟩ : MethodName) method_3_code 5 (some .int) :: ws) ({ frames := 1, cells := 0, slots := 0, locals := 13 } : Room)) (fun a U => a = #[(.ref a1), (.int p1), (.int p2)] ∧ Z.Warmed39 U.vm ∧ U.heap = h0) (fun _ _ _ _ _ => True) (fun _ U o U' => ∃ v L, o = .returned v ∧ Q_rm_step Z a1 p1 p2 h0 n0 v U'.heap L ∧ FrameEnd U o U' L ({ frames := 1, cells := 0, slots := 0, locals := 13 } : Room).cells ({ frames := 1, cells := 0, slots := 0, locals := 13 } : Room).slots) := by
  refine MetFree.of_bodySF (plainFor_of_name pn24) hisR ?_
  intro p e s m args below meth c s₁ Bd hml0 hP hK
  obtain ⟨rfl, hZ, hh⟩ := hP
  have hx := Bd.exec
  have hby := Bd.bytes
  have hml : c.maxLocals = 5 := hml0
  have hown : s.vm.findClass "com/example/nudged_routes/nudgedroutes/simulation/LinkQueueSchedulePinLaw" = some m.cls := findClass_of_methodNamed Bd.named
  have hnm := (name_of_methodNamed Bd.named Bd.method).1
  have X0 : Stand p l e ({ frames := 1, cells := 0, slots := 0, locals := 13 } : Room) s m #[(.ref a1), (.int p1), (.int p2)] below meth c s₁ [] 0 0 := Stand.of_body Bd
  have e0 : s₁.heap = h0 := by rw [← hh, Bd.state]; rfl
  have N0 := Fr.nil n0
  refine Go.start (Q := Q_rm_step Z a1 p1 p2 h0 n0) (ef_rm_step m a1 p1 p2) ?_
  have sg1 : ∀ t, Steps p.tables e below (s₁.setTop (mkF m 6 #[.val (.ref a1), .val (.int p1), .val (.int p2), .unset, .unset] [])) t → Steps p.tables e below (s₁.setTop (mkF m 0 #[.val (.ref a1), .val (.int p1), .val (.int p2), .unset, .unset] [])) t := by
    intro t kt
    show Steps p.tables e below (s₁.setTop (mkF m 0 #[.val (.ref a1), .val (.int p1), .val (.int p2), .unset, .unset] [])) _
    refine XS.iloadN X0.here hx rfl (hb hby d24_0) rfl ?_
    show Steps p.tables e below (s₁.setTop (mkF m 1 #[.val (.ref a1), .val (.int p1), .val (.int p2), .unset, .unset] [(.int p1)])) _
    refine XS.ifYes X0.here hx rfl (pc0 := 1) (pc' := 6) rfl (hb hby d24_1) rfl ((if0 _ _).trans (flt (own_nn hs : ¬ (p1 < (0 : Int32)))).2.1) (by decide) (by decide) ?_
    exact kt
  refine Go.adv sg1 ?_
  by_cases hc : p2 = (0 : Int32)
  · have sg2 : ∀ t, Steps p.tables e below (s₁.setTop (mkF m 39 #[.val (.ref a1), .val (.int p1), .val (.int p2), .unset, .unset] [(.ref a1)])) t → Steps p.tables e below (s₁.setTop (mkF m 6 #[.val (.ref a1), .val (.int p1), .val (.int p2), .unset, .unset] [])) t := by
      intro t kt
      show Steps p.tables e below (s₁.setTop (mkF m 6 #[.val (.ref a1), .val (.int p1), .val (.int p2), .unset, .unset] [])) _
      refine XS.iloadN X0.here hx rfl (hb hby d24_6) rfl ?_
      show Steps p.tables e below (s₁.setTop (mkF m 7 #[.val (.ref a1), .val (.int p1), .val (.int p2), .unset, .unset] [(.int p2)])) _
      refine XS.ifYes X0.here hx rfl (pc0 := 7) (pc' := 38) rfl (hb hby d24_7) rfl ((if0 _ _).trans (teq (hc : p2 = (0 : Int32))).1) (by decide) (by decide) ?_
      show Steps p.tables e below (s₁.setTop (mkF m 38 #[.val (.ref a1), .val (.int p1), .val (.int p2), .unset, .unset] [])) _
      refine XS.aloadN X0.here hx rfl (hb hby d24_38) rfl rfl ?_
      exact kt
    refine Go.adv sg2 ?_
    obtain ⟨cq3, kq3, q3a, q3b, q3c⟩ := isOf hZ e0 E_a1
    obtain ⟨_, _, ⟨T3, L3, k3, n3⟩, -, X3, ⟨Lc3, hQ3, l3, y3, z3⟩, st3⟩ := X0.virtualBack hx (y := (⟨"com/example/nudged_routes/nudgedroutes/simulation/LinkQueue", "unschedule", "()V"⟩ : MethodName)) (z := (⟨"com/example/nudged_routes/nudgedroutes/simulation/LinkQueue", "unschedule", "()V"⟩ : MethodName)) hown (mvT hZ (hw _ (List.mem_of_getElem? (i := 203) rfl))) (mvT hZ (hw _ (List.mem_of_getElem? (i := 204) rfl))) (notFace_of_selects (args := #[]) (mvT hZ (hw _ (List.mem_of_getElem? (i := 206) rfl)))) (mvT hZ (hw _ (List.mem_of_getElem? (i := 206) rfl))) (mvT hZ (hw _ (List.mem_of_getElem? (i := 205) rfl))) (by decide) (backOf (W := 0) (rm_un l Z a0 hw [] a1 (.int p1) h0 n0 Z0 E_a1 g_a1 F_scheduled_a1) hZ (hw _ (List.mem_of_getElem? (i := 207) rfl)) (hw _ (List.mem_of_getElem? (i := 38) rfl)) (by decide) (by decide)) q3a q3c (g := (mkF m 39 #[.val (.ref a1), .val (.int p1), .val (.int p2), .unset, .unset] [(.ref a1)])) rfl (by rw [hml]; rfl) (Steps.refl _) (argsL := []) (rest := []) (lenOf pd_ocV rfl) rfl (by show 2 * 0 + _ ≤ _; exact Nat.le_of_eq rfl) (hb hby d24_39) (fun _ _ => ⟨rfl, e0, (by decide : 0 + 0 ≤ _), (by decide : 0 + 0 ≤ _)⟩)
    dsimp only [Pt.U, Pt.locs, Pt.cells, Pt.slots] at X3 l3 y3 z3 st3 hQ3
    subst l3 y3 z3
    obtain ⟨rfl, N3q, Kc3, p3_0, p3_1⟩ := hQ3
    have N3 := Fr.app N0 N3q
    have K3 : Keep h0 T3.heap [a1] := (Keep.refl h0 [a1]).trans Kc3 (allS (Or.inl (List.mem_of_getElem? (i := 0) rfl)) all0)
    have Z3 : n0 ≤ T3.heap.size := Nat.le_trans Z0 Kc3.1
    refine Go.tr st3 ?_
    show Go p.tables e below s _ _ _ (T3.setTop (mkF m 42 #[.val (.ref a1), .val (.int p1), .val (.int p2), .unset, .unset] []))
    have sg4 : ∀ t, Steps p.tables e below (T3.setTop (mkF m 43 #[.val (.ref a1), .val (.int p1), .val (.int p2), .unset, .unset] [(.int (0 : Int32))])) t → Steps p.tables e below (T3.setTop (mkF m 42 #[.val (.ref a1), .val (.int p1), .val (.int p2), .unset, .unset] [])) t := by
      intro t kt
      show Steps p.tables e below (T3.setTop (mkF m 42 #[.val (.ref a1), .val (.int p1), .val (.int p2), .unset, .unset] [])) _
      refine XS.iconst X3.here hx rfl (hb hby d24_42) ?_
      exact kt
    refine Go.adv sg4 ?_
    refine Go.ret (v := (some (.int (0 : Int32)))) X3 (fun h => by rw [Bd.returns] at h; cases h) Bd.notSynchronized (fun fs hr => retOut X3 hx Bd.returns rfl (Or.inl ⟨rfl, Or.inl rfl, _, rfl⟩) (hb hby d24_43) hr) ?_ (by decide) (by decide)
    show Q_rm_step Z a1 p1 p2 h0 n0 (some (.int (0 : Int32))) T3.heap _
    unfold Q_rm_step
    rw [own_bit_a hc]
    exact ⟨rfl, N3, K3, p3_0, p3_1⟩
  · have sg5 : ∀ t, Steps p.tables e below (s₁.setTop (mkF m 11 #[.val (.ref a1), .val (.int p1), .val (.int p2), .unset, .unset] [(.ref a1)])) t → Steps p.tables e below (s₁.setTop (mkF m 6 #[.val (.ref a1), .val (.int p1), .val (.int p2), .unset, .unset] [])) t := by
      intro t kt
      show Steps p.tables e below (s₁.setTop (mkF m 6 #[.val (.ref a1), .val (.int p1), .val (.int p2), .unset, .unset] [])) _
      refine XS.iloadN X0.here hx rfl (hb hby d24_6) rfl ?_
      show Steps p.tables e below (s₁.setTop (mkF m 7 #[.val (.ref a1), .val (.int p1), .val (.int p2), .unset, .unset] [(.int p2)])) _
      refine XS.ifNo X0.here hx rfl (hb hby d24_7) rfl ((if0 _ _).trans (feq (hc : ¬ (p2 = (0 : Int32)))).1) ?_
      show Steps p.tables e below (s₁.setTop (mkF m 10 #[.val (.ref a1), .val (.int p1), .val (.int p2), .unset, .unset] [])) _
      refine XS.aloadN X0.here hx rfl (hb hby d24_10) rfl rfl ?_
      exact kt
    refine Go.adv sg5 ?_
    obtain ⟨cq6, kq6, q6a, q6b, q6c⟩ := isOf hZ e0 E_a1
    obtain ⟨_, _, ⟨T6, L6, k6, n6⟩, -, X6, ⟨Lc6, hQ6, l6, y6, z6⟩, st6⟩ := X0.virtualBack hx (y := (⟨"com/example/nudged_routes/nudgedroutes/simulation/LinkQueue", "schedule", "()Z"⟩ : MethodName)) (z := (⟨"com/example/nudged_routes/nudgedroutes/simulation/LinkQueue", "schedule", "()Z"⟩ : MethodName)) hown (mvT hZ (hw _ (List.mem_of_getElem? (i := 210) rfl))) (mvT hZ (hw _ (List.mem_of_getElem? (i := 211) rfl))) (notFace_of_selects (args := #[]) (mvT hZ (hw _ (List.mem_of_getElem? (i := 213) rfl)))) (mvT hZ (hw _ (List.mem_of_getElem? (i := 213) rfl))) (mvT hZ (hw _ (List.mem_of_getElem? (i := 212) rfl))) (by decide) (backOf (W := 0) (rm_sc l Z a0 hw [] a1 p1 h0 n0 Z0 E_a1 g_a1 F_scheduled_a1) hZ (hw _ (List.mem_of_getElem? (i := 214) rfl)) (hw _ (List.mem_of_getElem? (i := 38) rfl)) (by decide) (by decide)) q6a q6c (g := (mkF m 11 #[.val (.ref a1), .val (.int p1), .val (.int p2), .unset, .unset] [(.ref a1)])) rfl (by rw [hml]; rfl) (Steps.refl _) (argsL := []) (rest := []) (lenOf pd_ocZ rfl) rfl (by show 2 * 0 + _ ≤ _; exact Nat.le_of_eq rfl) (hb hby d24_11) (fun _ _ => ⟨rfl, e0, (by decide : 0 + 0 ≤ _), (by decide : 0 + 0 ≤ _)⟩)
    dsimp only [Pt.U, Pt.locs, Pt.cells, Pt.slots] at X6 l6 y6 z6 st6 hQ6
    subst l6 y6 z6
    obtain ⟨rfl, N6q, Kc6, p6_0, p6_1⟩ := hQ6
    have N6 := Fr.app N0 N6q
    have K6 : Keep h0 T6.heap [a1] := (Keep.refl h0 [a1]).trans Kc6 (allS (Or.inl (List.mem_of_getElem? (i := 0) rfl)) all0)
    have Z6 : n0 ≤ T6.heap.size := Nat.le_trans Z0 Kc6.1
    refine Go.tr st6 ?_
    show Go p.tables e below s _ _ _ (T6.setTop (mkF m 14 #[.val (.ref a1), .val (.int p1), .val (.int p2), .unset, .unset] [(.int (own_not p1))]))
    have sg7 : ∀ t, Steps p.tables e below (T6.setTop (mkF m 15 #[.val (.ref a1), .val (.int p1), .val (.int p2), .val (.int (own_not p1)), .unset] [])) t → Steps p.tables e below (T6.setTop (mkF m 14 #[.val (.ref a1), .val (.int p1), .val (.int p2), .unset, .unset] [(.int (own_not p1))])) t := by
      intro t kt
      show Steps p.tables e below (T6.setTop (mkF m 14 #[.val (.ref a1), .val (.int p1), .val (.int p2), .unset, .unset] [(.int (own_not p1))])) _
      refine XS.istoreN X6.here hx rfl (hb hby d24_14) rfl (l' := #[.val (.ref a1), .val (.int p1), .val (.int p2), .val (.int (own_not p1)), .unset]) rfl ?_
      exact kt
    refine Go.adv sg7 ?_
    by_cases hd : p1 = (0 : Int32)
    · rw [own_not_a hd]
      show Go p.tables e below s _ _ _ (T6.setTop (mkF m 15 #[.val (.ref a1), .val (.int p1), .val (.int p2), .val (.int (1 : Int32)), .unset] []))
      have sg8 : ∀ t, Steps p.tables e below (T6.setTop (mkF m 37 #[.val (.ref a1), .val (.int p1), .val (.int p2), .val (.int (1 : Int32)), .val (.int (1 : Int32))] [(.int (1 : Int32))])) t → Steps p.tables e below (T6.setTop (mkF m 15 #[.val (.ref a1), .val (.int p1), .val (.int p2), .val (.int (1 : Int32)), .unset] [])) t := by
        intro t kt
        show Steps p.tables e below (T6.setTop (mkF m 15 #[.val (.ref a1), .val (.int p1), .val (.int p2), .val (.int (1 : Int32)), .unset] [])) _
        refine XS.iloadN X6.here hx rfl (hb hby d24_15) rfl ?_
        show Steps p.tables e below (T6.setTop (mkF m 16 #[.val (.ref a1), .val (.int p1), .val (.int p2), .val (.int (1 : Int32)), .unset] [(.int p1)])) _
        refine XS.ifNo X6.here hx rfl (hb hby d24_16) rfl ((if0 _ _).trans (teq (hd : p1 = (0 : Int32))).2) ?_
        show Steps p.tables e below (T6.setTop (mkF m 19 #[.val (.ref a1), .val (.int p1), .val (.int p2), .val (.int (1 : Int32)), .unset] [])) _
        refine XS.iconst X6.here hx rfl (hb hby d24_19) ?_
        show Steps p.tables e below (T6.setTop (mkF m 20 #[.val (.ref a1), .val (.int p1), .val (.int p2), .val (.int (1 : Int32)), .unset] [(.int (1 : Int32))])) _
        refine XS.goto X6.here hx rfl (pc0 := 20) (pc' := 24) rfl (hb hby d24_20) (by decide) (by decide) ?_
        show Steps p.tables e below (T6.setTop (mkF m 24 #[.val (.ref a1), .val (.int p1), .val (.int p2), .val (.int (1 : Int32)), .unset] [(.int (1 : Int32))])) _
        refine XS.istore X6.here hx rfl (hb hby d24_24) rfl (l' := #[.val (.ref a1), .val (.int p1), .val (.int p2), .val (.int (1 : Int32)), .val (.int (1 : Int32))]) rfl ?_
        show Steps p.tables e below (T6.setTop (mkF m 26 #[.val (.ref a1), .val (.int p1), .val (.int p2), .val (.int (1 : Int32)), .val (.int (1 : Int32))] [])) _
        refine XS.iloadN X6.here hx rfl (hb hby d24_26) rfl ?_
        show Steps p.tables e below (T6.setTop (mkF m 27 #[.val (.ref a1), .val (.int p1), .val (.int p2), .val (.int (1 : Int32)), .val (.int (1 : Int32))] [(.int (1 : Int32))])) _
        refine XS.iload X6.here hx rfl (hb hby d24_27) rfl ?_
        show Steps p.tables e below (T6.setTop (mkF m 29 #[.val (.ref a1), .val (.int p1), .val (.int p2), .val (.int (1 : Int32)), .val (.int (1 : Int32))] [(.int (1 : Int32)), (.int (1 : Int32))])) _
        refine XS.icmpNo X6.here hx rfl (hb hby d24_29) rfl (teq (by decide : (1 : Int32) = (1 : Int32))).2 ?_
        show Steps p.tables e below (T6.setTop (mkF m 32 #[.val (.ref a1), .val (.int p1), .val (.int p2), .val (.int (1 : Int32)), .val (.int (1 : Int32))] [])) _
        refine XS.iconst X6.here hx rfl (hb hby d24_32) ?_
        show Steps p.tables e below (T6.setTop (mkF m 33 #[.val (.ref a1), .val (.int p1), .val (.int p2), .val (.int (1 : Int32)), .val (.int (1 : Int32))] [(.int (1 : Int32))])) _
        refine XS.goto X6.here hx rfl (pc0 := 33) (pc' := 37) rfl (hb hby d24_33) (by decide) (by decide) ?_
        exact kt
      refine Go.adv sg8 ?_
      refine Go.ret (v := (some (.int (1 : Int32)))) X6 (fun h => by rw [Bd.returns] at h; cases h) Bd.notSynchronized (fun fs hr => retOut X6 hx Bd.returns rfl (Or.inl ⟨rfl, Or.inl rfl, _, rfl⟩) (hb hby d24_37) hr) ?_ (by decide) (by decide)
      show Q_rm_step Z a1 p1 p2 h0 n0 (some (.int (1 : Int32))) T6.heap _
      unfold Q_rm_step
      rw [own_bit_b hc]
      exact ⟨rfl, N6, K6, p6_0, p6_1⟩
    · rw [own_not_b hd]
      show Go p.tables e below s _ _ _ (T6.setTop (mkF m 15 #[.val (.ref a1), .val (.int p1), .val (.int p2), .val (.int (0 : Int32)), .unset] []))
      have sg9 : ∀ t, Steps p.tables e below (T6.setTop (mkF m 37 #[.val (.ref a1), .val (.int p1), .val (.int p2), .val (.int (0 : Int32)), .val (.int (0 : Int32))] [(.int (1 : Int32))])) t → Steps p.tables e below (T6.setTop (mkF m 15 #[.val (.ref a1), .val (.int p1), .val (.int p2), .val (.int (0 : Int32)), .unset] [])) t := by
        intro t kt
        show Steps p.tables e below (T6.setTop (mkF m 15 #[.val (.ref a1), .val (.int p1), .val (.int p2), .val (.int (0 : Int32)), .unset] [])) _
        refine XS.iloadN X6.here hx rfl (hb hby d24_15) rfl ?_
        show Steps p.tables e below (T6.setTop (mkF m 16 #[.val (.ref a1), .val (.int p1), .val (.int p2), .val (.int (0 : Int32)), .unset] [(.int p1)])) _
        refine XS.ifYes X6.here hx rfl (pc0 := 16) (pc' := 23) rfl (hb hby d24_16) rfl ((if0 _ _).trans (feq (hd : ¬ (p1 = (0 : Int32)))).2) (by decide) (by decide) ?_
        show Steps p.tables e below (T6.setTop (mkF m 23 #[.val (.ref a1), .val (.int p1), .val (.int p2), .val (.int (0 : Int32)), .unset] [])) _
        refine XS.iconst X6.here hx rfl (hb hby d24_23) ?_
        show Steps p.tables e below (T6.setTop (mkF m 24 #[.val (.ref a1), .val (.int p1), .val (.int p2), .val (.int (0 : Int32)), .unset] [(.int (0 : Int32))])) _
        refine XS.istore X6.here hx rfl (hb hby d24_24) rfl (l' := #[.val (.ref a1), .val (.int p1), .val (.int p2), .val (.int (0 : Int32)), .val (.int (0 : Int32))]) rfl ?_
        show Steps p.tables e below (T6.setTop (mkF m 26 #[.val (.ref a1), .val (.int p1), .val (.int p2), .val (.int (0 : Int32)), .val (.int (0 : Int32))] [])) _
        refine XS.iloadN X6.here hx rfl (hb hby d24_26) rfl ?_
        show Steps p.tables e below (T6.setTop (mkF m 27 #[.val (.ref a1), .val (.int p1), .val (.int p2), .val (.int (0 : Int32)), .val (.int (0 : Int32))] [(.int (0 : Int32))])) _
        refine XS.iload X6.here hx rfl (hb hby d24_27) rfl ?_
        show Steps p.tables e below (T6.setTop (mkF m 29 #[.val (.ref a1), .val (.int p1), .val (.int p2), .val (.int (0 : Int32)), .val (.int (0 : Int32))] [(.int (0 : Int32)), (.int (0 : Int32))])) _
        refine XS.icmpNo X6.here hx rfl (hb hby d24_29) rfl (teq (by decide : (0 : Int32) = (0 : Int32))).2 ?_
        show Steps p.tables e below (T6.setTop (mkF m 32 #[.val (.ref a1), .val (.int p1), .val (.int p2), .val (.int (0 : Int32)), .val (.int (0 : Int32))] [])) _
        refine XS.iconst X6.here hx rfl (hb hby d24_32) ?_
        show Steps p.tables e below (T6.setTop (mkF m 33 #[.val (.ref a1), .val (.int p1), .val (.int p2), .val (.int (0 : Int32)), .val (.int (0 : Int32))] [(.int (1 : Int32))])) _
        refine XS.goto X6.here hx rfl (pc0 := 33) (pc' := 37) rfl (hb hby d24_33) (by decide) (by decide) ?_
        exact kt
      refine Go.adv sg9 ?_
      refine Go.ret (v := (some (.int (1 : Int32)))) X6 (fun h => by rw [Bd.returns] at h; cases h) Bd.notSynchronized (fun fs hr => retOut X6 hx Bd.returns rfl (Or.inl ⟨rfl, Or.inl rfl, _, rfl⟩) (hb hby d24_37) hr) ?_ (by decide) (by decide)
      show Q_rm_step Z a1 p1 p2 h0 n0 (some (.int (1 : Int32))) T6.heap _
      unfold Q_rm_step
      rw [own_bit_b hc]
      exact ⟨rfl, N6, K6, p6_0, p6_1⟩
theorem pn0 : plainName "com/example/nudged_routes/nudgedroutes/simulation/LinkQueueSchedulePinLaw" = true := by first | (simp [plainName, overriddenIn]; done) | decide +kernel
theorem own_wS {Z : State} {a0 : Array Value} (hw : ∀ d ∈ tables_1, d.before a0 Z = true) : ∀ a ∈ Bundle.stringAtoms, a.before a0 Z = true := by
  intro a ha
  simp only [Bundle.stringAtoms, List.mem_cons, List.not_mem_nil, or_false] at ha
  rcases ha with rfl | rfl | rfl | rfl | rfl | rfl | rfl
  · exact (hw _ (List.mem_of_getElem? (i := 4) rfl))
  · exact (hw _ (List.mem_of_getElem? (i := 5) rfl))
  · exact (hw _ (List.mem_of_getElem? (i := 6) rfl))
  · exact (hw _ (List.mem_of_getElem? (i := 7) rfl))
  · exact (hw _ (List.mem_of_getElem? (i := 8) rfl))
  · exact (hw _ (List.mem_of_getElem? (i := 9) rfl))
  · exact (hw _ (List.mem_of_getElem? (i := 10) rfl))
theorem pd_oILjavaslangsStringeLcomsexamplesnudged_routessnudgedroutessnetworksNodeeLcomsexamplesnudged_routessnudgedroutessnetworksNodeeDDDIcV : parseMethodDescriptor "(ILjava/lang/String;Lcom/example/nudged_routes/nudgedroutes/network/Node;Lcom/example/nudged_routes/nudgedroutes/network/Node;DDDI)V" = some ⟨[.int, (.object "java/lang/String"), (.object "com/example/nudged_routes/nudgedroutes/network/Node"), (.object "com/example/nudged_routes/nudgedroutes/network/Node"), .double, .double, .double, .int], none⟩ := by decide +kernel
theorem pd_oLcomsexamplesnudged_routessnudgedroutessnetworksLinkecV : parseMethodDescriptor "(Lcom/example/nudged_routes/nudgedroutes/network/Link;)V" = some ⟨[(.object "com/example/nudged_routes/nudgedroutes/network/Link")], none⟩ := by decide +kernel
theorem pd_oLcomsexamplesnudged_routessnudgedroutesssimulationsLinkQueueeIIcI : parseMethodDescriptor "(Lcom/example/nudged_routes/nudgedroutes/simulation/LinkQueue;II)I" = some ⟨[(.object "com/example/nudged_routes/nudgedroutes/simulation/LinkQueue"), .int, .int], some .int⟩ := by decide +kernel
theorem ef_rm0 (m : MethodId) (x0 : Int32) : entryFrame m #[(.int x0)] maxLocals = mkF m 0 #[.val (.int x0), .unset, .unset, .unset] [] := by first | (simp [entryFrame, mkF, argsToLocals, Value.category, maxLocals]; done) | rfl
def Q_rm0 (Z : State) (p1 : Int32) (ed : Addr) (ei : Addr) (h0 : Heap) (n0 : Nat) (v : Option Value) (h : Heap) (L : List Loc) : Prop := v = some (.int (1 : Int32)) ∧ Fr n0 L
set_option maxRecDepth 65536 in
set_option maxHeartbeats 40000000 in
theorem rm0 (l : Launch) (Z : State) (a0 : Array Value) (hw : ∀ d ∈ tables_1, d.before a0 Z = true) (ws : List Jvm.Cond) (p1 : Int32) (ed : Addr) (ei : Addr) (h0 : Heap) (n0 : Nat) (Z0 : n0 ≤ h0.size) (S_DEFAULTCAPACITY_EMPTY_ELEMENTDATA : Sta Z h0 "java/util/ArrayList" "DEFAULTCAPACITY_EMPTY_ELEMENTDATA" "[Ljava/lang/Object;" (.ref ed)) (S_EMPTY_ITERATOR : Sta Z h0 "java/util/Collections$EmptyIterator" "EMPTY_ITERATOR" "Ljava/util/Collections$EmptyIterator;" (.ref ei)) (S__assertionsDisabled : Sta Z h0 "java/lang/StrictMath" "$assertionsDisabled" "Z" (.int (1 : Int32))) :
    MetFree l x (head1 (Jvm.Cond.code x code maxLocals ret :: ws) room_1) (fun a U => a = #[(.int p1)] ∧ Z.Warmed39 U.vm ∧ U.heap = h0) (fun _ _ _ _ _ => True) (fun _ U o U' => ∃ v L, o = .returned v ∧ Q_rm0 Z p1 ed ei h0 n0 v U'.heap L ∧ ReturnedEndW U o U' L room_1.cells room_1.slots) := by
  refine MetFree.of_bodySF (plainFor_of_name pn0) hisR ?_
  intro p e s m args below meth c s₁ Bd hml0 hP hK
  obtain ⟨rfl, hZ, hh⟩ := hP
  have hx := Bd.exec
  have hby := Bd.bytes
  have hml : c.maxLocals = 4 := hml0
  have hown : s.vm.findClass "com/example/nudged_routes/nudgedroutes/simulation/LinkQueueSchedulePinLaw" = some m.cls := findClass_of_methodNamed Bd.named
  have hnm := (name_of_methodNamed Bd.named Bd.method).1
  have X0 : Stand p l e room_1 (s.setVm s.vm) m #[(.int p1)] below meth c s₁ [] 0 0 := Stand.of_body Bd
  have e0 : s₁.heap = h0 := by rw [← hh, Bd.state]; rfl
  have N0 := Fr.nil n0
  have hS0 : s.Since s.vm 0 := (State.WarmedH.refl s).since 0
  have hk0 : 0 ≤ h0.size := Nat.zero_le _
  refine GoW.start (Q := Q_rm0 Z p1 ed ei h0 n0) (ef_rm0 m p1) ?_
  obtain ⟨T1, h1, X1, e1, E1, A1, D1, -, st1⟩ := newO X0 hx hZ hown (hw _ (List.mem_of_getElem? (i := 0) rfl)) (hw _ (List.mem_of_getElem? (i := 1) rfl)) (hw _ (List.mem_of_getElem? (i := 2) rfl)) e0 (g := (mkF m 0 #[.val (.int p1), .unset, .unset, .unset] [])) rfl (hb hby at_0) (by decide) (by decide)
  obtain ⟨b1, gb1⟩ : ∃ z, z = h0.size := ⟨_, rfl⟩
  rw [← gb1] at A1 D1 st1
  have g_b1 : n0 ≤ b1 := Nat.le_trans Z0 (Nat.le_of_eq gb1.symm)
  have sz_b1 : h0.size ≤ b1 := Nat.le_trans (Keep.refl h0 []).1 (Nat.le_of_eq gb1.symm)
  have K1 : Keep h0 h1 [] := (Keep.refl h0 []).ext E1
  have Z1 : n0 ≤ h1.size := Nat.le_trans Z0 E1.1
  have hk1 := Nat.le_trans hk0 E1.1
  have F_index_b1 : Fld Z h1 b1 "com/example/nudged_routes/nudgedroutes/network/Link" "index" "I" (.int (0 : Int32)) := D1 (Or.inr (hw _ (List.mem_of_getElem? (i := 21) rfl))) (ty := .int) (by decide)
  have F_id_b1 : Fld Z h1 b1 "com/example/nudged_routes/nudgedroutes/network/Link" "id" "Ljava/lang/String;" .null := D1 (Or.inr (hw _ (List.mem_of_getElem? (i := 23) rfl))) (ty := (.object "java/lang/String")) (by decide)
  have F_from_b1 : Fld Z h1 b1 "com/example/nudged_routes/nudgedroutes/network/Link" "from" "Lcom/example/nudged_routes/nudgedroutes/network/Node;" .null := D1 (Or.inr (hw _ (List.mem_of_getElem? (i := 25) rfl))) (ty := (.object "com/example/nudged_routes/nudgedroutes/network/Node")) (by decide)
  have F_to_b1 : Fld Z h1 b1 "com/example/nudged_routes/nudgedroutes/network/Link" "to" "Lcom/example/nudged_routes/nudgedroutes/network/Node;" .null := D1 (Or.inr (hw _ (List.mem_of_getElem? (i := 27) rfl))) (ty := (.object "com/example/nudged_routes/nudgedroutes/network/Node")) (by decide)
  have F_capacityVph_b1 : Fld Z h1 b1 "com/example/nudged_routes/nudgedroutes/network/Link" "capacityVph" "D" (.double (0 : UInt64)) := D1 (Or.inr (hw _ (List.mem_of_getElem? (i := 29) rfl))) (ty := .double) (by decide)
  have F_lengthM_b1 : Fld Z h1 b1 "com/example/nudged_routes/nudgedroutes/network/Link" "lengthM" "D" (.double (0 : UInt64)) := D1 (Or.inr (hw _ (List.mem_of_getElem? (i := 31) rfl))) (ty := .double) (by decide)
  have F_freeFlowTimeS_b1 : Fld Z h1 b1 "com/example/nudged_routes/nudgedroutes/network/Link" "freeFlowTimeS" "D" (.double (0 : UInt64)) := D1 (Or.inr (hw _ (List.mem_of_getElem? (i := 33) rfl))) (ty := .double) (by decide)
  have F_lanes_b1 : Fld Z h1 b1 "com/example/nudged_routes/nudgedroutes/network/Link" "lanes" "I" (.int (0 : Int32)) := D1 (Or.inr (hw _ (List.mem_of_getElem? (i := 35) rfl))) (ty := .int) (by decide)
  refine GoW.adv st1 ?_
  show GoW p.tables e below s _ _ _ (T1.setTop (mkF m 3 #[.val (.int p1), .unset, .unset, .unset] [(.ref b1)]))
  have sg2 : ∀ t, Steps p.tables e below (T1.setTop (mkF m 5 #[.val (.int p1), .unset, .unset, .unset] [(.int (0 : Int32)), (.ref b1), (.ref b1)])) t → Steps p.tables e below (T1.setTop (mkF m 3 #[.val (.int p1), .unset, .unset, .unset] [(.ref b1)])) t := by
    intro t kt
    show Steps p.tables e below (T1.setTop (mkF m 3 #[.val (.int p1), .unset, .unset, .unset] [(.ref b1)])) _
    refine XS.dup X1.here hx rfl (hb hby at_3) rfl rfl ?_
    show Steps p.tables e below (T1.setTop (mkF m 4 #[.val (.int p1), .unset, .unset, .unset] [(.ref b1), (.ref b1)])) _
    refine XS.iconst X1.here hx rfl (hb hby at_4) ?_
    exact kt
  refine GoW.adv sg2 ?_
  obtain ⟨b3, T3, h3, k3, X3, e3, E3, hS3, hk3, hZ3, hown3, st3⟩ := ldcS X1 hx hZ hown (hw _ (List.mem_of_getElem? (i := 3) rfl)) (own_wS hw) e1 hS0 hk1 (g := (mkF m 5 #[.val (.int p1), .unset, .unset, .unset] [(.int (0 : Int32)), (.ref b1), (.ref b1)])) rfl (hb hby at_5) (n := 4) (by decide) (by decide) (by decide) (by decide)
  have K3 : Keep h0 h3 [] := K1.ext E3
  have Z3 : n0 ≤ h3.size := Nat.le_trans Z1 E3.1
  refine GoW.adv st3 ?_
  show GoW p.tables e below s _ _ _ (T3.setTop (mkF m 7 #[.val (.int p1), .unset, .unset, .unset] [(.ref b3), (.int (0 : Int32)), (.ref b1), (.ref b1)]))
  have sg4 : ∀ t, Steps p.tables e below (T3.setTop (mkF m 19 #[.val (.int p1), .unset, .unset, .unset] [(.int (1 : Int32)), (.double (4621819117588971520 : UInt64)), (.double (4636737291354636288 : UInt64)), (.double (4655631299166339072 : UInt64)), .null, .null, (.ref b3), (.int (0 : Int32)), (.ref b1), (.ref b1)])) t → Steps p.tables e below (T3.setTop (mkF m 7 #[.val (.int p1), .unset, .unset, .unset] [(.ref b3), (.int (0 : Int32)), (.ref b1), (.ref b1)])) t := by
    intro t kt
    show Steps p.tables e below (T3.setTop (mkF m 7 #[.val (.int p1), .unset, .unset, .unset] [(.ref b3), (.int (0 : Int32)), (.ref b1), (.ref b1)])) _
    refine XS.aconstNull X3.here hx rfl (hb hby at_7) ?_
    show Steps p.tables e below (T3.setTop (mkF m 8 #[.val (.int p1), .unset, .unset, .unset] [.null, (.ref b3), (.int (0 : Int32)), (.ref b1), (.ref b1)])) _
    refine XS.aconstNull X3.here hx rfl (hb hby at_8) ?_
    show Steps p.tables e below (T3.setTop (mkF m 9 #[.val (.int p1), .unset, .unset, .unset] [.null, .null, (.ref b3), (.int (0 : Int32)), (.ref b1), (.ref b1)])) _
    refine X3.ldc2DoubleC hx hown3 (mvT hZ3 (hw _ (List.mem_of_getElem? (i := 11) rfl))) (g := (mkF m 9 #[.val (.int p1), .unset, .unset, .unset] [.null, .null, (.ref b3), (.int (0 : Int32)), (.ref b1), (.ref b1)])) rfl (hb hby at_9) _ ?_
    show Steps p.tables e below (T3.setTop (mkF m 12 #[.val (.int p1), .unset, .unset, .unset] [(.double (4655631299166339072 : UInt64)), .null, .null, (.ref b3), (.int (0 : Int32)), (.ref b1), (.ref b1)])) _
    refine X3.ldc2DoubleC hx hown3 (mvT hZ3 (hw _ (List.mem_of_getElem? (i := 12) rfl))) (g := (mkF m 12 #[.val (.int p1), .unset, .unset, .unset] [(.double (4655631299166339072 : UInt64)), .null, .null, (.ref b3), (.int (0 : Int32)), (.ref b1), (.ref b1)])) rfl (hb hby at_12) _ ?_
    show Steps p.tables e below (T3.setTop (mkF m 15 #[.val (.int p1), .unset, .unset, .unset] [(.double (4636737291354636288 : UInt64)), (.double (4655631299166339072 : UInt64)), .null, .null, (.ref b3), (.int (0 : Int32)), (.ref b1), (.ref b1)])) _
    refine X3.ldc2DoubleC hx hown3 (mvT hZ3 (hw _ (List.mem_of_getElem? (i := 13) rfl))) (g := (mkF m 15 #[.val (.int p1), .unset, .unset, .unset] [(.double (4636737291354636288 : UInt64)), (.double (4655631299166339072 : UInt64)), .null, .null, (.ref b3), (.int (0 : Int32)), (.ref b1), (.ref b1)])) rfl (hb hby at_15) _ ?_
    show Steps p.tables e below (T3.setTop (mkF m 18 #[.val (.int p1), .unset, .unset, .unset] [(.double (4621819117588971520 : UInt64)), (.double (4636737291354636288 : UInt64)), (.double (4655631299166339072 : UInt64)), .null, .null, (.ref b3), (.int (0 : Int32)), (.ref b1), (.ref b1)])) _
    refine XS.iconst X3.here hx rfl (hb hby at_18) ?_
    exact kt
  refine GoW.adv sg4 ?_
  have f5 := (A1.ext E3)
  have f6 := (F_index_b1.ext E3)
  have f7 := (F_id_b1.ext E3)
  have f8 := (F_from_b1.ext E3)
  have f9 := (F_to_b1.ext E3)
  have f10 := (F_capacityVph_b1.ext E3)
  have f11 := (F_lengthM_b1.ext E3)
  have f12 := (F_freeFlowTimeS_b1.ext E3)
  have f13 := (F_lanes_b1.ext E3)
  have f14 := ((S_DEFAULTCAPACITY_EMPTY_ELEMENTDATA.ext E1).ext E3)
  have f15 := ((S_EMPTY_ITERATOR.ext E1).ext E3)
  have f16 := ((S__assertionsDisabled.ext E1).ext E3)
  obtain ⟨_, _, ⟨T17, L17, k17, n17⟩, -, X17, ⟨Lc17, hQ17, l17, y17, z17⟩, st17⟩ := X3.specialBack hx (y := (⟨"com/example/nudged_routes/nudgedroutes/network/Link", "<init>", "(ILjava/lang/String;Lcom/example/nudged_routes/nudgedroutes/network/Node;Lcom/example/nudged_routes/nudgedroutes/network/Node;DDDI)V"⟩ : MethodName)) rfl hown3 (mvT hZ3 (hw _ (List.mem_of_getElem? (i := 14) rfl))) (mvT hZ3 (hw _ (List.mem_of_getElem? (i := 15) rfl))) (mvT hZ3 (hw _ (List.mem_of_getElem? (i := 16) rfl))) (by decide) (backOf (W := 1) (rm_link l Z a0 hw [] b1 (0 : Int32) b3 (4655631299166339072 : UInt64) (4636737291354636288 : UInt64) (4621819117588971520 : UInt64) (1 : Int32) (.int (0 : Int32)) (.null) (.null) (.null) (.double (0 : UInt64)) (.double (0 : UInt64)) (.double (0 : UInt64)) (.int (0 : Int32)) h3 n0 Z3 f5 g_b1 f6 f7 f8 f9 f10 f11 f12 f13 own_link) hZ3 (hw _ (List.mem_of_getElem? (i := 16) rfl)) (hw _ (List.mem_of_getElem? (i := 2) rfl)) (by decide) (by decide)) (g := (mkF m 19 #[.val (.int p1), .unset, .unset, .unset] [(.int (1 : Int32)), (.double (4621819117588971520 : UInt64)), (.double (4636737291354636288 : UInt64)), (.double (4655631299166339072 : UInt64)), .null, .null, (.ref b3), (.int (0 : Int32)), (.ref b1), (.ref b1)])) rfl (by rw [hml]; rfl) (Steps.refl _) (a := b1) (argsL := [(.int (0 : Int32)), (.ref b3), .null, .null, (.double (4655631299166339072 : UInt64)), (.double (4636737291354636288 : UInt64)), (.double (4621819117588971520 : UInt64)), (.int (1 : Int32))]) (rest := [(.ref b1)]) (lenOf pd_oILjavaslangsStringeLcomsexamplesnudged_routessnudgedroutessnetworksNodeeLcomsexamplesnudged_routessnudgedroutessnetworksNodeeDDDIcV rfl) rfl (by show 2 * 0 + _ ≤ _; exact Nat.le_of_eq rfl) (hb hby at_19) (fun _ _ => ⟨rfl, e3, (by decide : 3 + 0 ≤ _), (by decide : 16 + 0 ≤ _)⟩)
  dsimp only [Pt.U, Pt.locs, Pt.cells, Pt.slots] at X17 l17 y17 z17 st17 hQ17
  subst l17 y17 z17
  obtain ⟨rfl, N17q, Kc17, p17_0, p17_1, p17_2, p17_3, p17_4, p17_5, p17_6, p17_7, p17_8⟩ := hQ17
  have N17 := Fr.app N0 N17q
  have s17_DEFAULTCAPACITY_EMPTY_ELEMENTDATA := own_staKeep f14 Kc17 f5
  have s17_EMPTY_ITERATOR := own_staKeep f15 Kc17 f5
  have s17__assertionsDisabled := own_staKeep f16 Kc17 f5
  have K17 : Keep h0 T17.heap [] := K3.trans Kc17 (allS (Or.inr sz_b1) all0)
  have Z17 : n0 ≤ T17.heap.size := Nat.le_trans Z3 Kc17.1
  have hk17 := Nat.le_trans hk3 Kc17.1
  refine GoW.tr st17 ?_
  show GoW p.tables e below s _ _ _ (T17.setTop (mkF m 22 #[.val (.int p1), .unset, .unset, .unset] [(.ref b1)]))
  have sg18 : ∀ t, Steps p.tables e below (T17.setTop (mkF m 23 #[.val (.int p1), .val (.ref b1), .unset, .unset] [])) t → Steps p.tables e below (T17.setTop (mkF m 22 #[.val (.int p1), .unset, .unset, .unset] [(.ref b1)])) t := by
    intro t kt
    show Steps p.tables e below (T17.setTop (mkF m 22 #[.val (.int p1), .unset, .unset, .unset] [(.ref b1)])) _
    refine XS.astoreN X17.here hx rfl (hb hby at_22) rfl rfl (l' := #[.val (.int p1), .val (.ref b1), .unset, .unset]) rfl ?_
    exact kt
  refine GoW.adv sg18 ?_
  obtain ⟨T19, h19, X19, e19, E19, A19, D19, -, st19⟩ := newO X17 hx hZ3 hown3 (hw _ (List.mem_of_getElem? (i := 36) rfl)) (hw _ (List.mem_of_getElem? (i := 37) rfl)) (hw _ (List.mem_of_getElem? (i := 38) rfl)) rfl (g := (mkF m 23 #[.val (.int p1), .val (.ref b1), .unset, .unset] [])) rfl (hb hby at_23) (by decide) (by decide)
  obtain ⟨b19, gb19⟩ : ∃ z, z = T17.heap.size := ⟨_, rfl⟩
  rw [← gb19] at A19 D19 st19
  have g_b19 : n0 ≤ b19 := Nat.le_trans Z17 (Nat.le_of_eq gb19.symm)
  have sz_b19 : h0.size ≤ b19 := Nat.le_trans K17.1 (Nat.le_of_eq gb19.symm)
  have ne_b1_b19 : b1 ≠ b19 := Nat.ne_of_lt (Nat.lt_of_lt_of_le p17_0.lt (Nat.le_of_eq gb19.symm))
  have K19 : Keep h0 h19 [] := K17.ext E19
  have Z19 : n0 ≤ h19.size := Nat.le_trans Z17 E19.1
  have hk19 := Nat.le_trans hk17 E19.1
  have F_incidents_b19 : Fld Z h19 b19 "com/example/nudged_routes/nudgedroutes/simulation/LinkQueue" "incidents" "Ljava/util/List;" .null := D19 (Or.inr (hw _ (List.mem_of_getElem? (i := 68) rfl))) (ty := (.object "java/util/List")) (by decide)
  have F_credit_b19 : Fld Z h19 b19 "com/example/nudged_routes/nudgedroutes/simulation/LinkQueue" "credit" "J" (.long (0 : Int64)) := D19 (Or.inl (hw _ (List.mem_of_getElem? (i := 71) rfl))) (ty := .long) (by decide)
  have F_link_b19 : Fld Z h19 b19 "com/example/nudged_routes/nudgedroutes/simulation/LinkQueue" "link" "Lcom/example/nudged_routes/nudgedroutes/network/Link;" .null := D19 (Or.inr (hw _ (List.mem_of_getElem? (i := 73) rfl))) (ty := (.object "com/example/nudged_routes/nudgedroutes/network/Link")) (by decide)
  have F_freeFlowS_b19 : Fld Z h19 b19 "com/example/nudged_routes/nudgedroutes/simulation/LinkQueue" "freeFlowS" "I" (.int (0 : Int32)) := D19 (Or.inr (hw _ (List.mem_of_getElem? (i := 100) rfl))) (ty := .int) (by decide)
  have F_storage_b19 : Fld Z h19 b19 "com/example/nudged_routes/nudgedroutes/simulation/LinkQueue" "storage" "I" (.int (0 : Int32)) := D19 (Or.inr (hw _ (List.mem_of_getElem? (i := 142) rfl))) (ty := .int) (by decide)
  have F_earnedPerSecond_b19 : Fld Z h19 b19 "com/example/nudged_routes/nudgedroutes/simulation/LinkQueue" "earnedPerSecond" "J" (.long (0 : Int64)) := D19 (Or.inr (hw _ (List.mem_of_getElem? (i := 157) rfl))) (ty := .long) (by decide)
  have F_onLink_b19 : Fld Z h19 b19 "com/example/nudged_routes/nudgedroutes/simulation/LinkQueue" "onLink" "Ljava/util/ArrayDeque;" .null := D19 (Or.inr (hw _ (List.mem_of_getElem? (i := 171) rfl))) (ty := (.object "java/util/ArrayDeque")) (by decide)
  have F_waitingOnLinks_b19 : Fld Z h19 b19 "com/example/nudged_routes/nudgedroutes/simulation/LinkQueue" "waitingOnLinks" "Ljava/util/ArrayDeque;" .null := D19 (Or.inr (hw _ (List.mem_of_getElem? (i := 173) rfl))) (ty := (.object "java/util/ArrayDeque")) (by decide)
  have F_waitingAtOrigins_b19 : Fld Z h19 b19 "com/example/nudged_routes/nudgedroutes/simulation/LinkQueue" "waitingAtOrigins" "Lcom/example/nudged_routes/nudgedroutes/simulation/LinkQueue$OriginLine;" .null := D19 (Or.inr (hw _ (List.mem_of_getElem? (i := 194) rfl))) (ty := (.object "com/example/nudged_routes/nudgedroutes/simulation/LinkQueue$OriginLine")) (by decide)
  have F_copies_b19 : Fld Z h19 b19 "com/example/nudged_routes/nudgedroutes/simulation/LinkQueue" "copies" "Lcom/example/nudged_routes/nudgedroutes/simulation/DayCopies;" .null := D19 (Or.inr (hw _ (List.mem_of_getElem? (i := 196) rfl))) (ty := (.object "com/example/nudged_routes/nudgedroutes/simulation/DayCopies")) (by decide)
  have F_departures_b19 : Fld Z h19 b19 "com/example/nudged_routes/nudgedroutes/simulation/LinkQueue" "departures" "Ljava/util/ArrayDeque;" .null := D19 (Or.inr (hw _ (List.mem_of_getElem? (i := 198) rfl))) (ty := (.object "java/util/ArrayDeque")) (by decide)
  have F_scheduled_b19 : Fld Z h19 b19 "com/example/nudged_routes/nudgedroutes/simulation/LinkQueue" "scheduled" "Z" (.int (0 : Int32)) := D19 (Or.inl (hw _ (List.mem_of_getElem? (i := 209) rfl))) (ty := .boolean) (by decide)
  refine GoW.adv st19 ?_
  show GoW p.tables e below s _ _ _ (T19.setTop (mkF m 26 #[.val (.int p1), .val (.ref b1), .unset, .unset] [(.ref b19)]))
  have sg20 : ∀ t, Steps p.tables e below (T19.setTop (mkF m 28 #[.val (.int p1), .val (.ref b1), .unset, .unset] [(.ref b1), (.ref b19), (.ref b19)])) t → Steps p.tables e below (T19.setTop (mkF m 26 #[.val (.int p1), .val (.ref b1), .unset, .unset] [(.ref b19)])) t := by
    intro t kt
    show Steps p.tables e below (T19.setTop (mkF m 26 #[.val (.int p1), .val (.ref b1), .unset, .unset] [(.ref b19)])) _
    refine XS.dup X19.here hx rfl (hb hby at_26) rfl rfl ?_
    show Steps p.tables e below (T19.setTop (mkF m 27 #[.val (.int p1), .val (.ref b1), .unset, .unset] [(.ref b19), (.ref b19)])) _
    refine XS.aloadN X19.here hx rfl (hb hby at_27) rfl rfl ?_
    exact kt
  refine GoW.adv sg20 ?_
  have f21 := (s17_DEFAULTCAPACITY_EMPTY_ELEMENTDATA.ext E19)
  have f22 := (s17_EMPTY_ITERATOR.ext E19)
  have f23 := (s17__assertionsDisabled.ext E19)
  have f24 := (p17_0.ext E19)
  have f25 := (p17_5.ext E19)
  have f26 := (p17_6.ext E19)
  have f27 := (p17_7.ext E19)
  have f28 := (p17_8.ext E19)
  obtain ⟨_, _, ⟨T29, L29, k29, n29⟩, -, X29, ⟨Lc29, hQ29, l29, y29, z29⟩, st29⟩ := X19.specialBack hx (y := (⟨"com/example/nudged_routes/nudgedroutes/simulation/LinkQueue", "<init>", "(Lcom/example/nudged_routes/nudgedroutes/network/Link;)V"⟩ : MethodName)) rfl hown3 (mvT hZ3 (hw _ (List.mem_of_getElem? (i := 39) rfl))) (mvT hZ3 (hw _ (List.mem_of_getElem? (i := 40) rfl))) (mvT hZ3 (hw _ (List.mem_of_getElem? (i := 41) rfl))) (by decide) (backOf (W := 1) (rm_lq l Z a0 hw [] b19 b1 (.null) (.long (0 : Int64)) (.null) (.int (0 : Int32)) (.int (0 : Int32)) (.long (0 : Int64)) (.null) (.null) (.null) (.null) (.null) (.int (0 : Int32)) ed ei h19 n0 Z19 f21 f22 f23 A19 g_b19 F_incidents_b19 F_credit_b19 F_link_b19 F_freeFlowS_b19 F_storage_b19 F_earnedPerSecond_b19 F_onLink_b19 F_waitingOnLinks_b19 F_waitingAtOrigins_b19 F_copies_b19 F_departures_b19 F_scheduled_b19 f24 f25 f26 f27 f28 ne_b1_b19) hZ3 (hw _ (List.mem_of_getElem? (i := 41) rfl)) (hw _ (List.mem_of_getElem? (i := 38) rfl)) (by decide) (by decide)) (g := (mkF m 28 #[.val (.int p1), .val (.ref b1), .unset, .unset] [(.ref b1), (.ref b19), (.ref b19)])) rfl (by rw [hml]; rfl) (Steps.refl _) (a := b19) (argsL := [(.ref b1)]) (rest := [(.ref b19)]) (lenOf pd_oLcomsexamplesnudged_routessnudgedroutessnetworksLinkecV rfl) rfl (by show 2 * 0 + _ ≤ _; exact Nat.le_of_eq rfl) (hb hby at_28) (fun _ _ => ⟨rfl, e19, (by decide : 4 + 10 ≤ _), (by decide : 34 + 86 ≤ _)⟩)
  dsimp only [Pt.U, Pt.locs, Pt.cells, Pt.slots] at X29 l29 y29 z29 st29 hQ29
  subst l29 y29 z29
  obtain ⟨rfl, N29q, Kc29, p29_0, p29_1⟩ := hQ29
  have N29 := Fr.app N17 N29q
  have s29_DEFAULTCAPACITY_EMPTY_ELEMENTDATA := own_staKeep f21 Kc29 A19
  have s29_EMPTY_ITERATOR := own_staKeep f22 Kc29 A19
  have s29__assertionsDisabled := own_staKeep f23 Kc29 A19
  have K29 : Keep h0 T29.heap [] := K19.trans Kc29 (allS (Or.inr sz_b19) all0)
  have Z29 : n0 ≤ T29.heap.size := Nat.le_trans Z19 Kc29.1
  have hk29 := Nat.le_trans hk19 Kc29.1
  refine GoW.tr st29 ?_
  show GoW p.tables e below s _ _ _ (T29.setTop (mkF m 31 #[.val (.int p1), .val (.ref b1), .unset, .unset] [(.ref b19)]))
  have sg30 : ∀ t, Steps p.tables e below (T29.setTop (mkF m 39 #[.val (.int p1), .val (.ref b1), .val (.ref b19), .val (.int (0 : Int32))] [(.int (p1 &&& (1 : Int32))), (.int (0 : Int32)), (.ref b19)])) t → Steps p.tables e below (T29.setTop (mkF m 31 #[.val (.int p1), .val (.ref b1), .unset, .unset] [(.ref b19)])) t := by
    intro t kt
    show Steps p.tables e below (T29.setTop (mkF m 31 #[.val (.int p1), .val (.ref b1), .unset, .unset] [(.ref b19)])) _
    refine XS.astoreN X29.here hx rfl (hb hby at_31) rfl rfl (l' := #[.val (.int p1), .val (.ref b1), .val (.ref b19), .unset]) rfl ?_
    show Steps p.tables e below (T29.setTop (mkF m 32 #[.val (.int p1), .val (.ref b1), .val (.ref b19), .unset] [])) _
    refine XS.iconst X29.here hx rfl (hb hby at_32) ?_
    show Steps p.tables e below (T29.setTop (mkF m 33 #[.val (.int p1), .val (.ref b1), .val (.ref b19), .unset] [(.int (0 : Int32))])) _
    refine XS.istoreN X29.here hx rfl (hb hby at_33) rfl (l' := #[.val (.int p1), .val (.ref b1), .val (.ref b19), .val (.int (0 : Int32))]) rfl ?_
    show Steps p.tables e below (T29.setTop (mkF m 34 #[.val (.int p1), .val (.ref b1), .val (.ref b19), .val (.int (0 : Int32))] [])) _
    refine XS.aloadN X29.here hx rfl (hb hby at_34) rfl rfl ?_
    show Steps p.tables e below (T29.setTop (mkF m 35 #[.val (.int p1), .val (.ref b1), .val (.ref b19), .val (.int (0 : Int32))] [(.ref b19)])) _
    refine XS.iloadN X29.here hx rfl (hb hby at_35) rfl ?_
    show Steps p.tables e below (T29.setTop (mkF m 36 #[.val (.int p1), .val (.ref b1), .val (.ref b19), .val (.int (0 : Int32))] [(.int (0 : Int32)), (.ref b19)])) _
    refine XS.iloadN X29.here hx rfl (hb hby at_36) rfl ?_
    show Steps p.tables e below (T29.setTop (mkF m 37 #[.val (.int p1), .val (.ref b1), .val (.ref b19), .val (.int (0 : Int32))] [(.int p1), (.int (0 : Int32)), (.ref b19)])) _
    refine XS.iconst X29.here hx rfl (hb hby at_37) ?_
    show Steps p.tables e below (T29.setTop (mkF m 38 #[.val (.int p1), .val (.ref b1), .val (.ref b19), .val (.int (0 : Int32))] [(.int (1 : Int32)), (.int p1), (.int (0 : Int32)), (.ref b19)])) _
    refine XS.iand X29.here hx rfl (hb hby at_38) rfl ?_
    exact kt
  refine GoW.adv sg30 ?_
  obtain ⟨_, _, ⟨T31, L31, k31, n31⟩, -, X31, ⟨Lc31, hQ31, l31, y31, z31⟩, st31⟩ := Jvm.LawKit.callS X29 hx (y := (⟨"com/example/nudged_routes/nudgedroutes/simulation/LinkQueueSchedulePinLaw", "step", "(Lcom/example/nudged_routes/nudgedroutes/simulation/LinkQueue;II)I"⟩ : MethodName)) hown3 (mvT hZ3 (hw _ (List.mem_of_getElem? (i := 199) rfl))) (mvT hZ3 (hw _ (List.mem_of_getElem? (i := 200) rfl))) (mvT hZ3 (hw _ (List.mem_of_getElem? (i := 201) rfl))) (mvT hZ3 (hw _ (List.mem_of_getElem? (i := 202) rfl))) (by decide) (backOf (W := 0) (rm_step l Z a0 hw [] b19 (0 : Int32) (p1 &&& (1 : Int32))  T29.heap n0 Z29 p29_0 g_b19 p29_1 (Or.inl rfl)) hZ3 (hw _ (List.mem_of_getElem? (i := 202) rfl)) (hw _ (List.mem_of_getElem? (i := 201) rfl)) (by decide) (by decide)) (g := (mkF m 39 #[.val (.int p1), .val (.ref b1), .val (.ref b19), .val (.int (0 : Int32))] [(.int (p1 &&& (1 : Int32))), (.int (0 : Int32)), (.ref b19)])) rfl (by rw [hml]; rfl) (argsL := [(.ref b19), (.int (0 : Int32)), (.int (p1 &&& (1 : Int32)))]) (rest := []) (lenOf pd_oLcomsexamplesnudged_routessnudgedroutesssimulationsLinkQueueeIIcI rfl) rfl (by show 2 * 0 + _ ≤ _; exact Nat.le_of_eq rfl) (hb hby at_39) (fun _ _ => ⟨rfl, rfl, (by decide : 14 + 0 ≤ _), (by decide : 120 + 0 ≤ _)⟩)
  dsimp only [Pt.U, Pt.locs, Pt.cells, Pt.slots] at X31 l31 y31 z31 st31 hQ31
  subst l31 y31 z31
  obtain ⟨rfl, N31q, Kc31, p31_0, p31_1⟩ := hQ31
  have N31 := Fr.app N29 N31q
  have s31_DEFAULTCAPACITY_EMPTY_ELEMENTDATA := own_staKeep s29_DEFAULTCAPACITY_EMPTY_ELEMENTDATA Kc31 p29_0
  have s31_EMPTY_ITERATOR := own_staKeep s29_EMPTY_ITERATOR Kc31 p29_0
  have s31__assertionsDisabled := own_staKeep s29__assertionsDisabled Kc31 p29_0
  have K31 : Keep h0 T31.heap [] := K29.trans Kc31 (allS (Or.inr sz_b19) all0)
  have Z31 : n0 ≤ T31.heap.size := Nat.le_trans Z29 Kc31.1
  have hk31 := Nat.le_trans hk29 Kc31.1
  refine GoW.adv st31 ?_
  show GoW p.tables e below s _ _ _ (T31.setTop (mkF m 42 #[.val (.int p1), .val (.ref b1), .val (.ref b19), .val (.int (0 : Int32))] [(.int (own_bit (p1 &&& (1 : Int32))))]))
  have sg32 : ∀ t, Steps p.tables e below (T31.setTop (mkF m 50 #[.val (.int p1), .val (.ref b1), .val (.ref b19), .val (.int (own_bit (p1 &&& (1 : Int32))))] [(.int (((p1.toUInt32 >>> ((1 : Int32) &&& 31).toUInt32).toInt32) &&& (1 : Int32))), (.int (own_bit (p1 &&& (1 : Int32)))), (.ref b19)])) t → Steps p.tables e below (T31.setTop (mkF m 42 #[.val (.int p1), .val (.ref b1), .val (.ref b19), .val (.int (0 : Int32))] [(.int (own_bit (p1 &&& (1 : Int32))))])) t := by
    intro t kt
    show Steps p.tables e below (T31.setTop (mkF m 42 #[.val (.int p1), .val (.ref b1), .val (.ref b19), .val (.int (0 : Int32))] [(.int (own_bit (p1 &&& (1 : Int32))))])) _
    refine XS.istoreN X31.here hx rfl (hb hby at_42) rfl (l' := #[.val (.int p1), .val (.ref b1), .val (.ref b19), .val (.int (own_bit (p1 &&& (1 : Int32))))]) rfl ?_
    show Steps p.tables e below (T31.setTop (mkF m 43 #[.val (.int p1), .val (.ref b1), .val (.ref b19), .val (.int (own_bit (p1 &&& (1 : Int32))))] [])) _
    refine XS.aloadN X31.here hx rfl (hb hby at_43) rfl rfl ?_
    show Steps p.tables e below (T31.setTop (mkF m 44 #[.val (.int p1), .val (.ref b1), .val (.ref b19), .val (.int (own_bit (p1 &&& (1 : Int32))))] [(.ref b19)])) _
    refine XS.iloadN X31.here hx rfl (hb hby at_44) rfl ?_
    show Steps p.tables e below (T31.setTop (mkF m 45 #[.val (.int p1), .val (.ref b1), .val (.ref b19), .val (.int (own_bit (p1 &&& (1 : Int32))))] [(.int (own_bit (p1 &&& (1 : Int32)))), (.ref b19)])) _
    refine XS.iloadN X31.here hx rfl (hb hby at_45) rfl ?_
    show Steps p.tables e below (T31.setTop (mkF m 46 #[.val (.int p1), .val (.ref b1), .val (.ref b19), .val (.int (own_bit (p1 &&& (1 : Int32))))] [(.int p1), (.int (own_bit (p1 &&& (1 : Int32)))), (.ref b19)])) _
    refine XS.iconst X31.here hx rfl (hb hby at_46) ?_
    show Steps p.tables e below (T31.setTop (mkF m 47 #[.val (.int p1), .val (.ref b1), .val (.ref b19), .val (.int (own_bit (p1 &&& (1 : Int32))))] [(.int (1 : Int32)), (.int p1), (.int (own_bit (p1 &&& (1 : Int32)))), (.ref b19)])) _
    refine XS.iushr X31.here hx rfl (hb hby at_47) rfl ?_
    show Steps p.tables e below (T31.setTop (mkF m 48 #[.val (.int p1), .val (.ref b1), .val (.ref b19), .val (.int (own_bit (p1 &&& (1 : Int32))))] [(.int ((p1.toUInt32 >>> ((1 : Int32) &&& 31).toUInt32).toInt32)), (.int (own_bit (p1 &&& (1 : Int32)))), (.ref b19)])) _
    refine XS.iconst X31.here hx rfl (hb hby at_48) ?_
    show Steps p.tables e below (T31.setTop (mkF m 49 #[.val (.int p1), .val (.ref b1), .val (.ref b19), .val (.int (own_bit (p1 &&& (1 : Int32))))] [(.int (1 : Int32)), (.int ((p1.toUInt32 >>> ((1 : Int32) &&& 31).toUInt32).toInt32)), (.int (own_bit (p1 &&& (1 : Int32)))), (.ref b19)])) _
    refine XS.iand X31.here hx rfl (hb hby at_49) rfl ?_
    exact kt
  refine GoW.adv sg32 ?_
  obtain ⟨_, _, ⟨T33, L33, k33, n33⟩, -, X33, ⟨Lc33, hQ33, l33, y33, z33⟩, st33⟩ := Jvm.LawKit.callS X31 hx (y := (⟨"com/example/nudged_routes/nudgedroutes/simulation/LinkQueueSchedulePinLaw", "step", "(Lcom/example/nudged_routes/nudgedroutes/simulation/LinkQueue;II)I"⟩ : MethodName)) hown3 (mvT hZ3 (hw _ (List.mem_of_getElem? (i := 199) rfl))) (mvT hZ3 (hw _ (List.mem_of_getElem? (i := 200) rfl))) (mvT hZ3 (hw _ (List.mem_of_getElem? (i := 201) rfl))) (mvT hZ3 (hw _ (List.mem_of_getElem? (i := 202) rfl))) (by decide) (backOf (W := 0) (rm_step l Z a0 hw [] b19 (own_bit (p1 &&& (1 : Int32))) (((p1.toUInt32 >>> ((1 : Int32) &&& 31).toUInt32).toInt32) &&& (1 : Int32))  T31.heap n0 Z31 p31_0 g_b19 p31_1 (own_bit_01 _)) hZ3 (hw _ (List.mem_of_getElem? (i := 202) rfl)) (hw _ (List.mem_of_getElem? (i := 201) rfl)) (by decide) (by decide)) (g := (mkF m 50 #[.val (.int p1), .val (.ref b1), .val (.ref b19), .val (.int (own_bit (p1 &&& (1 : Int32))))] [(.int (((p1.toUInt32 >>> ((1 : Int32) &&& 31).toUInt32).toInt32) &&& (1 : Int32))), (.int (own_bit (p1 &&& (1 : Int32)))), (.ref b19)])) rfl (by rw [hml]; rfl) (argsL := [(.ref b19), (.int (own_bit (p1 &&& (1 : Int32)))), (.int (((p1.toUInt32 >>> ((1 : Int32) &&& 31).toUInt32).toInt32) &&& (1 : Int32)))]) (rest := []) (lenOf pd_oLcomsexamplesnudged_routessnudgedroutesssimulationsLinkQueueeIIcI rfl) rfl (by show 2 * 0 + _ ≤ _; exact Nat.le_of_eq rfl) (hb hby at_50) (fun _ _ => ⟨rfl, rfl, (by decide : 14 + 0 ≤ _), (by decide : 120 + 0 ≤ _)⟩)
  dsimp only [Pt.U, Pt.locs, Pt.cells, Pt.slots] at X33 l33 y33 z33 st33 hQ33
  subst l33 y33 z33
  obtain ⟨rfl, N33q, Kc33, p33_0, p33_1⟩ := hQ33
  have N33 := Fr.app N31 N33q
  have s33_DEFAULTCAPACITY_EMPTY_ELEMENTDATA := own_staKeep s31_DEFAULTCAPACITY_EMPTY_ELEMENTDATA Kc33 p31_0
  have s33_EMPTY_ITERATOR := own_staKeep s31_EMPTY_ITERATOR Kc33 p31_0
  have s33__assertionsDisabled := own_staKeep s31__assertionsDisabled Kc33 p31_0
  have K33 : Keep h0 T33.heap [] := K31.trans Kc33 (allS (Or.inr sz_b19) all0)
  have Z33 : n0 ≤ T33.heap.size := Nat.le_trans Z31 Kc33.1
  have hk33 := Nat.le_trans hk31 Kc33.1
  refine GoW.adv st33 ?_
  show GoW p.tables e below s _ _ _ (T33.setTop (mkF m 53 #[.val (.int p1), .val (.ref b1), .val (.ref b19), .val (.int (own_bit (p1 &&& (1 : Int32))))] [(.int (own_bit (((p1.toUInt32 >>> ((1 : Int32) &&& 31).toUInt32).toInt32) &&& (1 : Int32))))]))
  have sg34 : ∀ t, Steps p.tables e below (T33.setTop (mkF m 61 #[.val (.int p1), .val (.ref b1), .val (.ref b19), .val (.int (own_bit (((p1.toUInt32 >>> ((1 : Int32) &&& 31).toUInt32).toInt32) &&& (1 : Int32))))] [(.int (((p1.toUInt32 >>> ((2 : Int32) &&& 31).toUInt32).toInt32) &&& (1 : Int32))), (.int (own_bit (((p1.toUInt32 >>> ((1 : Int32) &&& 31).toUInt32).toInt32) &&& (1 : Int32)))), (.ref b19)])) t → Steps p.tables e below (T33.setTop (mkF m 53 #[.val (.int p1), .val (.ref b1), .val (.ref b19), .val (.int (own_bit (p1 &&& (1 : Int32))))] [(.int (own_bit (((p1.toUInt32 >>> ((1 : Int32) &&& 31).toUInt32).toInt32) &&& (1 : Int32))))])) t := by
    intro t kt
    show Steps p.tables e below (T33.setTop (mkF m 53 #[.val (.int p1), .val (.ref b1), .val (.ref b19), .val (.int (own_bit (p1 &&& (1 : Int32))))] [(.int (own_bit (((p1.toUInt32 >>> ((1 : Int32) &&& 31).toUInt32).toInt32) &&& (1 : Int32))))])) _
    refine XS.istoreN X33.here hx rfl (hb hby at_53) rfl (l' := #[.val (.int p1), .val (.ref b1), .val (.ref b19), .val (.int (own_bit (((p1.toUInt32 >>> ((1 : Int32) &&& 31).toUInt32).toInt32) &&& (1 : Int32))))]) rfl ?_
    show Steps p.tables e below (T33.setTop (mkF m 54 #[.val (.int p1), .val (.ref b1), .val (.ref b19), .val (.int (own_bit (((p1.toUInt32 >>> ((1 : Int32) &&& 31).toUInt32).toInt32) &&& (1 : Int32))))] [])) _
    refine XS.aloadN X33.here hx rfl (hb hby at_54) rfl rfl ?_
    show Steps p.tables e below (T33.setTop (mkF m 55 #[.val (.int p1), .val (.ref b1), .val (.ref b19), .val (.int (own_bit (((p1.toUInt32 >>> ((1 : Int32) &&& 31).toUInt32).toInt32) &&& (1 : Int32))))] [(.ref b19)])) _
    refine XS.iloadN X33.here hx rfl (hb hby at_55) rfl ?_
    show Steps p.tables e below (T33.setTop (mkF m 56 #[.val (.int p1), .val (.ref b1), .val (.ref b19), .val (.int (own_bit (((p1.toUInt32 >>> ((1 : Int32) &&& 31).toUInt32).toInt32) &&& (1 : Int32))))] [(.int (own_bit (((p1.toUInt32 >>> ((1 : Int32) &&& 31).toUInt32).toInt32) &&& (1 : Int32)))), (.ref b19)])) _
    refine XS.iloadN X33.here hx rfl (hb hby at_56) rfl ?_
    show Steps p.tables e below (T33.setTop (mkF m 57 #[.val (.int p1), .val (.ref b1), .val (.ref b19), .val (.int (own_bit (((p1.toUInt32 >>> ((1 : Int32) &&& 31).toUInt32).toInt32) &&& (1 : Int32))))] [(.int p1), (.int (own_bit (((p1.toUInt32 >>> ((1 : Int32) &&& 31).toUInt32).toInt32) &&& (1 : Int32)))), (.ref b19)])) _
    refine XS.iconst X33.here hx rfl (hb hby at_57) ?_
    show Steps p.tables e below (T33.setTop (mkF m 58 #[.val (.int p1), .val (.ref b1), .val (.ref b19), .val (.int (own_bit (((p1.toUInt32 >>> ((1 : Int32) &&& 31).toUInt32).toInt32) &&& (1 : Int32))))] [(.int (2 : Int32)), (.int p1), (.int (own_bit (((p1.toUInt32 >>> ((1 : Int32) &&& 31).toUInt32).toInt32) &&& (1 : Int32)))), (.ref b19)])) _
    refine XS.iushr X33.here hx rfl (hb hby at_58) rfl ?_
    show Steps p.tables e below (T33.setTop (mkF m 59 #[.val (.int p1), .val (.ref b1), .val (.ref b19), .val (.int (own_bit (((p1.toUInt32 >>> ((1 : Int32) &&& 31).toUInt32).toInt32) &&& (1 : Int32))))] [(.int ((p1.toUInt32 >>> ((2 : Int32) &&& 31).toUInt32).toInt32)), (.int (own_bit (((p1.toUInt32 >>> ((1 : Int32) &&& 31).toUInt32).toInt32) &&& (1 : Int32)))), (.ref b19)])) _
    refine XS.iconst X33.here hx rfl (hb hby at_59) ?_
    show Steps p.tables e below (T33.setTop (mkF m 60 #[.val (.int p1), .val (.ref b1), .val (.ref b19), .val (.int (own_bit (((p1.toUInt32 >>> ((1 : Int32) &&& 31).toUInt32).toInt32) &&& (1 : Int32))))] [(.int (1 : Int32)), (.int ((p1.toUInt32 >>> ((2 : Int32) &&& 31).toUInt32).toInt32)), (.int (own_bit (((p1.toUInt32 >>> ((1 : Int32) &&& 31).toUInt32).toInt32) &&& (1 : Int32)))), (.ref b19)])) _
    refine XS.iand X33.here hx rfl (hb hby at_60) rfl ?_
    exact kt
  refine GoW.adv sg34 ?_
  obtain ⟨_, _, ⟨T35, L35, k35, n35⟩, -, X35, ⟨Lc35, hQ35, l35, y35, z35⟩, st35⟩ := Jvm.LawKit.callS X33 hx (y := (⟨"com/example/nudged_routes/nudgedroutes/simulation/LinkQueueSchedulePinLaw", "step", "(Lcom/example/nudged_routes/nudgedroutes/simulation/LinkQueue;II)I"⟩ : MethodName)) hown3 (mvT hZ3 (hw _ (List.mem_of_getElem? (i := 199) rfl))) (mvT hZ3 (hw _ (List.mem_of_getElem? (i := 200) rfl))) (mvT hZ3 (hw _ (List.mem_of_getElem? (i := 201) rfl))) (mvT hZ3 (hw _ (List.mem_of_getElem? (i := 202) rfl))) (by decide) (backOf (W := 0) (rm_step l Z a0 hw [] b19 (own_bit (((p1.toUInt32 >>> ((1 : Int32) &&& 31).toUInt32).toInt32) &&& (1 : Int32))) (((p1.toUInt32 >>> ((2 : Int32) &&& 31).toUInt32).toInt32) &&& (1 : Int32))  T33.heap n0 Z33 p33_0 g_b19 p33_1 (own_bit_01 _)) hZ3 (hw _ (List.mem_of_getElem? (i := 202) rfl)) (hw _ (List.mem_of_getElem? (i := 201) rfl)) (by decide) (by decide)) (g := (mkF m 61 #[.val (.int p1), .val (.ref b1), .val (.ref b19), .val (.int (own_bit (((p1.toUInt32 >>> ((1 : Int32) &&& 31).toUInt32).toInt32) &&& (1 : Int32))))] [(.int (((p1.toUInt32 >>> ((2 : Int32) &&& 31).toUInt32).toInt32) &&& (1 : Int32))), (.int (own_bit (((p1.toUInt32 >>> ((1 : Int32) &&& 31).toUInt32).toInt32) &&& (1 : Int32)))), (.ref b19)])) rfl (by rw [hml]; rfl) (argsL := [(.ref b19), (.int (own_bit (((p1.toUInt32 >>> ((1 : Int32) &&& 31).toUInt32).toInt32) &&& (1 : Int32)))), (.int (((p1.toUInt32 >>> ((2 : Int32) &&& 31).toUInt32).toInt32) &&& (1 : Int32)))]) (rest := []) (lenOf pd_oLcomsexamplesnudged_routessnudgedroutesssimulationsLinkQueueeIIcI rfl) rfl (by show 2 * 0 + _ ≤ _; exact Nat.le_of_eq rfl) (hb hby at_61) (fun _ _ => ⟨rfl, rfl, (by decide : 14 + 0 ≤ _), (by decide : 120 + 0 ≤ _)⟩)
  dsimp only [Pt.U, Pt.locs, Pt.cells, Pt.slots] at X35 l35 y35 z35 st35 hQ35
  subst l35 y35 z35
  obtain ⟨rfl, N35q, Kc35, p35_0, p35_1⟩ := hQ35
  have N35 := Fr.app N33 N35q
  have s35_DEFAULTCAPACITY_EMPTY_ELEMENTDATA := own_staKeep s33_DEFAULTCAPACITY_EMPTY_ELEMENTDATA Kc35 p33_0
  have s35_EMPTY_ITERATOR := own_staKeep s33_EMPTY_ITERATOR Kc35 p33_0
  have s35__assertionsDisabled := own_staKeep s33__assertionsDisabled Kc35 p33_0
  have K35 : Keep h0 T35.heap [] := K33.trans Kc35 (allS (Or.inr sz_b19) all0)
  have Z35 : n0 ≤ T35.heap.size := Nat.le_trans Z33 Kc35.1
  have hk35 := Nat.le_trans hk33 Kc35.1
  refine GoW.adv st35 ?_
  show GoW p.tables e below s _ _ _ (T35.setTop (mkF m 64 #[.val (.int p1), .val (.ref b1), .val (.ref b19), .val (.int (own_bit (((p1.toUInt32 >>> ((1 : Int32) &&& 31).toUInt32).toInt32) &&& (1 : Int32))))] [(.int (own_bit (((p1.toUInt32 >>> ((2 : Int32) &&& 31).toUInt32).toInt32) &&& (1 : Int32))))]))
  have sg36 : ∀ t, Steps p.tables e below (T35.setTop (mkF m 72 #[.val (.int p1), .val (.ref b1), .val (.ref b19), .val (.int (own_bit (((p1.toUInt32 >>> ((2 : Int32) &&& 31).toUInt32).toInt32) &&& (1 : Int32))))] [(.int (((p1.toUInt32 >>> ((3 : Int32) &&& 31).toUInt32).toInt32) &&& (1 : Int32))), (.int (own_bit (((p1.toUInt32 >>> ((2 : Int32) &&& 31).toUInt32).toInt32) &&& (1 : Int32)))), (.ref b19)])) t → Steps p.tables e below (T35.setTop (mkF m 64 #[.val (.int p1), .val (.ref b1), .val (.ref b19), .val (.int (own_bit (((p1.toUInt32 >>> ((1 : Int32) &&& 31).toUInt32).toInt32) &&& (1 : Int32))))] [(.int (own_bit (((p1.toUInt32 >>> ((2 : Int32) &&& 31).toUInt32).toInt32) &&& (1 : Int32))))])) t := by
    intro t kt
    show Steps p.tables e below (T35.setTop (mkF m 64 #[.val (.int p1), .val (.ref b1), .val (.ref b19), .val (.int (own_bit (((p1.toUInt32 >>> ((1 : Int32) &&& 31).toUInt32).toInt32) &&& (1 : Int32))))] [(.int (own_bit (((p1.toUInt32 >>> ((2 : Int32) &&& 31).toUInt32).toInt32) &&& (1 : Int32))))])) _
    refine XS.istoreN X35.here hx rfl (hb hby at_64) rfl (l' := #[.val (.int p1), .val (.ref b1), .val (.ref b19), .val (.int (own_bit (((p1.toUInt32 >>> ((2 : Int32) &&& 31).toUInt32).toInt32) &&& (1 : Int32))))]) rfl ?_
    show Steps p.tables e below (T35.setTop (mkF m 65 #[.val (.int p1), .val (.ref b1), .val (.ref b19), .val (.int (own_bit (((p1.toUInt32 >>> ((2 : Int32) &&& 31).toUInt32).toInt32) &&& (1 : Int32))))] [])) _
    refine XS.aloadN X35.here hx rfl (hb hby at_65) rfl rfl ?_
    show Steps p.tables e below (T35.setTop (mkF m 66 #[.val (.int p1), .val (.ref b1), .val (.ref b19), .val (.int (own_bit (((p1.toUInt32 >>> ((2 : Int32) &&& 31).toUInt32).toInt32) &&& (1 : Int32))))] [(.ref b19)])) _
    refine XS.iloadN X35.here hx rfl (hb hby at_66) rfl ?_
    show Steps p.tables e below (T35.setTop (mkF m 67 #[.val (.int p1), .val (.ref b1), .val (.ref b19), .val (.int (own_bit (((p1.toUInt32 >>> ((2 : Int32) &&& 31).toUInt32).toInt32) &&& (1 : Int32))))] [(.int (own_bit (((p1.toUInt32 >>> ((2 : Int32) &&& 31).toUInt32).toInt32) &&& (1 : Int32)))), (.ref b19)])) _
    refine XS.iloadN X35.here hx rfl (hb hby at_67) rfl ?_
    show Steps p.tables e below (T35.setTop (mkF m 68 #[.val (.int p1), .val (.ref b1), .val (.ref b19), .val (.int (own_bit (((p1.toUInt32 >>> ((2 : Int32) &&& 31).toUInt32).toInt32) &&& (1 : Int32))))] [(.int p1), (.int (own_bit (((p1.toUInt32 >>> ((2 : Int32) &&& 31).toUInt32).toInt32) &&& (1 : Int32)))), (.ref b19)])) _
    refine XS.iconst X35.here hx rfl (hb hby at_68) ?_
    show Steps p.tables e below (T35.setTop (mkF m 69 #[.val (.int p1), .val (.ref b1), .val (.ref b19), .val (.int (own_bit (((p1.toUInt32 >>> ((2 : Int32) &&& 31).toUInt32).toInt32) &&& (1 : Int32))))] [(.int (3 : Int32)), (.int p1), (.int (own_bit (((p1.toUInt32 >>> ((2 : Int32) &&& 31).toUInt32).toInt32) &&& (1 : Int32)))), (.ref b19)])) _
    refine XS.iushr X35.here hx rfl (hb hby at_69) rfl ?_
    show Steps p.tables e below (T35.setTop (mkF m 70 #[.val (.int p1), .val (.ref b1), .val (.ref b19), .val (.int (own_bit (((p1.toUInt32 >>> ((2 : Int32) &&& 31).toUInt32).toInt32) &&& (1 : Int32))))] [(.int ((p1.toUInt32 >>> ((3 : Int32) &&& 31).toUInt32).toInt32)), (.int (own_bit (((p1.toUInt32 >>> ((2 : Int32) &&& 31).toUInt32).toInt32) &&& (1 : Int32)))), (.ref b19)])) _
    refine XS.iconst X35.here hx rfl (hb hby at_70) ?_
    show Steps p.tables e below (T35.setTop (mkF m 71 #[.val (.int p1), .val (.ref b1), .val (.ref b19), .val (.int (own_bit (((p1.toUInt32 >>> ((2 : Int32) &&& 31).toUInt32).toInt32) &&& (1 : Int32))))] [(.int (1 : Int32)), (.int ((p1.toUInt32 >>> ((3 : Int32) &&& 31).toUInt32).toInt32)), (.int (own_bit (((p1.toUInt32 >>> ((2 : Int32) &&& 31).toUInt32).toInt32) &&& (1 : Int32)))), (.ref b19)])) _
    refine XS.iand X35.here hx rfl (hb hby at_71) rfl ?_
    exact kt
  refine GoW.adv sg36 ?_
  obtain ⟨_, _, ⟨T37, L37, k37, n37⟩, -, X37, ⟨Lc37, hQ37, l37, y37, z37⟩, st37⟩ := Jvm.LawKit.callS X35 hx (y := (⟨"com/example/nudged_routes/nudgedroutes/simulation/LinkQueueSchedulePinLaw", "step", "(Lcom/example/nudged_routes/nudgedroutes/simulation/LinkQueue;II)I"⟩ : MethodName)) hown3 (mvT hZ3 (hw _ (List.mem_of_getElem? (i := 199) rfl))) (mvT hZ3 (hw _ (List.mem_of_getElem? (i := 200) rfl))) (mvT hZ3 (hw _ (List.mem_of_getElem? (i := 201) rfl))) (mvT hZ3 (hw _ (List.mem_of_getElem? (i := 202) rfl))) (by decide) (backOf (W := 0) (rm_step l Z a0 hw [] b19 (own_bit (((p1.toUInt32 >>> ((2 : Int32) &&& 31).toUInt32).toInt32) &&& (1 : Int32))) (((p1.toUInt32 >>> ((3 : Int32) &&& 31).toUInt32).toInt32) &&& (1 : Int32))  T35.heap n0 Z35 p35_0 g_b19 p35_1 (own_bit_01 _)) hZ3 (hw _ (List.mem_of_getElem? (i := 202) rfl)) (hw _ (List.mem_of_getElem? (i := 201) rfl)) (by decide) (by decide)) (g := (mkF m 72 #[.val (.int p1), .val (.ref b1), .val (.ref b19), .val (.int (own_bit (((p1.toUInt32 >>> ((2 : Int32) &&& 31).toUInt32).toInt32) &&& (1 : Int32))))] [(.int (((p1.toUInt32 >>> ((3 : Int32) &&& 31).toUInt32).toInt32) &&& (1 : Int32))), (.int (own_bit (((p1.toUInt32 >>> ((2 : Int32) &&& 31).toUInt32).toInt32) &&& (1 : Int32)))), (.ref b19)])) rfl (by rw [hml]; rfl) (argsL := [(.ref b19), (.int (own_bit (((p1.toUInt32 >>> ((2 : Int32) &&& 31).toUInt32).toInt32) &&& (1 : Int32)))), (.int (((p1.toUInt32 >>> ((3 : Int32) &&& 31).toUInt32).toInt32) &&& (1 : Int32)))]) (rest := []) (lenOf pd_oLcomsexamplesnudged_routessnudgedroutesssimulationsLinkQueueeIIcI rfl) rfl (by show 2 * 0 + _ ≤ _; exact Nat.le_of_eq rfl) (hb hby at_72) (fun _ _ => ⟨rfl, rfl, (by decide : 14 + 0 ≤ _), (by decide : 120 + 0 ≤ _)⟩)
  dsimp only [Pt.U, Pt.locs, Pt.cells, Pt.slots] at X37 l37 y37 z37 st37 hQ37
  subst l37 y37 z37
  obtain ⟨rfl, N37q, Kc37, p37_0, p37_1⟩ := hQ37
  have N37 := Fr.app N35 N37q
  have s37_DEFAULTCAPACITY_EMPTY_ELEMENTDATA := own_staKeep s35_DEFAULTCAPACITY_EMPTY_ELEMENTDATA Kc37 p35_0
  have s37_EMPTY_ITERATOR := own_staKeep s35_EMPTY_ITERATOR Kc37 p35_0
  have s37__assertionsDisabled := own_staKeep s35__assertionsDisabled Kc37 p35_0
  have K37 : Keep h0 T37.heap [] := K35.trans Kc37 (allS (Or.inr sz_b19) all0)
  have Z37 : n0 ≤ T37.heap.size := Nat.le_trans Z35 Kc37.1
  have hk37 := Nat.le_trans hk35 Kc37.1
  refine GoW.adv st37 ?_
  show GoW p.tables e below s _ _ _ (T37.setTop (mkF m 75 #[.val (.int p1), .val (.ref b1), .val (.ref b19), .val (.int (own_bit (((p1.toUInt32 >>> ((2 : Int32) &&& 31).toUInt32).toInt32) &&& (1 : Int32))))] [(.int (own_bit (((p1.toUInt32 >>> ((3 : Int32) &&& 31).toUInt32).toInt32) &&& (1 : Int32))))]))
  have sg38 : ∀ t, Steps p.tables e below (T37.setTop (mkF m 83 #[.val (.int p1), .val (.ref b1), .val (.ref b19), .val (.int (own_bit (((p1.toUInt32 >>> ((3 : Int32) &&& 31).toUInt32).toInt32) &&& (1 : Int32))))] [(.int (((p1.toUInt32 >>> ((4 : Int32) &&& 31).toUInt32).toInt32) &&& (1 : Int32))), (.int (own_bit (((p1.toUInt32 >>> ((3 : Int32) &&& 31).toUInt32).toInt32) &&& (1 : Int32)))), (.ref b19)])) t → Steps p.tables e below (T37.setTop (mkF m 75 #[.val (.int p1), .val (.ref b1), .val (.ref b19), .val (.int (own_bit (((p1.toUInt32 >>> ((2 : Int32) &&& 31).toUInt32).toInt32) &&& (1 : Int32))))] [(.int (own_bit (((p1.toUInt32 >>> ((3 : Int32) &&& 31).toUInt32).toInt32) &&& (1 : Int32))))])) t := by
    intro t kt
    show Steps p.tables e below (T37.setTop (mkF m 75 #[.val (.int p1), .val (.ref b1), .val (.ref b19), .val (.int (own_bit (((p1.toUInt32 >>> ((2 : Int32) &&& 31).toUInt32).toInt32) &&& (1 : Int32))))] [(.int (own_bit (((p1.toUInt32 >>> ((3 : Int32) &&& 31).toUInt32).toInt32) &&& (1 : Int32))))])) _
    refine XS.istoreN X37.here hx rfl (hb hby at_75) rfl (l' := #[.val (.int p1), .val (.ref b1), .val (.ref b19), .val (.int (own_bit (((p1.toUInt32 >>> ((3 : Int32) &&& 31).toUInt32).toInt32) &&& (1 : Int32))))]) rfl ?_
    show Steps p.tables e below (T37.setTop (mkF m 76 #[.val (.int p1), .val (.ref b1), .val (.ref b19), .val (.int (own_bit (((p1.toUInt32 >>> ((3 : Int32) &&& 31).toUInt32).toInt32) &&& (1 : Int32))))] [])) _
    refine XS.aloadN X37.here hx rfl (hb hby at_76) rfl rfl ?_
    show Steps p.tables e below (T37.setTop (mkF m 77 #[.val (.int p1), .val (.ref b1), .val (.ref b19), .val (.int (own_bit (((p1.toUInt32 >>> ((3 : Int32) &&& 31).toUInt32).toInt32) &&& (1 : Int32))))] [(.ref b19)])) _
    refine XS.iloadN X37.here hx rfl (hb hby at_77) rfl ?_
    show Steps p.tables e below (T37.setTop (mkF m 78 #[.val (.int p1), .val (.ref b1), .val (.ref b19), .val (.int (own_bit (((p1.toUInt32 >>> ((3 : Int32) &&& 31).toUInt32).toInt32) &&& (1 : Int32))))] [(.int (own_bit (((p1.toUInt32 >>> ((3 : Int32) &&& 31).toUInt32).toInt32) &&& (1 : Int32)))), (.ref b19)])) _
    refine XS.iloadN X37.here hx rfl (hb hby at_78) rfl ?_
    show Steps p.tables e below (T37.setTop (mkF m 79 #[.val (.int p1), .val (.ref b1), .val (.ref b19), .val (.int (own_bit (((p1.toUInt32 >>> ((3 : Int32) &&& 31).toUInt32).toInt32) &&& (1 : Int32))))] [(.int p1), (.int (own_bit (((p1.toUInt32 >>> ((3 : Int32) &&& 31).toUInt32).toInt32) &&& (1 : Int32)))), (.ref b19)])) _
    refine XS.iconst X37.here hx rfl (hb hby at_79) ?_
    show Steps p.tables e below (T37.setTop (mkF m 80 #[.val (.int p1), .val (.ref b1), .val (.ref b19), .val (.int (own_bit (((p1.toUInt32 >>> ((3 : Int32) &&& 31).toUInt32).toInt32) &&& (1 : Int32))))] [(.int (4 : Int32)), (.int p1), (.int (own_bit (((p1.toUInt32 >>> ((3 : Int32) &&& 31).toUInt32).toInt32) &&& (1 : Int32)))), (.ref b19)])) _
    refine XS.iushr X37.here hx rfl (hb hby at_80) rfl ?_
    show Steps p.tables e below (T37.setTop (mkF m 81 #[.val (.int p1), .val (.ref b1), .val (.ref b19), .val (.int (own_bit (((p1.toUInt32 >>> ((3 : Int32) &&& 31).toUInt32).toInt32) &&& (1 : Int32))))] [(.int ((p1.toUInt32 >>> ((4 : Int32) &&& 31).toUInt32).toInt32)), (.int (own_bit (((p1.toUInt32 >>> ((3 : Int32) &&& 31).toUInt32).toInt32) &&& (1 : Int32)))), (.ref b19)])) _
    refine XS.iconst X37.here hx rfl (hb hby at_81) ?_
    show Steps p.tables e below (T37.setTop (mkF m 82 #[.val (.int p1), .val (.ref b1), .val (.ref b19), .val (.int (own_bit (((p1.toUInt32 >>> ((3 : Int32) &&& 31).toUInt32).toInt32) &&& (1 : Int32))))] [(.int (1 : Int32)), (.int ((p1.toUInt32 >>> ((4 : Int32) &&& 31).toUInt32).toInt32)), (.int (own_bit (((p1.toUInt32 >>> ((3 : Int32) &&& 31).toUInt32).toInt32) &&& (1 : Int32)))), (.ref b19)])) _
    refine XS.iand X37.here hx rfl (hb hby at_82) rfl ?_
    exact kt
  refine GoW.adv sg38 ?_
  obtain ⟨_, _, ⟨T39, L39, k39, n39⟩, -, X39, ⟨Lc39, hQ39, l39, y39, z39⟩, st39⟩ := Jvm.LawKit.callS X37 hx (y := (⟨"com/example/nudged_routes/nudgedroutes/simulation/LinkQueueSchedulePinLaw", "step", "(Lcom/example/nudged_routes/nudgedroutes/simulation/LinkQueue;II)I"⟩ : MethodName)) hown3 (mvT hZ3 (hw _ (List.mem_of_getElem? (i := 199) rfl))) (mvT hZ3 (hw _ (List.mem_of_getElem? (i := 200) rfl))) (mvT hZ3 (hw _ (List.mem_of_getElem? (i := 201) rfl))) (mvT hZ3 (hw _ (List.mem_of_getElem? (i := 202) rfl))) (by decide) (backOf (W := 0) (rm_step l Z a0 hw [] b19 (own_bit (((p1.toUInt32 >>> ((3 : Int32) &&& 31).toUInt32).toInt32) &&& (1 : Int32))) (((p1.toUInt32 >>> ((4 : Int32) &&& 31).toUInt32).toInt32) &&& (1 : Int32))  T37.heap n0 Z37 p37_0 g_b19 p37_1 (own_bit_01 _)) hZ3 (hw _ (List.mem_of_getElem? (i := 202) rfl)) (hw _ (List.mem_of_getElem? (i := 201) rfl)) (by decide) (by decide)) (g := (mkF m 83 #[.val (.int p1), .val (.ref b1), .val (.ref b19), .val (.int (own_bit (((p1.toUInt32 >>> ((3 : Int32) &&& 31).toUInt32).toInt32) &&& (1 : Int32))))] [(.int (((p1.toUInt32 >>> ((4 : Int32) &&& 31).toUInt32).toInt32) &&& (1 : Int32))), (.int (own_bit (((p1.toUInt32 >>> ((3 : Int32) &&& 31).toUInt32).toInt32) &&& (1 : Int32)))), (.ref b19)])) rfl (by rw [hml]; rfl) (argsL := [(.ref b19), (.int (own_bit (((p1.toUInt32 >>> ((3 : Int32) &&& 31).toUInt32).toInt32) &&& (1 : Int32)))), (.int (((p1.toUInt32 >>> ((4 : Int32) &&& 31).toUInt32).toInt32) &&& (1 : Int32)))]) (rest := []) (lenOf pd_oLcomsexamplesnudged_routessnudgedroutesssimulationsLinkQueueeIIcI rfl) rfl (by show 2 * 0 + _ ≤ _; exact Nat.le_of_eq rfl) (hb hby at_83) (fun _ _ => ⟨rfl, rfl, (by decide : 14 + 0 ≤ _), (by decide : 120 + 0 ≤ _)⟩)
  dsimp only [Pt.U, Pt.locs, Pt.cells, Pt.slots] at X39 l39 y39 z39 st39 hQ39
  subst l39 y39 z39
  obtain ⟨rfl, N39q, Kc39, p39_0, p39_1⟩ := hQ39
  have N39 := Fr.app N37 N39q
  have s39_DEFAULTCAPACITY_EMPTY_ELEMENTDATA := own_staKeep s37_DEFAULTCAPACITY_EMPTY_ELEMENTDATA Kc39 p37_0
  have s39_EMPTY_ITERATOR := own_staKeep s37_EMPTY_ITERATOR Kc39 p37_0
  have s39__assertionsDisabled := own_staKeep s37__assertionsDisabled Kc39 p37_0
  have K39 : Keep h0 T39.heap [] := K37.trans Kc39 (allS (Or.inr sz_b19) all0)
  have Z39 : n0 ≤ T39.heap.size := Nat.le_trans Z37 Kc39.1
  have hk39 := Nat.le_trans hk37 Kc39.1
  refine GoW.adv st39 ?_
  show GoW p.tables e below s _ _ _ (T39.setTop (mkF m 86 #[.val (.int p1), .val (.ref b1), .val (.ref b19), .val (.int (own_bit (((p1.toUInt32 >>> ((3 : Int32) &&& 31).toUInt32).toInt32) &&& (1 : Int32))))] [(.int (own_bit (((p1.toUInt32 >>> ((4 : Int32) &&& 31).toUInt32).toInt32) &&& (1 : Int32))))]))
  have sg40 : ∀ t, Steps p.tables e below (T39.setTop (mkF m 94 #[.val (.int p1), .val (.ref b1), .val (.ref b19), .val (.int (own_bit (((p1.toUInt32 >>> ((4 : Int32) &&& 31).toUInt32).toInt32) &&& (1 : Int32))))] [(.int (((p1.toUInt32 >>> ((5 : Int32) &&& 31).toUInt32).toInt32) &&& (1 : Int32))), (.int (own_bit (((p1.toUInt32 >>> ((4 : Int32) &&& 31).toUInt32).toInt32) &&& (1 : Int32)))), (.ref b19)])) t → Steps p.tables e below (T39.setTop (mkF m 86 #[.val (.int p1), .val (.ref b1), .val (.ref b19), .val (.int (own_bit (((p1.toUInt32 >>> ((3 : Int32) &&& 31).toUInt32).toInt32) &&& (1 : Int32))))] [(.int (own_bit (((p1.toUInt32 >>> ((4 : Int32) &&& 31).toUInt32).toInt32) &&& (1 : Int32))))])) t := by
    intro t kt
    show Steps p.tables e below (T39.setTop (mkF m 86 #[.val (.int p1), .val (.ref b1), .val (.ref b19), .val (.int (own_bit (((p1.toUInt32 >>> ((3 : Int32) &&& 31).toUInt32).toInt32) &&& (1 : Int32))))] [(.int (own_bit (((p1.toUInt32 >>> ((4 : Int32) &&& 31).toUInt32).toInt32) &&& (1 : Int32))))])) _
    refine XS.istoreN X39.here hx rfl (hb hby at_86) rfl (l' := #[.val (.int p1), .val (.ref b1), .val (.ref b19), .val (.int (own_bit (((p1.toUInt32 >>> ((4 : Int32) &&& 31).toUInt32).toInt32) &&& (1 : Int32))))]) rfl ?_
    show Steps p.tables e below (T39.setTop (mkF m 87 #[.val (.int p1), .val (.ref b1), .val (.ref b19), .val (.int (own_bit (((p1.toUInt32 >>> ((4 : Int32) &&& 31).toUInt32).toInt32) &&& (1 : Int32))))] [])) _
    refine XS.aloadN X39.here hx rfl (hb hby at_87) rfl rfl ?_
    show Steps p.tables e below (T39.setTop (mkF m 88 #[.val (.int p1), .val (.ref b1), .val (.ref b19), .val (.int (own_bit (((p1.toUInt32 >>> ((4 : Int32) &&& 31).toUInt32).toInt32) &&& (1 : Int32))))] [(.ref b19)])) _
    refine XS.iloadN X39.here hx rfl (hb hby at_88) rfl ?_
    show Steps p.tables e below (T39.setTop (mkF m 89 #[.val (.int p1), .val (.ref b1), .val (.ref b19), .val (.int (own_bit (((p1.toUInt32 >>> ((4 : Int32) &&& 31).toUInt32).toInt32) &&& (1 : Int32))))] [(.int (own_bit (((p1.toUInt32 >>> ((4 : Int32) &&& 31).toUInt32).toInt32) &&& (1 : Int32)))), (.ref b19)])) _
    refine XS.iloadN X39.here hx rfl (hb hby at_89) rfl ?_
    show Steps p.tables e below (T39.setTop (mkF m 90 #[.val (.int p1), .val (.ref b1), .val (.ref b19), .val (.int (own_bit (((p1.toUInt32 >>> ((4 : Int32) &&& 31).toUInt32).toInt32) &&& (1 : Int32))))] [(.int p1), (.int (own_bit (((p1.toUInt32 >>> ((4 : Int32) &&& 31).toUInt32).toInt32) &&& (1 : Int32)))), (.ref b19)])) _
    refine XS.iconst X39.here hx rfl (hb hby at_90) ?_
    show Steps p.tables e below (T39.setTop (mkF m 91 #[.val (.int p1), .val (.ref b1), .val (.ref b19), .val (.int (own_bit (((p1.toUInt32 >>> ((4 : Int32) &&& 31).toUInt32).toInt32) &&& (1 : Int32))))] [(.int (5 : Int32)), (.int p1), (.int (own_bit (((p1.toUInt32 >>> ((4 : Int32) &&& 31).toUInt32).toInt32) &&& (1 : Int32)))), (.ref b19)])) _
    refine XS.iushr X39.here hx rfl (hb hby at_91) rfl ?_
    show Steps p.tables e below (T39.setTop (mkF m 92 #[.val (.int p1), .val (.ref b1), .val (.ref b19), .val (.int (own_bit (((p1.toUInt32 >>> ((4 : Int32) &&& 31).toUInt32).toInt32) &&& (1 : Int32))))] [(.int ((p1.toUInt32 >>> ((5 : Int32) &&& 31).toUInt32).toInt32)), (.int (own_bit (((p1.toUInt32 >>> ((4 : Int32) &&& 31).toUInt32).toInt32) &&& (1 : Int32)))), (.ref b19)])) _
    refine XS.iconst X39.here hx rfl (hb hby at_92) ?_
    show Steps p.tables e below (T39.setTop (mkF m 93 #[.val (.int p1), .val (.ref b1), .val (.ref b19), .val (.int (own_bit (((p1.toUInt32 >>> ((4 : Int32) &&& 31).toUInt32).toInt32) &&& (1 : Int32))))] [(.int (1 : Int32)), (.int ((p1.toUInt32 >>> ((5 : Int32) &&& 31).toUInt32).toInt32)), (.int (own_bit (((p1.toUInt32 >>> ((4 : Int32) &&& 31).toUInt32).toInt32) &&& (1 : Int32)))), (.ref b19)])) _
    refine XS.iand X39.here hx rfl (hb hby at_93) rfl ?_
    exact kt
  refine GoW.adv sg40 ?_
  obtain ⟨_, _, ⟨T41, L41, k41, n41⟩, -, X41, ⟨Lc41, hQ41, l41, y41, z41⟩, st41⟩ := Jvm.LawKit.callS X39 hx (y := (⟨"com/example/nudged_routes/nudgedroutes/simulation/LinkQueueSchedulePinLaw", "step", "(Lcom/example/nudged_routes/nudgedroutes/simulation/LinkQueue;II)I"⟩ : MethodName)) hown3 (mvT hZ3 (hw _ (List.mem_of_getElem? (i := 199) rfl))) (mvT hZ3 (hw _ (List.mem_of_getElem? (i := 200) rfl))) (mvT hZ3 (hw _ (List.mem_of_getElem? (i := 201) rfl))) (mvT hZ3 (hw _ (List.mem_of_getElem? (i := 202) rfl))) (by decide) (backOf (W := 0) (rm_step l Z a0 hw [] b19 (own_bit (((p1.toUInt32 >>> ((4 : Int32) &&& 31).toUInt32).toInt32) &&& (1 : Int32))) (((p1.toUInt32 >>> ((5 : Int32) &&& 31).toUInt32).toInt32) &&& (1 : Int32))  T39.heap n0 Z39 p39_0 g_b19 p39_1 (own_bit_01 _)) hZ3 (hw _ (List.mem_of_getElem? (i := 202) rfl)) (hw _ (List.mem_of_getElem? (i := 201) rfl)) (by decide) (by decide)) (g := (mkF m 94 #[.val (.int p1), .val (.ref b1), .val (.ref b19), .val (.int (own_bit (((p1.toUInt32 >>> ((4 : Int32) &&& 31).toUInt32).toInt32) &&& (1 : Int32))))] [(.int (((p1.toUInt32 >>> ((5 : Int32) &&& 31).toUInt32).toInt32) &&& (1 : Int32))), (.int (own_bit (((p1.toUInt32 >>> ((4 : Int32) &&& 31).toUInt32).toInt32) &&& (1 : Int32)))), (.ref b19)])) rfl (by rw [hml]; rfl) (argsL := [(.ref b19), (.int (own_bit (((p1.toUInt32 >>> ((4 : Int32) &&& 31).toUInt32).toInt32) &&& (1 : Int32)))), (.int (((p1.toUInt32 >>> ((5 : Int32) &&& 31).toUInt32).toInt32) &&& (1 : Int32)))]) (rest := []) (lenOf pd_oLcomsexamplesnudged_routessnudgedroutesssimulationsLinkQueueeIIcI rfl) rfl (by show 2 * 0 + _ ≤ _; exact Nat.le_of_eq rfl) (hb hby at_94) (fun _ _ => ⟨rfl, rfl, (by decide : 14 + 0 ≤ _), (by decide : 120 + 0 ≤ _)⟩)
  dsimp only [Pt.U, Pt.locs, Pt.cells, Pt.slots] at X41 l41 y41 z41 st41 hQ41
  subst l41 y41 z41
  obtain ⟨rfl, N41q, Kc41, p41_0, p41_1⟩ := hQ41
  have N41 := Fr.app N39 N41q
  have s41_DEFAULTCAPACITY_EMPTY_ELEMENTDATA := own_staKeep s39_DEFAULTCAPACITY_EMPTY_ELEMENTDATA Kc41 p39_0
  have s41_EMPTY_ITERATOR := own_staKeep s39_EMPTY_ITERATOR Kc41 p39_0
  have s41__assertionsDisabled := own_staKeep s39__assertionsDisabled Kc41 p39_0
  have K41 : Keep h0 T41.heap [] := K39.trans Kc41 (allS (Or.inr sz_b19) all0)
  have Z41 : n0 ≤ T41.heap.size := Nat.le_trans Z39 Kc41.1
  have hk41 := Nat.le_trans hk39 Kc41.1
  refine GoW.adv st41 ?_
  show GoW p.tables e below s _ _ _ (T41.setTop (mkF m 97 #[.val (.int p1), .val (.ref b1), .val (.ref b19), .val (.int (own_bit (((p1.toUInt32 >>> ((4 : Int32) &&& 31).toUInt32).toInt32) &&& (1 : Int32))))] [(.int (own_bit (((p1.toUInt32 >>> ((5 : Int32) &&& 31).toUInt32).toInt32) &&& (1 : Int32))))]))
  have sg42 : ∀ t, Steps p.tables e below (T41.setTop (mkF m 106 #[.val (.int p1), .val (.ref b1), .val (.ref b19), .val (.int (own_bit (((p1.toUInt32 >>> ((5 : Int32) &&& 31).toUInt32).toInt32) &&& (1 : Int32))))] [(.int (((p1.toUInt32 >>> ((6 : Int32) &&& 31).toUInt32).toInt32) &&& (1 : Int32))), (.int (own_bit (((p1.toUInt32 >>> ((5 : Int32) &&& 31).toUInt32).toInt32) &&& (1 : Int32)))), (.ref b19)])) t → Steps p.tables e below (T41.setTop (mkF m 97 #[.val (.int p1), .val (.ref b1), .val (.ref b19), .val (.int (own_bit (((p1.toUInt32 >>> ((4 : Int32) &&& 31).toUInt32).toInt32) &&& (1 : Int32))))] [(.int (own_bit (((p1.toUInt32 >>> ((5 : Int32) &&& 31).toUInt32).toInt32) &&& (1 : Int32))))])) t := by
    intro t kt
    show Steps p.tables e below (T41.setTop (mkF m 97 #[.val (.int p1), .val (.ref b1), .val (.ref b19), .val (.int (own_bit (((p1.toUInt32 >>> ((4 : Int32) &&& 31).toUInt32).toInt32) &&& (1 : Int32))))] [(.int (own_bit (((p1.toUInt32 >>> ((5 : Int32) &&& 31).toUInt32).toInt32) &&& (1 : Int32))))])) _
    refine XS.istoreN X41.here hx rfl (hb hby at_97) rfl (l' := #[.val (.int p1), .val (.ref b1), .val (.ref b19), .val (.int (own_bit (((p1.toUInt32 >>> ((5 : Int32) &&& 31).toUInt32).toInt32) &&& (1 : Int32))))]) rfl ?_
    show Steps p.tables e below (T41.setTop (mkF m 98 #[.val (.int p1), .val (.ref b1), .val (.ref b19), .val (.int (own_bit (((p1.toUInt32 >>> ((5 : Int32) &&& 31).toUInt32).toInt32) &&& (1 : Int32))))] [])) _
    refine XS.aloadN X41.here hx rfl (hb hby at_98) rfl rfl ?_
    show Steps p.tables e below (T41.setTop (mkF m 99 #[.val (.int p1), .val (.ref b1), .val (.ref b19), .val (.int (own_bit (((p1.toUInt32 >>> ((5 : Int32) &&& 31).toUInt32).toInt32) &&& (1 : Int32))))] [(.ref b19)])) _
    refine XS.iloadN X41.here hx rfl (hb hby at_99) rfl ?_
    show Steps p.tables e below (T41.setTop (mkF m 100 #[.val (.int p1), .val (.ref b1), .val (.ref b19), .val (.int (own_bit (((p1.toUInt32 >>> ((5 : Int32) &&& 31).toUInt32).toInt32) &&& (1 : Int32))))] [(.int (own_bit (((p1.toUInt32 >>> ((5 : Int32) &&& 31).toUInt32).toInt32) &&& (1 : Int32)))), (.ref b19)])) _
    refine XS.iloadN X41.here hx rfl (hb hby at_100) rfl ?_
    show Steps p.tables e below (T41.setTop (mkF m 101 #[.val (.int p1), .val (.ref b1), .val (.ref b19), .val (.int (own_bit (((p1.toUInt32 >>> ((5 : Int32) &&& 31).toUInt32).toInt32) &&& (1 : Int32))))] [(.int p1), (.int (own_bit (((p1.toUInt32 >>> ((5 : Int32) &&& 31).toUInt32).toInt32) &&& (1 : Int32)))), (.ref b19)])) _
    refine XS.bipush X41.here hx rfl (hb hby at_101) ?_
    show Steps p.tables e below (T41.setTop (mkF m 103 #[.val (.int p1), .val (.ref b1), .val (.ref b19), .val (.int (own_bit (((p1.toUInt32 >>> ((5 : Int32) &&& 31).toUInt32).toInt32) &&& (1 : Int32))))] [(.int (6 : Int32)), (.int p1), (.int (own_bit (((p1.toUInt32 >>> ((5 : Int32) &&& 31).toUInt32).toInt32) &&& (1 : Int32)))), (.ref b19)])) _
    refine XS.iushr X41.here hx rfl (hb hby at_103) rfl ?_
    show Steps p.tables e below (T41.setTop (mkF m 104 #[.val (.int p1), .val (.ref b1), .val (.ref b19), .val (.int (own_bit (((p1.toUInt32 >>> ((5 : Int32) &&& 31).toUInt32).toInt32) &&& (1 : Int32))))] [(.int ((p1.toUInt32 >>> ((6 : Int32) &&& 31).toUInt32).toInt32)), (.int (own_bit (((p1.toUInt32 >>> ((5 : Int32) &&& 31).toUInt32).toInt32) &&& (1 : Int32)))), (.ref b19)])) _
    refine XS.iconst X41.here hx rfl (hb hby at_104) ?_
    show Steps p.tables e below (T41.setTop (mkF m 105 #[.val (.int p1), .val (.ref b1), .val (.ref b19), .val (.int (own_bit (((p1.toUInt32 >>> ((5 : Int32) &&& 31).toUInt32).toInt32) &&& (1 : Int32))))] [(.int (1 : Int32)), (.int ((p1.toUInt32 >>> ((6 : Int32) &&& 31).toUInt32).toInt32)), (.int (own_bit (((p1.toUInt32 >>> ((5 : Int32) &&& 31).toUInt32).toInt32) &&& (1 : Int32)))), (.ref b19)])) _
    refine XS.iand X41.here hx rfl (hb hby at_105) rfl ?_
    exact kt
  refine GoW.adv sg42 ?_
  obtain ⟨_, _, ⟨T43, L43, k43, n43⟩, -, X43, ⟨Lc43, hQ43, l43, y43, z43⟩, st43⟩ := Jvm.LawKit.callS X41 hx (y := (⟨"com/example/nudged_routes/nudgedroutes/simulation/LinkQueueSchedulePinLaw", "step", "(Lcom/example/nudged_routes/nudgedroutes/simulation/LinkQueue;II)I"⟩ : MethodName)) hown3 (mvT hZ3 (hw _ (List.mem_of_getElem? (i := 199) rfl))) (mvT hZ3 (hw _ (List.mem_of_getElem? (i := 200) rfl))) (mvT hZ3 (hw _ (List.mem_of_getElem? (i := 201) rfl))) (mvT hZ3 (hw _ (List.mem_of_getElem? (i := 202) rfl))) (by decide) (backOf (W := 0) (rm_step l Z a0 hw [] b19 (own_bit (((p1.toUInt32 >>> ((5 : Int32) &&& 31).toUInt32).toInt32) &&& (1 : Int32))) (((p1.toUInt32 >>> ((6 : Int32) &&& 31).toUInt32).toInt32) &&& (1 : Int32))  T41.heap n0 Z41 p41_0 g_b19 p41_1 (own_bit_01 _)) hZ3 (hw _ (List.mem_of_getElem? (i := 202) rfl)) (hw _ (List.mem_of_getElem? (i := 201) rfl)) (by decide) (by decide)) (g := (mkF m 106 #[.val (.int p1), .val (.ref b1), .val (.ref b19), .val (.int (own_bit (((p1.toUInt32 >>> ((5 : Int32) &&& 31).toUInt32).toInt32) &&& (1 : Int32))))] [(.int (((p1.toUInt32 >>> ((6 : Int32) &&& 31).toUInt32).toInt32) &&& (1 : Int32))), (.int (own_bit (((p1.toUInt32 >>> ((5 : Int32) &&& 31).toUInt32).toInt32) &&& (1 : Int32)))), (.ref b19)])) rfl (by rw [hml]; rfl) (argsL := [(.ref b19), (.int (own_bit (((p1.toUInt32 >>> ((5 : Int32) &&& 31).toUInt32).toInt32) &&& (1 : Int32)))), (.int (((p1.toUInt32 >>> ((6 : Int32) &&& 31).toUInt32).toInt32) &&& (1 : Int32)))]) (rest := []) (lenOf pd_oLcomsexamplesnudged_routessnudgedroutesssimulationsLinkQueueeIIcI rfl) rfl (by show 2 * 0 + _ ≤ _; exact Nat.le_of_eq rfl) (hb hby at_106) (fun _ _ => ⟨rfl, rfl, (by decide : 14 + 0 ≤ _), (by decide : 120 + 0 ≤ _)⟩)
  dsimp only [Pt.U, Pt.locs, Pt.cells, Pt.slots] at X43 l43 y43 z43 st43 hQ43
  subst l43 y43 z43
  obtain ⟨rfl, N43q, Kc43, p43_0, p43_1⟩ := hQ43
  have N43 := Fr.app N41 N43q
  have s43_DEFAULTCAPACITY_EMPTY_ELEMENTDATA := own_staKeep s41_DEFAULTCAPACITY_EMPTY_ELEMENTDATA Kc43 p41_0
  have s43_EMPTY_ITERATOR := own_staKeep s41_EMPTY_ITERATOR Kc43 p41_0
  have s43__assertionsDisabled := own_staKeep s41__assertionsDisabled Kc43 p41_0
  have K43 : Keep h0 T43.heap [] := K41.trans Kc43 (allS (Or.inr sz_b19) all0)
  have Z43 : n0 ≤ T43.heap.size := Nat.le_trans Z41 Kc43.1
  have hk43 := Nat.le_trans hk41 Kc43.1
  refine GoW.adv st43 ?_
  show GoW p.tables e below s _ _ _ (T43.setTop (mkF m 109 #[.val (.int p1), .val (.ref b1), .val (.ref b19), .val (.int (own_bit (((p1.toUInt32 >>> ((5 : Int32) &&& 31).toUInt32).toInt32) &&& (1 : Int32))))] [(.int (own_bit (((p1.toUInt32 >>> ((6 : Int32) &&& 31).toUInt32).toInt32) &&& (1 : Int32))))]))
  have sg44 : ∀ t, Steps p.tables e below (T43.setTop (mkF m 118 #[.val (.int p1), .val (.ref b1), .val (.ref b19), .val (.int (own_bit (((p1.toUInt32 >>> ((6 : Int32) &&& 31).toUInt32).toInt32) &&& (1 : Int32))))] [(.int (((p1.toUInt32 >>> ((7 : Int32) &&& 31).toUInt32).toInt32) &&& (1 : Int32))), (.int (own_bit (((p1.toUInt32 >>> ((6 : Int32) &&& 31).toUInt32).toInt32) &&& (1 : Int32)))), (.ref b19)])) t → Steps p.tables e below (T43.setTop (mkF m 109 #[.val (.int p1), .val (.ref b1), .val (.ref b19), .val (.int (own_bit (((p1.toUInt32 >>> ((5 : Int32) &&& 31).toUInt32).toInt32) &&& (1 : Int32))))] [(.int (own_bit (((p1.toUInt32 >>> ((6 : Int32) &&& 31).toUInt32).toInt32) &&& (1 : Int32))))])) t := by
    intro t kt
    show Steps p.tables e below (T43.setTop (mkF m 109 #[.val (.int p1), .val (.ref b1), .val (.ref b19), .val (.int (own_bit (((p1.toUInt32 >>> ((5 : Int32) &&& 31).toUInt32).toInt32) &&& (1 : Int32))))] [(.int (own_bit (((p1.toUInt32 >>> ((6 : Int32) &&& 31).toUInt32).toInt32) &&& (1 : Int32))))])) _
    refine XS.istoreN X43.here hx rfl (hb hby at_109) rfl (l' := #[.val (.int p1), .val (.ref b1), .val (.ref b19), .val (.int (own_bit (((p1.toUInt32 >>> ((6 : Int32) &&& 31).toUInt32).toInt32) &&& (1 : Int32))))]) rfl ?_
    show Steps p.tables e below (T43.setTop (mkF m 110 #[.val (.int p1), .val (.ref b1), .val (.ref b19), .val (.int (own_bit (((p1.toUInt32 >>> ((6 : Int32) &&& 31).toUInt32).toInt32) &&& (1 : Int32))))] [])) _
    refine XS.aloadN X43.here hx rfl (hb hby at_110) rfl rfl ?_
    show Steps p.tables e below (T43.setTop (mkF m 111 #[.val (.int p1), .val (.ref b1), .val (.ref b19), .val (.int (own_bit (((p1.toUInt32 >>> ((6 : Int32) &&& 31).toUInt32).toInt32) &&& (1 : Int32))))] [(.ref b19)])) _
    refine XS.iloadN X43.here hx rfl (hb hby at_111) rfl ?_
    show Steps p.tables e below (T43.setTop (mkF m 112 #[.val (.int p1), .val (.ref b1), .val (.ref b19), .val (.int (own_bit (((p1.toUInt32 >>> ((6 : Int32) &&& 31).toUInt32).toInt32) &&& (1 : Int32))))] [(.int (own_bit (((p1.toUInt32 >>> ((6 : Int32) &&& 31).toUInt32).toInt32) &&& (1 : Int32)))), (.ref b19)])) _
    refine XS.iloadN X43.here hx rfl (hb hby at_112) rfl ?_
    show Steps p.tables e below (T43.setTop (mkF m 113 #[.val (.int p1), .val (.ref b1), .val (.ref b19), .val (.int (own_bit (((p1.toUInt32 >>> ((6 : Int32) &&& 31).toUInt32).toInt32) &&& (1 : Int32))))] [(.int p1), (.int (own_bit (((p1.toUInt32 >>> ((6 : Int32) &&& 31).toUInt32).toInt32) &&& (1 : Int32)))), (.ref b19)])) _
    refine XS.bipush X43.here hx rfl (hb hby at_113) ?_
    show Steps p.tables e below (T43.setTop (mkF m 115 #[.val (.int p1), .val (.ref b1), .val (.ref b19), .val (.int (own_bit (((p1.toUInt32 >>> ((6 : Int32) &&& 31).toUInt32).toInt32) &&& (1 : Int32))))] [(.int (7 : Int32)), (.int p1), (.int (own_bit (((p1.toUInt32 >>> ((6 : Int32) &&& 31).toUInt32).toInt32) &&& (1 : Int32)))), (.ref b19)])) _
    refine XS.iushr X43.here hx rfl (hb hby at_115) rfl ?_
    show Steps p.tables e below (T43.setTop (mkF m 116 #[.val (.int p1), .val (.ref b1), .val (.ref b19), .val (.int (own_bit (((p1.toUInt32 >>> ((6 : Int32) &&& 31).toUInt32).toInt32) &&& (1 : Int32))))] [(.int ((p1.toUInt32 >>> ((7 : Int32) &&& 31).toUInt32).toInt32)), (.int (own_bit (((p1.toUInt32 >>> ((6 : Int32) &&& 31).toUInt32).toInt32) &&& (1 : Int32)))), (.ref b19)])) _
    refine XS.iconst X43.here hx rfl (hb hby at_116) ?_
    show Steps p.tables e below (T43.setTop (mkF m 117 #[.val (.int p1), .val (.ref b1), .val (.ref b19), .val (.int (own_bit (((p1.toUInt32 >>> ((6 : Int32) &&& 31).toUInt32).toInt32) &&& (1 : Int32))))] [(.int (1 : Int32)), (.int ((p1.toUInt32 >>> ((7 : Int32) &&& 31).toUInt32).toInt32)), (.int (own_bit (((p1.toUInt32 >>> ((6 : Int32) &&& 31).toUInt32).toInt32) &&& (1 : Int32)))), (.ref b19)])) _
    refine XS.iand X43.here hx rfl (hb hby at_117) rfl ?_
    exact kt
  refine GoW.adv sg44 ?_
  obtain ⟨_, _, ⟨T45, L45, k45, n45⟩, -, X45, ⟨Lc45, hQ45, l45, y45, z45⟩, st45⟩ := Jvm.LawKit.callS X43 hx (y := (⟨"com/example/nudged_routes/nudgedroutes/simulation/LinkQueueSchedulePinLaw", "step", "(Lcom/example/nudged_routes/nudgedroutes/simulation/LinkQueue;II)I"⟩ : MethodName)) hown3 (mvT hZ3 (hw _ (List.mem_of_getElem? (i := 199) rfl))) (mvT hZ3 (hw _ (List.mem_of_getElem? (i := 200) rfl))) (mvT hZ3 (hw _ (List.mem_of_getElem? (i := 201) rfl))) (mvT hZ3 (hw _ (List.mem_of_getElem? (i := 202) rfl))) (by decide) (backOf (W := 0) (rm_step l Z a0 hw [] b19 (own_bit (((p1.toUInt32 >>> ((6 : Int32) &&& 31).toUInt32).toInt32) &&& (1 : Int32))) (((p1.toUInt32 >>> ((7 : Int32) &&& 31).toUInt32).toInt32) &&& (1 : Int32))  T43.heap n0 Z43 p43_0 g_b19 p43_1 (own_bit_01 _)) hZ3 (hw _ (List.mem_of_getElem? (i := 202) rfl)) (hw _ (List.mem_of_getElem? (i := 201) rfl)) (by decide) (by decide)) (g := (mkF m 118 #[.val (.int p1), .val (.ref b1), .val (.ref b19), .val (.int (own_bit (((p1.toUInt32 >>> ((6 : Int32) &&& 31).toUInt32).toInt32) &&& (1 : Int32))))] [(.int (((p1.toUInt32 >>> ((7 : Int32) &&& 31).toUInt32).toInt32) &&& (1 : Int32))), (.int (own_bit (((p1.toUInt32 >>> ((6 : Int32) &&& 31).toUInt32).toInt32) &&& (1 : Int32)))), (.ref b19)])) rfl (by rw [hml]; rfl) (argsL := [(.ref b19), (.int (own_bit (((p1.toUInt32 >>> ((6 : Int32) &&& 31).toUInt32).toInt32) &&& (1 : Int32)))), (.int (((p1.toUInt32 >>> ((7 : Int32) &&& 31).toUInt32).toInt32) &&& (1 : Int32)))]) (rest := []) (lenOf pd_oLcomsexamplesnudged_routessnudgedroutesssimulationsLinkQueueeIIcI rfl) rfl (by show 2 * 0 + _ ≤ _; exact Nat.le_of_eq rfl) (hb hby at_118) (fun _ _ => ⟨rfl, rfl, (by decide : 14 + 0 ≤ _), (by decide : 120 + 0 ≤ _)⟩)
  dsimp only [Pt.U, Pt.locs, Pt.cells, Pt.slots] at X45 l45 y45 z45 st45 hQ45
  subst l45 y45 z45
  obtain ⟨rfl, N45q, Kc45, p45_0, p45_1⟩ := hQ45
  have N45 := Fr.app N43 N45q
  have s45_DEFAULTCAPACITY_EMPTY_ELEMENTDATA := own_staKeep s43_DEFAULTCAPACITY_EMPTY_ELEMENTDATA Kc45 p43_0
  have s45_EMPTY_ITERATOR := own_staKeep s43_EMPTY_ITERATOR Kc45 p43_0
  have s45__assertionsDisabled := own_staKeep s43__assertionsDisabled Kc45 p43_0
  have K45 : Keep h0 T45.heap [] := K43.trans Kc45 (allS (Or.inr sz_b19) all0)
  have Z45 : n0 ≤ T45.heap.size := Nat.le_trans Z43 Kc45.1
  have hk45 := Nat.le_trans hk43 Kc45.1
  refine GoW.adv st45 ?_
  show GoW p.tables e below s _ _ _ (T45.setTop (mkF m 121 #[.val (.int p1), .val (.ref b1), .val (.ref b19), .val (.int (own_bit (((p1.toUInt32 >>> ((6 : Int32) &&& 31).toUInt32).toInt32) &&& (1 : Int32))))] [(.int (own_bit (((p1.toUInt32 >>> ((7 : Int32) &&& 31).toUInt32).toInt32) &&& (1 : Int32))))]))
  have sg46 : ∀ t, Steps p.tables e below (T45.setTop (mkF m 122 #[.val (.int p1), .val (.ref b1), .val (.ref b19), .val (.int (own_bit (((p1.toUInt32 >>> ((7 : Int32) &&& 31).toUInt32).toInt32) &&& (1 : Int32))))] [])) t → Steps p.tables e below (T45.setTop (mkF m 121 #[.val (.int p1), .val (.ref b1), .val (.ref b19), .val (.int (own_bit (((p1.toUInt32 >>> ((6 : Int32) &&& 31).toUInt32).toInt32) &&& (1 : Int32))))] [(.int (own_bit (((p1.toUInt32 >>> ((7 : Int32) &&& 31).toUInt32).toInt32) &&& (1 : Int32))))])) t := by
    intro t kt
    show Steps p.tables e below (T45.setTop (mkF m 121 #[.val (.int p1), .val (.ref b1), .val (.ref b19), .val (.int (own_bit (((p1.toUInt32 >>> ((6 : Int32) &&& 31).toUInt32).toInt32) &&& (1 : Int32))))] [(.int (own_bit (((p1.toUInt32 >>> ((7 : Int32) &&& 31).toUInt32).toInt32) &&& (1 : Int32))))])) _
    refine XS.istoreN X45.here hx rfl (hb hby at_121) rfl (l' := #[.val (.int p1), .val (.ref b1), .val (.ref b19), .val (.int (own_bit (((p1.toUInt32 >>> ((7 : Int32) &&& 31).toUInt32).toInt32) &&& (1 : Int32))))]) rfl ?_
    exact kt
  refine GoW.adv sg46 ?_
  have sg47 : ∀ t, Steps p.tables e below (T45.setTop (mkF m 131 #[.val (.int p1), .val (.ref b1), .val (.ref b19), .val (.int (own_bit (((p1.toUInt32 >>> ((7 : Int32) &&& 31).toUInt32).toInt32) &&& (1 : Int32))))] [(.int (1 : Int32))])) t → Steps p.tables e below (T45.setTop (mkF m 122 #[.val (.int p1), .val (.ref b1), .val (.ref b19), .val (.int (own_bit (((p1.toUInt32 >>> ((7 : Int32) &&& 31).toUInt32).toInt32) &&& (1 : Int32))))] [])) t := by
    intro t kt
    show Steps p.tables e below (T45.setTop (mkF m 122 #[.val (.int p1), .val (.ref b1), .val (.ref b19), .val (.int (own_bit (((p1.toUInt32 >>> ((7 : Int32) &&& 31).toUInt32).toInt32) &&& (1 : Int32))))] [])) _
    refine XS.iloadN X45.here hx rfl (hb hby at_122) rfl ?_
    show Steps p.tables e below (T45.setTop (mkF m 123 #[.val (.int p1), .val (.ref b1), .val (.ref b19), .val (.int (own_bit (((p1.toUInt32 >>> ((7 : Int32) &&& 31).toUInt32).toInt32) &&& (1 : Int32))))] [(.int (own_bit (((p1.toUInt32 >>> ((7 : Int32) &&& 31).toUInt32).toInt32) &&& (1 : Int32))))])) _
    refine XS.ifNo X45.here hx rfl (hb hby at_123) rfl ((if0 _ _).trans (flt (own_nn (own_bit_01 _) : ¬ ((own_bit (((p1.toUInt32 >>> ((7 : Int32) &&& 31).toUInt32).toInt32) &&& (1 : Int32))) < (0 : Int32)))).1) ?_
    show Steps p.tables e below (T45.setTop (mkF m 126 #[.val (.int p1), .val (.ref b1), .val (.ref b19), .val (.int (own_bit (((p1.toUInt32 >>> ((7 : Int32) &&& 31).toUInt32).toInt32) &&& (1 : Int32))))] [])) _
    refine XS.iconst X45.here hx rfl (hb hby at_126) ?_
    show Steps p.tables e below (T45.setTop (mkF m 127 #[.val (.int p1), .val (.ref b1), .val (.ref b19), .val (.int (own_bit (((p1.toUInt32 >>> ((7 : Int32) &&& 31).toUInt32).toInt32) &&& (1 : Int32))))] [(.int (1 : Int32))])) _
    refine XS.goto X45.here hx rfl (pc0 := 127) (pc' := 131) rfl (hb hby at_127) (by decide) (by decide) ?_
    exact kt
  refine GoW.adv sg47 ?_
  refine GoW.ret (v := (some (.int (1 : Int32)))) X45 hS3 hk45 (fun h => by rw [Bd.returns] at h; cases h) Bd.notSynchronized (fun fs hr => retN X45 hx (t := .boolean) Bd.returns (by simp) (hb hby at_131) hr) ?_ (by decide) (by decide)
  show Q_rm0 Z p1 ed ei h0 n0 (some (.int (1 : Int32))) T45.heap _
  exact ⟨rfl, N45⟩

theorem own_eqI {args : Array Value} {s : State} {t : Term} {z : Int32} (h : (Jvm.Cond.eq t (.int z)).value args s none s [] = some true) : t.eval args s none [] s = some (.int z) := by
  simp only [Cond.value, Term.eval] at h
  cases ht : t.eval args s none [] s with
  | none => simp [ht] at h
  | some x => cases x <;> simp [ht] at h ⊢; exact h
set_option maxRecDepth 65536 in
set_option maxHeartbeats 40000000 in
theorem comes_1 {Post : Tables → Env → Array Value → State → Outcome → State → Prop} (hpost : ∀ tb e args s v u, (limb_1_1.after args s (.returned v) u = true ∧ limb_1_2.after args s (.returned v) u = true ∧ True) → ReturnedEndW s (.returned v) u (Jvm.fieldLocs frame_1_writes args s ++ Jvm.arrayLocs frame_1_arrays args s ++ Jvm.staticLocs frame_1_statics s) 40 1344 → Post tb e args s (.returned v) u) :
    ArmFor flags0 classFile x code maxLocals ret World_1 tables_1 room_1 Calls_1 rest_1 Pre_1 Post := by
  intro l hfl _ _ p e ha hc hk s m args below hf hA hF happ hP
  obtain ⟨hcalls, hrest, hpre⟩ := hP
  obtain ⟨-, -, -, hnamed, -, -, -, hat⟩ := (Spec.applies_iff hf).mp happ
  obtain ⟨hg, hn⟩ := and_e (Cond.before_iff.mp (show (Jvm.Cond.and given_1 narrow_1).before args s = true from hpre))
  obtain ⟨g1, g2⟩ := and_e hg
  obtain ⟨w0, rfl⟩ : ∃ w0 : Value, args = #[w0] := by
    have hs : args.size = 1 := by simpa [Cond.value, given_1] using g1
    obtain ⟨L⟩ := args
    match L, hs with
    | [w0], _ => exact ⟨w0, rfl⟩
  have hw := fun d (hd : d ∈ tables_1) => atoms_spec (ws := Jvm.Cond.code x code maxLocals ret :: tables_1) hat d (List.mem_cons_of_mem _ hd)
  have hfit : Fit s := fun {y c} hc i hi => by
    obtain ⟨ha, rfl⟩ := Array.getElem?_eq_some_iff.mp hc
    have q := List.all_eq_true.mp ((Array.all_eq_true_iff_forall_mem.mp hF) _ (Array.getElem_mem ha)) i (List.mem_range.mpr hi)
    simpa [Array.getElem?_eq_getElem hi] using q
  obtain ⟨hsets, hown0⟩ := atoms_of _ (rest_1_c_eq ▸ (show rest_1_c.before _ s = true from hrest))
  have hr0 := Cond.before_iff.mp hown0
  obtain ⟨i0, ei0⟩ := is_v g2
  obtain rfl : w0 = (.int i0) := Option.some.inj ei0
  obtain ⟨ed, ev1⟩ := exa_v (Cond.before_iff.mp (hsets _ (List.mem_of_getElem? (i := 7) rfl)))
  obtain ⟨ei, ev2⟩ := exa_v (Cond.before_iff.mp (hsets _ (List.mem_of_getElem? (i := 14) rfl)))
  have ev3 := own_eqI (Cond.before_iff.mp (hsets _ (List.mem_of_getElem? (i := 11) rfl)))
  have S1 := Sta.start ev1 (Or.inr ⟨(hw _ (List.mem_of_getElem? (i := 45) rfl)), (hsets _ (List.mem_of_getElem? (i := 2) rfl))⟩)
  have S2 := Sta.start ev2 (Or.inl (hsets _ (List.mem_of_getElem? (i := 13) rfl)))
  have S3 := Sta.start ev3 (Or.inl (hsets _ (List.mem_of_getElem? (i := 10) rfl)))
  obtain ⟨n, o, h1, h2, h3, _, L, rfl, ⟨rfl, N⟩, hq⟩ := rm0 l s _ hw tables_1 i0 ed ei s.heap s.heap.size (Nat.le_refl _) S1 S2 S3 p e ha hc hk s m _ below hf ((Spec.applies_iff_loose hf).mp happ).1 ⟨rfl, State.Warmed39.refl s, rfl⟩ trivial
  refine ⟨n, _, h1, h2, h3, hpost _ _ _ _ _ _ ⟨Cond.after_iff.mpr rfl, Cond.after_iff.mpr (eq_i res_at (Term.int_eval (1)) rfl), trivial⟩ ⟨hq.1, hq.2.1, hq.2.2.1, (hq.2.2.2.sift fun y hy => Or.inr (N y hy)).mono (by decide) (by decide)⟩⟩
theorem main_1_1 : Claimed_1_1 := comes_1 fun _ _ _ _ _ _ h hF => ⟨h.1, hF⟩
theorem main_1_2 : Claimed_1_2 := comes_1 fun _ _ _ _ _ _ h hF => ⟨h.2.1, hF⟩
end Jvm.Pilot.@@N@@
namespace Jvm.Pilot.@@N@@
open Jvm Jvm.ClassFile Sem Op Lib Jvm.Free Jvm.Stand Jvm.Pilot.@@N@@.Jvm.D
/-! MADE BY PROGRAM (witnessworld.py) out of the Statement's table words and the real class files: 35 classes; the members and pool entries that the words name. The judged class is class 1, her method 1. -/
namespace start1
open Jvm.ClassFile
def u (s : String) : CpInfo := .utf8 (stringToUtf16 s)
/-- a pool by its gaps: so many unusable entries, then the entry; so many at the end -/
def gap : Nat → List CpInfo → List CpInfo
  | 0, r => r
  | n + 1, r => .unusable :: gap n r
def poolList (es : List (Nat × CpInfo)) (last : Nat) : List CpInfo := es.foldr (fun e r => gap e.1 (e.2 :: r)) (gap last [])
def pool (es : List (Nat × CpInfo)) (last : Nat) : Array CpInfo := ⟨poolList es last⟩
def fileOf (pool : Array CpInfo) (this : Nat) (attrs : Array Attribute := #[]) (ms : Array MethodInfo := #[]) (fl : Nat := 33) (sup : Nat := 0) (ifs : Array Nat := #[]) (fds : Array FieldInfo := #[]) : ClassFile where
  minorVersion := 0
  majorVersion := 65
  constantPool := pool
  accessFlags := fl
  thisClass := this
  superClass := sup
  interfaces := ifs
  fields := fds
  methods := ms
  attributes := attrs
def plain (name : String) (sup : Option ClassId) : Class where
  name := name
  kind := .ordinary
  loader := none
  accessFlags := 33
  super := sup
  interfaces := #[]
  cf := none
  fields := #[]
  methods := #[]
  instanceTypes := #[]
  staticTypes := #[]
  resolved := #[]
  callSites := []
  init := .initialized
  statics := none
  mirror := none

def pool0 : Array CpInfo := pool [(5, u "<init>"), (0, u "()V"), (1, .class_ 10), (1, u "java/lang/Object")] 113

def k0c0 : Code := { maxStack := 0, maxLocals := 1, code := object_method_1_code, exceptionTable := #[], attributes := #[] }
def k0m0 : Method := { name := "<init>", desc := "()V", sig := { parameters := [], returnType := none }, accessFlags := 1, code := some k0c0 }
/-- java/lang/Object -/
def k0 : Class := { plain "java/lang/Object" none with
  accessFlags := 33
  interfaces := #[]
  cf := some (fileOf pool0 8 #[] #[{ accessFlags := 1, nameIndex := 5, descriptorIndex := 6, attributes := #[] }] 33 0 #[] #[])
  fields := #[]
  methods := #[k0m0]
  instanceTypes := #[]
  staticTypes := #[]
  resolved := Array.replicate 124 none
  statics := none }

def pool1 : Array CpInfo := pool [(2, .class_ 4), (1, u "java/lang/Object"), (0, u "<init>"), (0, u "()V"), (0, .class_ 8), (0, u "com/example/nudged_routes/nudgedroutes/network/Link"), (0, .string 10), (0, u "a"), (0, .double 4655631299166339072), (1, .double 4636737291354636288), (1, .double 4621819117588971520), (1, .methodref 7 18), (0, .nameAndType 5 19), (0, u "(ILjava/lang/String;Lcom/example/nudged_routes/nudgedroutes/network/Node;Lcom/example/nudged_routes/nudgedroutes/network/Node;DDDI)V"), (0, .class_ 21), (0, u "com/example/nudged_routes/nudgedroutes/simulation/LinkQueue"), (0, .methodref 20 23), (0, .nameAndType 5 24), (0, u "(Lcom/example/nudged_routes/nudgedroutes/network/Link;)V"), (0, .methodref 26 27), (0, .class_ 28), (0, .nameAndType 29 30), (0, u "com/example/nudged_routes/nudgedroutes/simulation/LinkQueueSchedulePinLaw"), (0, u "step"), (0, u "(Lcom/example/nudged_routes/nudgedroutes/simulation/LinkQueue;II)I"), (0, .methodref 20 32), (0, .nameAndType 33 34), (0, u "schedule"), (0, u "()Z"), (0, .methodref 20 36), (0, .nameAndType 37 6), (0, u "unschedule"), (2, u "law"), (0, u "(I)Z")] 3

def k1m0 : Method := { name := "<init>", desc := "()V", sig := { parameters := [], returnType := none }, accessFlags := 1, code := none }
def k1c1 : Code := { maxStack := 13, maxLocals := 4, code := code, exceptionTable := #[], attributes := #[] }
def k1m1 : Method := { name := "law", desc := "(I)Z", sig := { parameters := [.int], returnType := some .boolean }, accessFlags := 9, code := some k1c1 }
def k1c2 : Code := { maxStack := 2, maxLocals := 5, code := method_3_code, exceptionTable := #[], attributes := #[] }
def k1m2 : Method := { name := "step", desc := "(Lcom/example/nudged_routes/nudgedroutes/simulation/LinkQueue;II)I", sig := { parameters := [(.object "com/example/nudged_routes/nudgedroutes/simulation/LinkQueue"), .int, .int], returnType := some .int }, accessFlags := 10, code := some k1c2 }
/-- com/example/nudged_routes/nudgedroutes/simulation/LinkQueueSchedulePinLaw -/
def k1 : Class := { plain "com/example/nudged_routes/nudgedroutes/simulation/LinkQueueSchedulePinLaw" (some 0) with
  accessFlags := 49
  interfaces := #[]
  cf := some (fileOf pool1 26 #[] #[{ accessFlags := 1, nameIndex := 5, descriptorIndex := 6, attributes := #[] }, { accessFlags := 9, nameIndex := 40, descriptorIndex := 41, attributes := #[] }, { accessFlags := 10, nameIndex := 29, descriptorIndex := 30, attributes := #[] }] 49 2 #[] #[])
  fields := #[]
  methods := #[k1m0, k1m1, k1m2]
  instanceTypes := #[]
  staticTypes := #[]
  resolved := Array.replicate 45 none
  statics := none }

def pool2 : Array CpInfo := pool [(8, .class_ 10), (1, u "com/example/nudged_routes/nudgedroutes/network/Link"), (0, u "<init>"), (0, u "(ILjava/lang/String;Lcom/example/nudged_routes/nudgedroutes/network/Node;Lcom/example/nudged_routes/nudgedroutes/network/Node;DDDI)V"), (0, .methodref 14 15), (0, .class_ 16), (0, .nameAndType 11 17), (0, u "java/lang/Object"), (0, u "()V"), (14, .fieldref 8 33), (0, .nameAndType 34 35), (0, u "index"), (0, u "I"), (0, .fieldref 8 37), (0, .nameAndType 38 39), (0, u "id"), (0, u "Ljava/lang/String;"), (0, .fieldref 8 41), (0, .nameAndType 42 43), (0, u "from"), (0, u "Lcom/example/nudged_routes/nudgedroutes/network/Node;"), (0, .fieldref 8 45), (0, .nameAndType 46 43), (0, u "to"), (0, .fieldref 8 48), (0, .nameAndType 49 50), (0, u "capacityVph"), (0, u "D"), (0, .fieldref 8 52), (0, .nameAndType 53 50), (0, u "lengthM"), (0, .fieldref 8 55), (0, .nameAndType 56 50), (0, u "freeFlowTimeS"), (0, .fieldref 8 58), (0, .nameAndType 59 35), (0, u "lanes"), (0, .long 2147483647), (1, .methodref 63 64), (0, .class_ 65), (0, .nameAndType 66 67), (0, u "java/lang/Math"), (0, u "round"), (0, u "(D)J"), (0, .methodref 63 69), (0, .nameAndType 70 71), (0, u "min"), (0, u "(JJ)J"), (0, .methodref 63 73), (0, .nameAndType 74 71), (0, u "max"), (2, u "wholeFreeFlowS"), (0, u "()I"), (39, u "LANE_CAPACITY_VPH"), (3, u "KMH_PER_METRE_PER_SECOND"), (8, u "()D")] 29

def k2c0 : Code := { maxStack := 5, maxLocals := 12, code := prog_57_method_2_code, exceptionTable := #[], attributes := #[] }
def k2m0 : Method := { name := "<init>", desc := "(ILjava/lang/String;Lcom/example/nudged_routes/nudgedroutes/network/Node;Lcom/example/nudged_routes/nudgedroutes/network/Node;DDDI)V", sig := { parameters := [.int, (.object "java/lang/String"), (.object "com/example/nudged_routes/nudgedroutes/network/Node"), (.object "com/example/nudged_routes/nudgedroutes/network/Node"), .double, .double, .double, .int], returnType := none }, accessFlags := 1, code := some k2c0 }
def k2c1 : Code := { maxStack := 2, maxLocals := 1, code := prog_57_method_7_code, exceptionTable := #[], attributes := #[] }
def k2m1 : Method := { name := "capacityVph", desc := "()D", sig := { parameters := [], returnType := some .double }, accessFlags := 1, code := some k2c1 }
def k2c2 : Code := { maxStack := 2, maxLocals := 1, code := prog_57_method_8_code, exceptionTable := #[], attributes := #[] }
def k2m2 : Method := { name := "lengthM", desc := "()D", sig := { parameters := [], returnType := some .double }, accessFlags := 1, code := some k2c2 }
def k2c3 : Code := { maxStack := 6, maxLocals := 1, code := prog_57_method_10_code, exceptionTable := #[], attributes := #[] }
def k2m3 : Method := { name := "wholeFreeFlowS", desc := "()I", sig := { parameters := [], returnType := some .int }, accessFlags := 1, code := some k2c3 }
def k2c4 : Code := { maxStack := 1, maxLocals := 1, code := prog_57_method_12_code, exceptionTable := #[], attributes := #[] }
def k2m4 : Method := { name := "lanes", desc := "()I", sig := { parameters := [], returnType := some .int }, accessFlags := 1, code := some k2c4 }
/-- com/example/nudged_routes/nudgedroutes/network/Link -/
def k2 : Class := { plain "com/example/nudged_routes/nudgedroutes/network/Link" (some 0) with
  accessFlags := 49
  interfaces := #[]
  cf := some (fileOf pool2 8 #[] #[{ accessFlags := 1, nameIndex := 11, descriptorIndex := 12, attributes := #[] }, { accessFlags := 1, nameIndex := 49, descriptorIndex := 131, attributes := #[] }, { accessFlags := 1, nameIndex := 53, descriptorIndex := 131, attributes := #[] }, { accessFlags := 1, nameIndex := 77, descriptorIndex := 78, attributes := #[] }, { accessFlags := 1, nameIndex := 59, descriptorIndex := 78, attributes := #[] }] 49 14 #[] #[{ accessFlags := 25, nameIndex := 118, descriptorIndex := 50, attributes := #[] }, { accessFlags := 26, nameIndex := 122, descriptorIndex := 50, attributes := #[] }, { accessFlags := 18, nameIndex := 34, descriptorIndex := 35, attributes := #[] }, { accessFlags := 18, nameIndex := 38, descriptorIndex := 39, attributes := #[] }, { accessFlags := 18, nameIndex := 42, descriptorIndex := 43, attributes := #[] }, { accessFlags := 18, nameIndex := 46, descriptorIndex := 43, attributes := #[] }, { accessFlags := 18, nameIndex := 49, descriptorIndex := 50, attributes := #[] }, { accessFlags := 18, nameIndex := 53, descriptorIndex := 50, attributes := #[] }, { accessFlags := 18, nameIndex := 56, descriptorIndex := 50, attributes := #[] }, { accessFlags := 18, nameIndex := 59, descriptorIndex := 35, attributes := #[] }])
  fields := #[{ name := "LANE_CAPACITY_VPH", type := .double, accessFlags := 25, slot := 0, constantValue := 0 }, { name := "KMH_PER_METRE_PER_SECOND", type := .double, accessFlags := 26, slot := 1, constantValue := 0 }, { name := "index", type := .int, accessFlags := 18, slot := 0, constantValue := 0 }, { name := "id", type := (.object "java/lang/String"), accessFlags := 18, slot := 1, constantValue := 0 }, { name := "from", type := (.object "com/example/nudged_routes/nudgedroutes/network/Node"), accessFlags := 18, slot := 2, constantValue := 0 }, { name := "to", type := (.object "com/example/nudged_routes/nudgedroutes/network/Node"), accessFlags := 18, slot := 3, constantValue := 0 }, { name := "capacityVph", type := .double, accessFlags := 18, slot := 4, constantValue := 0 }, { name := "lengthM", type := .double, accessFlags := 18, slot := 5, constantValue := 0 }, { name := "freeFlowTimeS", type := .double, accessFlags := 18, slot := 6, constantValue := 0 }, { name := "lanes", type := .int, accessFlags := 18, slot := 7, constantValue := 0 }]
  methods := #[k2m0, k2m1, k2m2, k2m3, k2m4]
  instanceTypes := #[.int, (.object "java/lang/String"), (.object "com/example/nudged_routes/nudgedroutes/network/Node"), (.object "com/example/nudged_routes/nudgedroutes/network/Node"), .double, .double, .double, .int]
  staticTypes := #[.double, .double]
  resolved := Array.replicate 161 none
  statics := none }

def pool3 : Array CpInfo := pool [(1, .class_ 2), (0, u "java/io/Serializable"), (0, .class_ 4), (0, u "java/lang/Object")] 2

/-- java/io/Serializable -/
def k3 : Class := { plain "java/io/Serializable" (some 0) with
  accessFlags := 1537
  interfaces := #[]
  cf := some (fileOf pool3 1 #[] #[] 1537 3 #[] #[])
  fields := #[]
  methods := #[]
  instanceTypes := #[]
  staticTypes := #[]
  resolved := Array.replicate 7 none
  statics := none }

def pool4 : Array CpInfo := pool [(1, .class_ 2), (0, u "java/lang/Comparable"), (0, .class_ 4), (0, u "java/lang/Object")] 7

/-- java/lang/Comparable -/
def k4 : Class := { plain "java/lang/Comparable" (some 0) with
  accessFlags := 1537
  interfaces := #[]
  cf := some (fileOf pool4 1 #[] #[] 1537 3 #[] #[])
  fields := #[]
  methods := #[]
  instanceTypes := #[]
  staticTypes := #[]
  resolved := Array.replicate 12 none
  statics := none }

def pool5 : Array CpInfo := pool [(2, .class_ 4), (1, u "java/lang/CharSequence"), (42, .class_ 48), (0, u "java/lang/CharSequence$1CodePointIterator"), (10, .class_ 60), (0, u "java/lang/CharSequence$1CharIterator"), (5, .class_ 67), (0, u "java/lang/Object")] 63

/-- java/lang/CharSequence -/
def k5 : Class := { plain "java/lang/CharSequence" (some 0) with
  accessFlags := 1537
  interfaces := #[]
  cf := some (fileOf pool5 2 #[.nestMembers #[47, 59]] #[] 1537 66 #[] #[])
  fields := #[]
  methods := #[]
  instanceTypes := #[]
  staticTypes := #[]
  resolved := Array.replicate 131 none
  statics := none }

def pool6 : Array CpInfo := pool [(1, .class_ 2), (0, u "java/lang/constant/Constable"), (0, .class_ 4), (0, u "java/lang/Object")] 6

/-- java/lang/constant/Constable -/
def k6 : Class := { plain "java/lang/constant/Constable" (some 0) with
  accessFlags := 1537
  interfaces := #[]
  cf := some (fileOf pool6 1 #[] #[] 1537 3 #[] #[])
  fields := #[]
  methods := #[]
  instanceTypes := #[]
  staticTypes := #[]
  resolved := Array.replicate 11 none
  statics := none }

def pool7 : Array CpInfo := pool [(1, .class_ 2), (0, u "java/lang/constant/ConstantDesc"), (0, .class_ 4), (0, u "java/lang/Object")] 32

/-- java/lang/constant/ConstantDesc -/
def k7 : Class := { plain "java/lang/constant/ConstantDesc" (some 0) with
  accessFlags := 1537
  interfaces := #[]
  cf := some (fileOf pool7 1 #[] #[] 1537 3 #[] #[])
  fields := #[]
  methods := #[]
  instanceTypes := #[]
  staticTypes := #[]
  resolved := Array.replicate 37 none
  statics := none }

def pool8 : Array CpInfo := pool [(2, .class_ 4), (1, u "java/lang/Object"), (0, u "<init>"), (0, u "()V"), (3, .class_ 12), (1, u "java/lang/String"), (0, u "value"), (0, u "[B"), (2, u "coder"), (0, u "B"), (2, u "hash"), (0, u "I"), (2, u "hashIsZero"), (0, u "Z"), (13, u "COMPACT_STRINGS"), (534, .class_ 576), (0, u "java/lang/CharSequence"), (22, u "CASE_INSENSITIVE_ORDER"), (0, u "Ljava/util/Comparator;"), (500, u "serialPersistentFields"), (0, u "[Ljava/io/ObjectStreamField;"), (0, .class_ 1104), (0, u "java/lang/String$CaseInsensitiveComparator"), (1, .class_ 1107), (0, u "java/io/Serializable"), (0, .class_ 1109), (0, u "java/lang/Comparable"), (0, .class_ 1111), (0, u "java/lang/constant/Constable"), (0, .class_ 1113), (0, u "java/lang/constant/ConstantDesc"), (2, u "serialVersionUID"), (0, u "J"), (3, u "REPL"), (0, u "C"), (2, u "LATIN1"), (1, u "UTF16")] 323

def k8m0 : Method := { name := "<init>", desc := "()V", sig := { parameters := [], returnType := none }, accessFlags := 1, code := none }
/-- java/lang/String -/
def k8 : Class := { plain "java/lang/String" (some 0) with
  accessFlags := 49
  interfaces := #[3, 4, 5, 6, 7]
  cf := some (fileOf pool8 10 #[.nestMembers #[1103]] #[{ accessFlags := 1, nameIndex := 5, descriptorIndex := 6, attributes := #[] }] 49 2 #[1106, 1108, 575, 1110, 1112] #[{ accessFlags := 18, nameIndex := 13, descriptorIndex := 14, attributes := #[] }, { accessFlags := 18, nameIndex := 17, descriptorIndex := 18, attributes := #[] }, { accessFlags := 2, nameIndex := 21, descriptorIndex := 22, attributes := #[] }, { accessFlags := 2, nameIndex := 25, descriptorIndex := 26, attributes := #[] }, { accessFlags := 26, nameIndex := 1116, descriptorIndex := 1117, attributes := #[] }, { accessFlags := 24, nameIndex := 40, descriptorIndex := 26, attributes := #[] }, { accessFlags := 26, nameIndex := 1101, descriptorIndex := 1102, attributes := #[] }, { accessFlags := 26, nameIndex := 1121, descriptorIndex := 1122, attributes := #[] }, { accessFlags := 25, nameIndex := 599, descriptorIndex := 600, attributes := #[] }, { accessFlags := 24, nameIndex := 1125, descriptorIndex := 18, attributes := #[] }, { accessFlags := 24, nameIndex := 1127, descriptorIndex := 18, attributes := #[] }])
  fields := #[{ name := "value", type := (.array .byte), accessFlags := 18, slot := 0, constantValue := 0 }, { name := "coder", type := .byte, accessFlags := 18, slot := 1, constantValue := 0 }, { name := "hash", type := .int, accessFlags := 2, slot := 2, constantValue := 0 }, { name := "hashIsZero", type := .boolean, accessFlags := 2, slot := 3, constantValue := 0 }, { name := "serialVersionUID", type := .long, accessFlags := 26, slot := 0, constantValue := 0 }, { name := "COMPACT_STRINGS", type := .boolean, accessFlags := 24, slot := 1, constantValue := 0 }, { name := "serialPersistentFields", type := (.array (.object "java/io/ObjectStreamField")), accessFlags := 26, slot := 2, constantValue := 0 }, { name := "REPL", type := .char, accessFlags := 26, slot := 3, constantValue := 0 }, { name := "CASE_INSENSITIVE_ORDER", type := (.object "java/util/Comparator"), accessFlags := 25, slot := 4, constantValue := 0 }, { name := "LATIN1", type := .byte, accessFlags := 24, slot := 5, constantValue := 0 }, { name := "UTF16", type := .byte, accessFlags := 24, slot := 6, constantValue := 0 }]
  methods := #[k8m0]
  instanceTypes := #[(.array .byte), .byte, .int, .boolean]
  staticTypes := #[.long, .boolean, (.array (.object "java/io/ObjectStreamField")), .char, (.object "java/util/Comparator"), .byte, .byte]
  resolved := Array.replicate 1451 none
  statics := none }

def pool9 : Array CpInfo := pool [(3, .methodref 4 5), (0, .class_ 6), (0, .nameAndType 7 8), (0, u "java/lang/Object"), (0, u "<init>"), (0, u "()V"), (0, .class_ 10), (0, u "java/util/ArrayList"), (0, .methodref 9 5), (0, .fieldref 13 14), (0, .class_ 15), (0, .nameAndType 16 17), (0, u "com/example/nudged_routes/nudgedroutes/simulation/LinkQueue"), (0, u "incidents"), (0, u "Ljava/util/List;"), (0, .long 3600000), (1, .fieldref 13 21), (0, .nameAndType 22 23), (0, u "credit"), (0, u "J"), (0, .fieldref 13 25), (0, .nameAndType 26 27), (0, u "link"), (0, u "Lcom/example/nudged_routes/nudgedroutes/network/Link;"), (0, .methodref 29 30), (0, .class_ 31), (0, .nameAndType 32 33), (0, u "com/example/nudged_routes/nudgedroutes/network/Link"), (0, u "wholeFreeFlowS"), (0, u "()I"), (0, .fieldref 13 35), (0, .nameAndType 36 37), (0, u "freeFlowS"), (0, u "I"), (2, .double 4746794007244308480), (1, .methodref 29 43), (0, .nameAndType 44 45), (0, u "lengthM"), (0, u "()D"), (0, .methodref 29 47), (0, .nameAndType 48 33), (0, u "lanes"), (0, .double 4620130267728707584), (1, .methodref 52 53), (0, .class_ 54), (0, .nameAndType 55 56), (0, u "java/lang/Math"), (0, u "floor"), (0, u "(D)D"), (0, .methodref 52 58), (0, .nameAndType 59 60), (0, u "min"), (0, u "(DD)D"), (0, .methodref 52 62), (0, .nameAndType 63 60), (0, u "max"), (0, .fieldref 13 65), (0, .nameAndType 66 37), (0, u "storage"), (0, .methodref 29 68), (0, .nameAndType 69 45), (0, u "capacityVph"), (0, .methodref 13 71), (0, .nameAndType 72 73), (0, u "thousandthsPerSecond"), (0, u "(D)J"), (0, .methodref 52 75), (0, .nameAndType 63 76), (0, u "(JJ)J"), (0, .fieldref 13 78), (0, .nameAndType 79 23), (0, u "earnedPerSecond"), (0, .class_ 81), (0, u "java/util/ArrayDeque"), (0, .methodref 80 5), (0, .fieldref 13 84), (0, .nameAndType 85 86), (0, u "onLink"), (0, u "Ljava/util/ArrayDeque;"), (0, .fieldref 13 88), (0, .nameAndType 89 86), (0, u "waitingOnLinks"), (0, .class_ 91), (0, u "com/example/nudged_routes/nudgedroutes/simulation/LinkQueue$OriginLine"), (0, .methodref 90 5), (0, .fieldref 13 94), (0, .nameAndType 95 96), (0, u "waitingAtOrigins"), (0, u "Lcom/example/nudged_routes/nudgedroutes/simulation/LinkQueue$OriginLine;"), (0, .fieldref 13 98), (0, .nameAndType 99 100), (0, u "copies"), (0, u "Lcom/example/nudged_routes/nudgedroutes/simulation/DayCopies;"), (0, .fieldref 13 102), (0, .nameAndType 103 86), (0, u "departures"), (15, u "joined"), (5, u "departuresKeptS"), (2, u "leftToday"), (2, u "leftTodayTotalS"), (2, u "closed"), (0, u "Z"), (2, u "headWaiting"), (15, u "()Z"), (16, .long 2305843009213693951), (1, .double 4652007308841189376), (1, .methodref 52 176), (0, .nameAndType 177 73), (0, u "round"), (0, .methodref 52 179), (0, .nameAndType 59 76), (31, .class_ 212), (0, u "com/example/nudged_routes/nudgedroutes/simulation/LinkQueue$Departure"), (51, .fieldref 13 265), (0, .nameAndType 266 135), (0, u "scheduled"), (0, u "ONE_VEHICLE"), (1, u "THOUSANDTHS"), (0, u "D"), (0, u "MOST_EARNED_PER_SECOND"), (0, u "VEHICLE_SPACE_M"), (4, u "(Lcom/example/nudged_routes/nudgedroutes/network/Link;)V"), (27, u "schedule"), (0, u "unschedule")] 6

def k9c0 : Code := { maxStack := 9, maxLocals := 2, code := prog_86_method_1_code, exceptionTable := #[], attributes := #[] }
def k9m0 : Method := { name := "<init>", desc := "(Lcom/example/nudged_routes/nudgedroutes/network/Link;)V", sig := { parameters := [(.object "com/example/nudged_routes/nudgedroutes/network/Link")], returnType := none }, accessFlags := 0, code := some k9c0 }
def k9c1 : Code := { maxStack := 6, maxLocals := 2, code := prog_86_method_4_code, exceptionTable := #[], attributes := #[] }
def k9m1 : Method := { name := "thousandthsPerSecond", desc := "(D)J", sig := { parameters := [.double], returnType := some .long }, accessFlags := 10, code := some k9c1 }
def k9c2 : Code := { maxStack := 2, maxLocals := 2, code := prog_86_method_24_code, exceptionTable := #[], attributes := #[] }
def k9m2 : Method := { name := "schedule", desc := "()Z", sig := { parameters := [], returnType := some .boolean }, accessFlags := 0, code := some k9c2 }
def k9c3 : Code := { maxStack := 2, maxLocals := 1, code := prog_86_method_25_code, exceptionTable := #[], attributes := #[] }
def k9m3 : Method := { name := "unschedule", desc := "()V", sig := { parameters := [], returnType := none }, accessFlags := 0, code := some k9c3 }
/-- com/example/nudged_routes/nudgedroutes/simulation/LinkQueue -/
def k9 : Class := { plain "com/example/nudged_routes/nudgedroutes/simulation/LinkQueue" (some 0) with
  accessFlags := 48
  interfaces := #[]
  cf := some (fileOf pool9 13 #[.nestMembers #[211, 90]] #[{ accessFlags := 0, nameIndex := 7, descriptorIndex := 277, attributes := #[] }, { accessFlags := 10, nameIndex := 72, descriptorIndex := 73, attributes := #[] }, { accessFlags := 0, nameIndex := 305, descriptorIndex := 154, attributes := #[] }, { accessFlags := 0, nameIndex := 306, descriptorIndex := 8, attributes := #[] }] 48 4 #[] #[{ accessFlags := 24, nameIndex := 267, descriptorIndex := 23, attributes := #[] }, { accessFlags := 26, nameIndex := 269, descriptorIndex := 270, attributes := #[] }, { accessFlags := 26, nameIndex := 271, descriptorIndex := 23, attributes := #[] }, { accessFlags := 26, nameIndex := 272, descriptorIndex := 270, attributes := #[] }, { accessFlags := 18, nameIndex := 26, descriptorIndex := 27, attributes := #[] }, { accessFlags := 18, nameIndex := 36, descriptorIndex := 37, attributes := #[] }, { accessFlags := 18, nameIndex := 66, descriptorIndex := 37, attributes := #[] }, { accessFlags := 18, nameIndex := 79, descriptorIndex := 23, attributes := #[] }, { accessFlags := 18, nameIndex := 16, descriptorIndex := 17, attributes := #[] }, { accessFlags := 18, nameIndex := 85, descriptorIndex := 86, attributes := #[] }, { accessFlags := 18, nameIndex := 89, descriptorIndex := 86, attributes := #[] }, { accessFlags := 18, nameIndex := 95, descriptorIndex := 96, attributes := #[] }, { accessFlags := 18, nameIndex := 99, descriptorIndex := 100, attributes := #[] }, { accessFlags := 2, nameIndex := 119, descriptorIndex := 23, attributes := #[] }, { accessFlags := 18, nameIndex := 103, descriptorIndex := 86, attributes := #[] }, { accessFlags := 2, nameIndex := 125, descriptorIndex := 37, attributes := #[] }, { accessFlags := 2, nameIndex := 128, descriptorIndex := 23, attributes := #[] }, { accessFlags := 2, nameIndex := 131, descriptorIndex := 23, attributes := #[] }, { accessFlags := 2, nameIndex := 22, descriptorIndex := 23, attributes := #[] }, { accessFlags := 2, nameIndex := 134, descriptorIndex := 135, attributes := #[] }, { accessFlags := 2, nameIndex := 138, descriptorIndex := 135, attributes := #[] }, { accessFlags := 2, nameIndex := 266, descriptorIndex := 135, attributes := #[] }])
  fields := #[{ name := "ONE_VEHICLE", type := .long, accessFlags := 24, slot := 0, constantValue := 0 }, { name := "THOUSANDTHS", type := .double, accessFlags := 26, slot := 1, constantValue := 0 }, { name := "MOST_EARNED_PER_SECOND", type := .long, accessFlags := 26, slot := 2, constantValue := 0 }, { name := "VEHICLE_SPACE_M", type := .double, accessFlags := 26, slot := 3, constantValue := 0 }, { name := "link", type := (.object "com/example/nudged_routes/nudgedroutes/network/Link"), accessFlags := 18, slot := 0, constantValue := 0 }, { name := "freeFlowS", type := .int, accessFlags := 18, slot := 1, constantValue := 0 }, { name := "storage", type := .int, accessFlags := 18, slot := 2, constantValue := 0 }, { name := "earnedPerSecond", type := .long, accessFlags := 18, slot := 3, constantValue := 0 }, { name := "incidents", type := (.object "java/util/List"), accessFlags := 18, slot := 4, constantValue := 0 }, { name := "onLink", type := (.object "java/util/ArrayDeque"), accessFlags := 18, slot := 5, constantValue := 0 }, { name := "waitingOnLinks", type := (.object "java/util/ArrayDeque"), accessFlags := 18, slot := 6, constantValue := 0 }, { name := "waitingAtOrigins", type := (.object "com/example/nudged_routes/nudgedroutes/simulation/LinkQueue$OriginLine"), accessFlags := 18, slot := 7, constantValue := 0 }, { name := "copies", type := (.object "com/example/nudged_routes/nudgedroutes/simulation/DayCopies"), accessFlags := 18, slot := 8, constantValue := 0 }, { name := "joined", type := .long, accessFlags := 2, slot := 9, constantValue := 0 }, { name := "departures", type := (.object "java/util/ArrayDeque"), accessFlags := 18, slot := 10, constantValue := 0 }, { name := "departuresKeptS", type := .int, accessFlags := 2, slot := 11, constantValue := 0 }, { name := "leftToday", type := .long, accessFlags := 2, slot := 12, constantValue := 0 }, { name := "leftTodayTotalS", type := .long, accessFlags := 2, slot := 13, constantValue := 0 }, { name := "credit", type := .long, accessFlags := 2, slot := 14, constantValue := 0 }, { name := "closed", type := .boolean, accessFlags := 2, slot := 15, constantValue := 0 }, { name := "headWaiting", type := .boolean, accessFlags := 2, slot := 16, constantValue := 0 }, { name := "scheduled", type := .boolean, accessFlags := 2, slot := 17, constantValue := 0 }]
  methods := #[k9m0, k9m1, k9m2, k9m3]
  instanceTypes := #[(.object "com/example/nudged_routes/nudgedroutes/network/Link"), .int, .int, .long, (.object "java/util/List"), (.object "java/util/ArrayDeque"), (.object "java/util/ArrayDeque"), (.object "com/example/nudged_routes/nudgedroutes/simulation/LinkQueue$OriginLine"), (.object "com/example/nudged_routes/nudgedroutes/simulation/DayCopies"), .long, (.object "java/util/ArrayDeque"), .int, .long, .long, .long, .boolean, .boolean, .boolean]
  staticTypes := #[.long, .double, .long, .double]
  resolved := Array.replicate 313 none
  statics := none }

def pool10 : Array CpInfo := pool [(8, .class_ 10), (1, u "java/lang/Iterable"), (24, .class_ 36), (0, u "java/lang/Object")] 25

/-- java/lang/Iterable -/
def k10 : Class := { plain "java/lang/Iterable" (some 0) with
  accessFlags := 1537
  interfaces := #[]
  cf := some (fileOf pool10 8 #[] #[] 1537 35 #[] #[])
  fields := #[]
  methods := #[]
  instanceTypes := #[]
  staticTypes := #[]
  resolved := Array.replicate 62 none
  statics := none }

def pool11 : Array CpInfo := pool [(10, .class_ 12), (1, u "java/util/Collection"), (47, .class_ 61), (0, u "java/lang/Object"), (0, .class_ 63), (0, u "java/lang/Iterable")] 51

/-- java/util/Collection -/
def k11 : Class := { plain "java/util/Collection" (some 0) with
  accessFlags := 1537
  interfaces := #[10]
  cf := some (fileOf pool11 10 #[] #[] 1537 60 #[62] #[])
  fields := #[]
  methods := #[]
  instanceTypes := #[]
  staticTypes := #[]
  resolved := Array.replicate 115 none
  statics := none }

def pool12 : Array CpInfo := pool [(1, .methodref 2 3), (0, .class_ 4), (0, .nameAndType 5 6), (0, u "java/lang/Object"), (0, u "<init>"), (0, u "()V"), (1, .class_ 10), (1, u "java/util/AbstractCollection"), (66, .class_ 78), (0, u "java/util/Collection")] 81

def k12c0 : Code := { maxStack := 1, maxLocals := 1, code := jdk_22_method_1_code, exceptionTable := #[], attributes := #[] }
def k12m0 : Method := { name := "<init>", desc := "()V", sig := { parameters := [], returnType := none }, accessFlags := 4, code := some k12c0 }
/-- java/util/AbstractCollection -/
def k12 : Class := { plain "java/util/AbstractCollection" (some 0) with
  accessFlags := 1057
  interfaces := #[11]
  cf := some (fileOf pool12 8 #[] #[{ accessFlags := 4, nameIndex := 5, descriptorIndex := 6, attributes := #[] }] 1057 2 #[77] #[])
  fields := #[]
  methods := #[k12m0]
  instanceTypes := #[]
  staticTypes := #[]
  resolved := Array.replicate 160 none
  statics := none }

def pool13 : Array CpInfo := pool [(8, .class_ 10), (1, u "java/util/SequencedCollection"), (15, .class_ 27), (0, u "java/lang/Object"), (0, .class_ 29), (0, u "java/util/Collection")] 27

/-- java/util/SequencedCollection -/
def k13 : Class := { plain "java/util/SequencedCollection" (some 0) with
  accessFlags := 1537
  interfaces := #[11]
  cf := some (fileOf pool13 8 #[] #[] 1537 26 #[28] #[])
  fields := #[]
  methods := #[]
  instanceTypes := #[]
  staticTypes := #[]
  resolved := Array.replicate 57 none
  statics := none }

def pool14 : Array CpInfo := pool [(8, .class_ 10), (1, u "java/util/List"), (92, .class_ 104), (0, u "java/lang/Object"), (15, .class_ 121), (0, u "java/util/SequencedCollection")] 129

/-- java/util/List -/
def k14 : Class := { plain "java/util/List" (some 0) with
  accessFlags := 1537
  interfaces := #[13]
  cf := some (fileOf pool14 8 #[] #[] 1537 103 #[120] #[])
  fields := #[]
  methods := #[]
  instanceTypes := #[]
  staticTypes := #[]
  resolved := Array.replicate 251 none
  statics := none }

def pool15 : Array CpInfo := pool [(1, .methodref 2 3), (0, .class_ 4), (0, .nameAndType 5 6), (0, u "java/util/AbstractCollection"), (0, u "<init>"), (0, u "()V"), (0, .fieldref 8 9), (0, .class_ 10), (0, .nameAndType 11 12), (0, u "java/util/AbstractList"), (0, u "modCount"), (0, u "I"), (64, .class_ 78), (0, u "java/util/AbstractList$Itr"), (3, .class_ 83), (0, u "java/util/AbstractList$ListItr"), (9, .class_ 94), (0, u "java/util/AbstractList$RandomAccessSubList"), (3, .class_ 99), (0, u "java/util/AbstractList$SubList"), (33, .class_ 134), (0, u "java/util/List"), (73, .class_ 209), (0, u "java/util/AbstractList$SubList$1"), (0, .class_ 211), (0, u "java/util/AbstractList$RandomAccessSpliterator")] 6

def k15c0 : Code := { maxStack := 2, maxLocals := 1, code := jdk_39_method_1_code, exceptionTable := #[], attributes := #[] }
def k15m0 : Method := { name := "<init>", desc := "()V", sig := { parameters := [], returnType := none }, accessFlags := 4, code := some k15c0 }
/-- java/util/AbstractList -/
def k15 : Class := { plain "java/util/AbstractList" (some 12) with
  accessFlags := 1057
  interfaces := #[14]
  cf := some (fileOf pool15 8 #[.nestMembers #[93, 98, 208, 210, 82, 77]] #[{ accessFlags := 4, nameIndex := 5, descriptorIndex := 6, attributes := #[] }] 1057 2 #[133] #[{ accessFlags := 132, nameIndex := 11, descriptorIndex := 12, attributes := #[] }])
  fields := #[{ name := "modCount", type := .int, accessFlags := 132, slot := 0, constantValue := 0 }]
  methods := #[k15m0]
  instanceTypes := #[.int]
  staticTypes := #[]
  resolved := Array.replicate 218 none
  statics := none }

def pool16 : Array CpInfo := pool [(1, .class_ 2), (0, u "java/util/RandomAccess"), (0, .class_ 4), (0, u "java/lang/Object")] 2

/-- java/util/RandomAccess -/
def k16 : Class := { plain "java/util/RandomAccess" (some 0) with
  accessFlags := 1537
  interfaces := #[]
  cf := some (fileOf pool16 1 #[] #[] 1537 3 #[] #[])
  fields := #[]
  methods := #[]
  instanceTypes := #[]
  staticTypes := #[]
  resolved := Array.replicate 7 none
  statics := none }

def pool17 : Array CpInfo := pool [(1, .class_ 2), (0, u "java/lang/Cloneable"), (0, .class_ 4), (0, u "java/lang/Object")] 2

/-- java/lang/Cloneable -/
def k17 : Class := { plain "java/lang/Cloneable" (some 0) with
  accessFlags := 1537
  interfaces := #[]
  cf := some (fileOf pool17 1 #[] #[] 1537 3 #[] #[])
  fields := #[]
  methods := #[]
  instanceTypes := #[]
  staticTypes := #[]
  resolved := Array.replicate 7 none
  statics := none }

def pool18 : Array CpInfo := pool [(1, .methodref 2 3), (0, .class_ 4), (0, .nameAndType 5 6), (0, u "java/util/AbstractList"), (0, u "<init>"), (0, u "()V"), (2, .fieldref 10 11), (0, .class_ 12), (0, .nameAndType 13 14), (0, u "java/util/ArrayList"), (0, u "elementData"), (0, u "[Ljava/lang/Object;"), (2, u "EMPTY_ELEMENTDATA"), (21, .fieldref 10 40), (0, .nameAndType 41 14), (0, u "DEFAULTCAPACITY_EMPTY_ELEMENTDATA"), (8, u "size"), (0, u "I"), (96, .class_ 149), (0, u "java/util/List"), (112, .class_ 263), (0, u "java/util/ArrayList$ListItr"), (3, .class_ 268), (0, u "java/util/ArrayList$Itr"), (7, .class_ 277), (0, u "java/util/ArrayList$SubList"), (12, .class_ 291), (0, u "java/util/ArrayList$ArrayListSpliterator"), (37, .class_ 330), (0, u "java/util/RandomAccess"), (0, .class_ 332), (0, u "java/lang/Cloneable"), (0, .class_ 334), (0, u "java/io/Serializable"), (0, u "serialVersionUID"), (0, u "J"), (3, u "DEFAULT_CAPACITY"), (159, .class_ 501), (0, u "java/util/ArrayList$SubList$2"), (0, .class_ 503), (0, u "java/util/ArrayList$SubList$1")] 5

def k18c0 : Code := { maxStack := 2, maxLocals := 1, code := jdk_38_method_2_code, exceptionTable := #[], attributes := #[] }
def k18m0 : Method := { name := "<init>", desc := "()V", sig := { parameters := [], returnType := none }, accessFlags := 1, code := some k18c0 }
/-- java/util/ArrayList -/
def k18 : Class := { plain "java/util/ArrayList" (some 15) with
  accessFlags := 33
  interfaces := #[14, 16, 17, 3]
  cf := some (fileOf pool18 10 #[.nestMembers #[290, 276, 500, 502, 262, 267]] #[{ accessFlags := 1, nameIndex := 5, descriptorIndex := 6, attributes := #[] }] 33 2 #[148, 329, 331, 333] #[{ accessFlags := 26, nameIndex := 335, descriptorIndex := 336, attributes := #[] }, { accessFlags := 26, nameIndex := 340, descriptorIndex := 51, attributes := #[] }, { accessFlags := 26, nameIndex := 17, descriptorIndex := 14, attributes := #[] }, { accessFlags := 26, nameIndex := 41, descriptorIndex := 14, attributes := #[] }, { accessFlags := 128, nameIndex := 13, descriptorIndex := 14, attributes := #[] }, { accessFlags := 2, nameIndex := 50, descriptorIndex := 51, attributes := #[] }])
  fields := #[{ name := "serialVersionUID", type := .long, accessFlags := 26, slot := 0, constantValue := 0 }, { name := "DEFAULT_CAPACITY", type := .int, accessFlags := 26, slot := 1, constantValue := 0 }, { name := "EMPTY_ELEMENTDATA", type := (.array (.object "java/lang/Object")), accessFlags := 26, slot := 2, constantValue := 0 }, { name := "DEFAULTCAPACITY_EMPTY_ELEMENTDATA", type := (.array (.object "java/lang/Object")), accessFlags := 26, slot := 3, constantValue := 0 }, { name := "elementData", type := (.array (.object "java/lang/Object")), accessFlags := 128, slot := 1, constantValue := 0 }, { name := "size", type := .int, accessFlags := 2, slot := 2, constantValue := 0 }]
  methods := #[k18m0]
  instanceTypes := #[.int, (.array (.object "java/lang/Object")), .int]
  staticTypes := #[.long, .int, (.array (.object "java/lang/Object")), (.array (.object "java/lang/Object"))]
  resolved := Array.replicate 509 none
  statics := some 0 }

def pool19 : Array CpInfo := pool [(1, .class_ 2), (0, u "java/lang/Math"), (1, .class_ 6), (1, u "java/lang/Object"), (0, u "<init>"), (0, u "()V"), (1, .class_ 12), (1, u "java/lang/StrictMath"), (1, u "(D)D"), (37, u "(DD)D"), (3, .methodref 10 57), (0, .nameAndType 58 14), (0, u "floor"), (20, .methodref 80 81), (0, .class_ 82), (0, .nameAndType 83 84), (0, u "java/lang/Double"), (0, u "doubleToRawLongBits"), (0, u "(D)J"), (2, .long 9218868437227405312), (1, .long 1074), (1, .long 18446744073709551552), (1, .long 4503599627370495), (1, .long 4503599627370496), (2, .class_ 100), (1, u "java/lang/Math$RandomNumberGeneratorHolder"), (20, u "(JJ)J"), (50, u "negativeZeroFloatBits"), (0, u "J"), (2, u "negativeZeroDoubleBits"), (21, u "max"), (2, u "min"), (43, u "$assertionsDisabled"), (0, u "Z"), (33, u "getExponent"), (0, u "(D)I"), (40, .long 1023), (15, u "twoToTheDoubleScaleDown"), (0, u "D"), (4, u "twoToTheDoubleScaleUp"), (9, u "E"), (3, u "PI"), (2, u "TAU"), (2, u "DEGREES_TO_RADIANS"), (0, u "RADIANS_TO_DEGREES"), (17, u "round")] 76

def k19m0 : Method := { name := "<init>", desc := "()V", sig := { parameters := [], returnType := none }, accessFlags := 2, code := none }
def k19c1 : Code := { maxStack := 2, maxLocals := 2, code := jdk_29_method_17_code, exceptionTable := #[], attributes := #[] }
def k19m1 : Method := { name := "floor", desc := "(D)D", sig := { parameters := [.double], returnType := some .double }, accessFlags := 9, code := some k19c1 }
def k19c2 : Code := { maxStack := 4, maxLocals := 10, code := jdk_29_method_22_code, exceptionTable := #[], attributes := #[] }
def k19m2 : Method := { name := "round", desc := "(D)J", sig := { parameters := [.double], returnType := some .long }, accessFlags := 9, code := some k19c2 }
def k19c3 : Code := { maxStack := 4, maxLocals := 4, code := jdk_29_method_66_code, exceptionTable := #[], attributes := #[] }
def k19m3 : Method := { name := "max", desc := "(JJ)J", sig := { parameters := [.long, .long], returnType := some .long }, accessFlags := 9, code := some k19c3 }
def k19c4 : Code := { maxStack := 4, maxLocals := 4, code := jdk_29_method_68_code, exceptionTable := #[], attributes := #[] }
def k19m4 : Method := { name := "max", desc := "(DD)D", sig := { parameters := [.double, .double], returnType := some .double }, accessFlags := 9, code := some k19c4 }
def k19c5 : Code := { maxStack := 4, maxLocals := 4, code := jdk_29_method_70_code, exceptionTable := #[], attributes := #[] }
def k19m5 : Method := { name := "min", desc := "(JJ)J", sig := { parameters := [.long, .long], returnType := some .long }, accessFlags := 9, code := some k19c5 }
def k19c6 : Code := { maxStack := 4, maxLocals := 4, code := jdk_29_method_72_code, exceptionTable := #[], attributes := #[] }
def k19m6 : Method := { name := "min", desc := "(DD)D", sig := { parameters := [.double, .double], returnType := some .double }, accessFlags := 9, code := some k19c6 }
def k19c7 : Code := { maxStack := 4, maxLocals := 2, code := jdk_29_method_92_code, exceptionTable := #[], attributes := #[] }
def k19m7 : Method := { name := "getExponent", desc := "(D)I", sig := { parameters := [.double], returnType := some .int }, accessFlags := 9, code := some k19c7 }
/-- java/lang/Math -/
def k19 : Class := { plain "java/lang/Math" (some 0) with
  accessFlags := 49
  interfaces := #[]
  cf := some (fileOf pool19 1 #[.nestMembers #[98]] #[{ accessFlags := 2, nameIndex := 7, descriptorIndex := 8, attributes := #[] }, { accessFlags := 9, nameIndex := 58, descriptorIndex := 14, attributes := #[] }, { accessFlags := 9, nameIndex := 383, descriptorIndex := 84, attributes := #[] }, { accessFlags := 9, nameIndex := 198, descriptorIndex := 121, attributes := #[] }, { accessFlags := 9, nameIndex := 198, descriptorIndex := 52, attributes := #[] }, { accessFlags := 9, nameIndex := 201, descriptorIndex := 121, attributes := #[] }, { accessFlags := 9, nameIndex := 201, descriptorIndex := 52, attributes := #[] }, { accessFlags := 9, nameIndex := 280, descriptorIndex := 281, attributes := #[] }] 49 4 #[] #[{ accessFlags := 25, nameIndex := 354, descriptorIndex := 339, attributes := #[] }, { accessFlags := 25, nameIndex := 358, descriptorIndex := 339, attributes := #[] }, { accessFlags := 25, nameIndex := 361, descriptorIndex := 339, attributes := #[] }, { accessFlags := 26, nameIndex := 364, descriptorIndex := 339, attributes := #[] }, { accessFlags := 26, nameIndex := 365, descriptorIndex := 339, attributes := #[] }, { accessFlags := 26, nameIndex := 172, descriptorIndex := 173, attributes := #[] }, { accessFlags := 26, nameIndex := 176, descriptorIndex := 173, attributes := #[] }, { accessFlags := 8, nameIndex := 344, descriptorIndex := 339, attributes := #[] }, { accessFlags := 8, nameIndex := 338, descriptorIndex := 339, attributes := #[] }, { accessFlags := 4120, nameIndex := 245, descriptorIndex := 246, attributes := #[] }])
  fields := #[{ name := "E", type := .double, accessFlags := 25, slot := 0, constantValue := 0 }, { name := "PI", type := .double, accessFlags := 25, slot := 1, constantValue := 0 }, { name := "TAU", type := .double, accessFlags := 25, slot := 2, constantValue := 0 }, { name := "DEGREES_TO_RADIANS", type := .double, accessFlags := 26, slot := 3, constantValue := 0 }, { name := "RADIANS_TO_DEGREES", type := .double, accessFlags := 26, slot := 4, constantValue := 0 }, { name := "negativeZeroFloatBits", type := .long, accessFlags := 26, slot := 5, constantValue := 0 }, { name := "negativeZeroDoubleBits", type := .long, accessFlags := 26, slot := 6, constantValue := 0 }, { name := "twoToTheDoubleScaleUp", type := .double, accessFlags := 8, slot := 7, constantValue := 0 }, { name := "twoToTheDoubleScaleDown", type := .double, accessFlags := 8, slot := 8, constantValue := 0 }, { name := "$assertionsDisabled", type := .boolean, accessFlags := 4120, slot := 9, constantValue := 0 }]
  methods := #[k19m0, k19m1, k19m2, k19m3, k19m4, k19m5, k19m6, k19m7]
  instanceTypes := #[]
  staticTypes := #[.double, .double, .double, .double, .double, .long, .long, .double, .double, .boolean]
  resolved := Array.replicate 460 none
  statics := none }

def pool20 : Array CpInfo := pool [(2, .class_ 4), (1, u "java/lang/Object"), (0, u "<init>"), (0, u "()V"), (1, .class_ 10), (1, u "java/lang/Number"), (2, .class_ 14), (0, u "java/io/Serializable"), (0, u "serialVersionUID"), (0, u "J")] 20

def k20m0 : Method := { name := "<init>", desc := "()V", sig := { parameters := [], returnType := none }, accessFlags := 1, code := none }
/-- java/lang/Number -/
def k20 : Class := { plain "java/lang/Number" (some 0) with
  accessFlags := 1057
  interfaces := #[3]
  cf := some (fileOf pool20 8 #[] #[{ accessFlags := 1, nameIndex := 5, descriptorIndex := 6, attributes := #[] }] 1057 2 #[13] #[{ accessFlags := 26, nameIndex := 15, descriptorIndex := 16, attributes := #[] }])
  fields := #[{ name := "serialVersionUID", type := .long, accessFlags := 26, slot := 0, constantValue := 0 }]
  methods := #[k20m0]
  instanceTypes := #[]
  staticTypes := #[.long]
  resolved := Array.replicate 37 none
  statics := none }

def pool21 : Array CpInfo := pool [(1, .class_ 2), (0, u "java/lang/Double"), (46, u "(D)J"), (64, .class_ 116), (1, u "java/lang/Number"), (3, u "value"), (0, u "D"), (14, u "doubleToRawLongBits"), (36, u "TYPE"), (0, u "Ljava/lang/Class;"), (0, .class_ 176), (0, u "java/lang/Comparable"), (0, .class_ 178), (0, u "java/lang/constant/Constable"), (0, .class_ 180), (0, u "java/lang/constant/ConstantDesc"), (0, u "POSITIVE_INFINITY"), (3, u "NEGATIVE_INFINITY"), (2, u "NaN"), (2, u "MAX_VALUE"), (0, u "MIN_NORMAL"), (0, u "MIN_VALUE"), (2, u "SIZE"), (0, u "I"), (1, u "PRECISION"), (1, u "MAX_EXPONENT"), (1, u "MIN_EXPONENT"), (1, u "BYTES"), (3, u "serialVersionUID"), (0, u "J"), (48, u "longBitsToDouble"), (0, u "(J)D")] 29

def k21m0 : Method := { name := "doubleToRawLongBits", desc := "(D)J", sig := { parameters := [.double], returnType := some .long }, accessFlags := 265, code := none }
def k21m1 : Method := { name := "longBitsToDouble", desc := "(J)D", sig := { parameters := [.long], returnType := some .double }, accessFlags := 265, code := none }
/-- java/lang/Double -/
def k21 : Class := { plain "java/lang/Double" (some 20) with
  accessFlags := 49
  interfaces := #[4, 6, 7]
  cf := some (fileOf pool21 1 #[] #[{ accessFlags := 265, nameIndex := 136, descriptorIndex := 49, attributes := #[] }, { accessFlags := 265, nameIndex := 259, descriptorIndex := 260, attributes := #[] }] 49 114 #[175, 177, 179] #[{ accessFlags := 25, nameIndex := 181, descriptorIndex := 121, attributes := #[] }, { accessFlags := 25, nameIndex := 185, descriptorIndex := 121, attributes := #[] }, { accessFlags := 25, nameIndex := 188, descriptorIndex := 121, attributes := #[] }, { accessFlags := 25, nameIndex := 191, descriptorIndex := 121, attributes := #[] }, { accessFlags := 25, nameIndex := 192, descriptorIndex := 121, attributes := #[] }, { accessFlags := 25, nameIndex := 193, descriptorIndex := 121, attributes := #[] }, { accessFlags := 25, nameIndex := 196, descriptorIndex := 197, attributes := #[] }, { accessFlags := 25, nameIndex := 199, descriptorIndex := 197, attributes := #[] }, { accessFlags := 25, nameIndex := 201, descriptorIndex := 197, attributes := #[] }, { accessFlags := 25, nameIndex := 203, descriptorIndex := 197, attributes := #[] }, { accessFlags := 25, nameIndex := 205, descriptorIndex := 197, attributes := #[] }, { accessFlags := 25, nameIndex := 173, descriptorIndex := 174, attributes := #[] }, { accessFlags := 18, nameIndex := 120, descriptorIndex := 121, attributes := #[] }, { accessFlags := 26, nameIndex := 209, descriptorIndex := 210, attributes := #[] }])
  fields := #[{ name := "POSITIVE_INFINITY", type := .double, accessFlags := 25, slot := 0, constantValue := 0 }, { name := "NEGATIVE_INFINITY", type := .double, accessFlags := 25, slot := 1, constantValue := 0 }, { name := "NaN", type := .double, accessFlags := 25, slot := 2, constantValue := 0 }, { name := "MAX_VALUE", type := .double, accessFlags := 25, slot := 3, constantValue := 0 }, { name := "MIN_NORMAL", type := .double, accessFlags := 25, slot := 4, constantValue := 0 }, { name := "MIN_VALUE", type := .double, accessFlags := 25, slot := 5, constantValue := 0 }, { name := "SIZE", type := .int, accessFlags := 25, slot := 6, constantValue := 0 }, { name := "PRECISION", type := .int, accessFlags := 25, slot := 7, constantValue := 0 }, { name := "MAX_EXPONENT", type := .int, accessFlags := 25, slot := 8, constantValue := 0 }, { name := "MIN_EXPONENT", type := .int, accessFlags := 25, slot := 9, constantValue := 0 }, { name := "BYTES", type := .int, accessFlags := 25, slot := 10, constantValue := 0 }, { name := "TYPE", type := (.object "java/lang/Class"), accessFlags := 25, slot := 11, constantValue := 0 }, { name := "value", type := .double, accessFlags := 18, slot := 0, constantValue := 0 }, { name := "serialVersionUID", type := .long, accessFlags := 26, slot := 12, constantValue := 0 }]
  methods := #[k21m0, k21m1]
  instanceTypes := #[.double]
  staticTypes := #[.double, .double, .double, .double, .double, .double, .int, .int, .int, .int, .int, (.object "java/lang/Class"), .long]
  resolved := Array.replicate 290 none
  statics := none }

def pool22 : Array CpInfo := pool [(1, .class_ 2), (0, u "java/lang/StrictMath"), (1, .class_ 6), (1, u "java/lang/Object"), (0, u "<init>"), (0, u "()V"), (5, u "(D)D"), (16, .class_ 33), (1, u "java/lang/Math"), (26, .methodref 1 61), (0, .nameAndType 62 63), (0, u "floorOrCeil"), (0, u "(DDDD)D"), (0, .double 13830554455654793216), (1, .methodref 31 67), (0, .nameAndType 68 69), (0, u "getExponent"), (0, u "(D)I"), (0, .fieldref 1 71), (0, .nameAndType 72 73), (0, u "$assertionsDisabled"), (0, u "Z"), (3, .methodref 78 79), (0, .class_ 80), (0, .nameAndType 81 82), (0, u "java/lang/Double"), (0, u "doubleToRawLongBits"), (0, u "(D)J"), (2, .long 4503599627370495), (1, .long 18446744073709551615), (1, .methodref 78 90), (0, .nameAndType 91 92), (0, u "longBitsToDouble"), (0, u "(J)D"), (21, .class_ 116), (1, u "java/lang/StrictMath$RandomNumberGeneratorHolder"), (222, u "E"), (0, u "D"), (3, u "PI"), (2, u "TAU"), (27, u "floor")] 60

def k22m0 : Method := { name := "<init>", desc := "()V", sig := { parameters := [], returnType := none }, accessFlags := 2, code := none }
def k22c1 : Code := { maxStack := 8, maxLocals := 2, code := jdk_128_method_17_code, exceptionTable := #[], attributes := #[] }
def k22m1 : Method := { name := "floor", desc := "(D)D", sig := { parameters := [.double], returnType := some .double }, accessFlags := 9, code := some k22c1 }
def k22c2 : Code := { maxStack := 6, maxLocals := 15, code := jdk_128_method_18_code, exceptionTable := #[], attributes := #[] }
def k22m2 : Method := { name := "floorOrCeil", desc := "(DDDD)D", sig := { parameters := [.double, .double, .double, .double], returnType := some .double }, accessFlags := 10, code := some k22c2 }
/-- java/lang/StrictMath -/
def k22 : Class := { plain "java/lang/StrictMath" (some 0) with
  accessFlags := 49
  interfaces := #[]
  cf := some (fileOf pool22 1 #[.nestMembers #[114]] #[{ accessFlags := 2, nameIndex := 7, descriptorIndex := 8, attributes := #[] }, { accessFlags := 9, nameIndex := 375, descriptorIndex := 14, attributes := #[] }, { accessFlags := 10, nameIndex := 62, descriptorIndex := 63, attributes := #[] }] 49 4 #[] #[{ accessFlags := 25, nameIndex := 339, descriptorIndex := 340, attributes := #[] }, { accessFlags := 25, nameIndex := 344, descriptorIndex := 340, attributes := #[] }, { accessFlags := 25, nameIndex := 347, descriptorIndex := 340, attributes := #[] }, { accessFlags := 4120, nameIndex := 72, descriptorIndex := 73, attributes := #[] }])
  fields := #[{ name := "E", type := .double, accessFlags := 25, slot := 0, constantValue := 0 }, { name := "PI", type := .double, accessFlags := 25, slot := 1, constantValue := 0 }, { name := "TAU", type := .double, accessFlags := 25, slot := 2, constantValue := 0 }, { name := "$assertionsDisabled", type := .boolean, accessFlags := 4120, slot := 3, constantValue := 0 }]
  methods := #[k22m0, k22m1, k22m2]
  instanceTypes := #[]
  staticTypes := #[.double, .double, .double, .boolean]
  resolved := Array.replicate 436 none
  statics := some 1 }

def pool23 : Array CpInfo := pool [(1, .class_ 2), (0, u "java/util/Queue"), (0, .class_ 4), (0, u "java/lang/Object"), (0, .class_ 6), (0, u "java/util/Collection")] 14

/-- java/util/Queue -/
def k23 : Class := { plain "java/util/Queue" (some 0) with
  accessFlags := 1537
  interfaces := #[11]
  cf := some (fileOf pool23 1 #[] #[] 1537 3 #[5] #[])
  fields := #[]
  methods := #[]
  instanceTypes := #[]
  staticTypes := #[]
  resolved := Array.replicate 21 none
  statics := none }

def pool24 : Array CpInfo := pool [(8, .class_ 10), (1, u "java/util/Deque"), (2, .class_ 14), (0, u "java/lang/Object"), (0, .class_ 16), (0, u "java/util/Queue"), (0, .class_ 18), (0, u "java/util/SequencedCollection")] 51

/-- java/util/Deque -/
def k24 : Class := { plain "java/util/Deque" (some 0) with
  accessFlags := 1537
  interfaces := #[23, 13]
  cf := some (fileOf pool24 8 #[] #[] 1537 13 #[15, 17] #[])
  fields := #[]
  methods := #[]
  instanceTypes := #[]
  staticTypes := #[]
  resolved := Array.replicate 70 none
  statics := none }

def pool25 : Array CpInfo := pool [(3, .fieldref 4 5), (0, .class_ 6), (0, .nameAndType 7 8), (0, u "java/util/ArrayDeque"), (0, u "elements"), (0, u "[Ljava/lang/Object;"), (13, u "tail"), (0, u "I"), (2, u "head"), (12, u "<init>"), (2, .methodref 43 44), (0, .class_ 45), (0, .nameAndType 39 46), (0, u "java/util/AbstractCollection"), (0, u "()V"), (0, .class_ 48), (0, u "java/lang/Object"), (82, .class_ 132), (0, u "java/util/ArrayDeque$DeqIterator"), (3, .class_ 137), (0, u "java/util/ArrayDeque$DescendingIterator"), (1, .class_ 140), (0, u "java/util/ArrayDeque$DeqSpliterator"), (137, .class_ 279), (0, u "java/util/Deque"), (0, .class_ 281), (0, u "java/lang/Cloneable"), (0, .class_ 283), (0, u "java/io/Serializable"), (0, u "MAX_ARRAY_SIZE"), (1, u "serialVersionUID"), (0, u "J")] 150

def k25c0 : Code := { maxStack := 2, maxLocals := 1, code := jdk_21_method_3_code, exceptionTable := #[], attributes := #[] }
def k25m0 : Method := { name := "<init>", desc := "()V", sig := { parameters := [], returnType := none }, accessFlags := 1, code := some k25c0 }
/-- java/util/ArrayDeque -/
def k25 : Class := { plain "java/util/ArrayDeque" (some 12) with
  accessFlags := 33
  interfaces := #[24, 17, 3]
  cf := some (fileOf pool25 4 #[.nestMembers #[139, 136, 131]] #[{ accessFlags := 1, nameIndex := 39, descriptorIndex := 46, attributes := #[] }] 33 43 #[278, 280, 282] #[{ accessFlags := 128, nameIndex := 7, descriptorIndex := 8, attributes := #[] }, { accessFlags := 128, nameIndex := 26, descriptorIndex := 23, attributes := #[] }, { accessFlags := 128, nameIndex := 22, descriptorIndex := 23, attributes := #[] }, { accessFlags := 26, nameIndex := 284, descriptorIndex := 23, attributes := #[] }, { accessFlags := 26, nameIndex := 286, descriptorIndex := 287, attributes := #[] }])
  fields := #[{ name := "elements", type := (.array (.object "java/lang/Object")), accessFlags := 128, slot := 0, constantValue := 0 }, { name := "head", type := .int, accessFlags := 128, slot := 1, constantValue := 0 }, { name := "tail", type := .int, accessFlags := 128, slot := 2, constantValue := 0 }, { name := "MAX_ARRAY_SIZE", type := .int, accessFlags := 26, slot := 0, constantValue := 0 }, { name := "serialVersionUID", type := .long, accessFlags := 26, slot := 1, constantValue := 0 }]
  methods := #[k25m0]
  instanceTypes := #[(.array (.object "java/lang/Object")), .int, .int]
  staticTypes := #[.int, .long]
  resolved := Array.replicate 438 none
  statics := none }

def pool26 : Array CpInfo := pool [(1, .methodref 2 3), (0, .class_ 4), (0, .nameAndType 5 6), (0, u "java/lang/Object"), (0, u "<init>"), (0, u "()V"), (0, .class_ 8), (0, u "java/util/ArrayDeque"), (0, .methodref 7 3), (0, .fieldref 11 12), (0, .class_ 13), (0, .nameAndType 14 15), (0, u "com/example/nudged_routes/nudgedroutes/simulation/LinkQueue$OriginLine"), (0, u "joined"), (0, u "Ljava/util/ArrayDeque;"), (0, .methodref 17 18), (0, .class_ 19), (0, .nameAndType 20 21), (0, u "java/util/Collections"), (0, u "emptyIterator"), (0, u "()Ljava/util/Iterator;"), (0, .fieldref 11 23), (0, .nameAndType 24 25), (0, u "inherited"), (0, u "Ljava/util/Iterator;"), (17, u "inheritedFirst"), (0, u "Lcom/example/nudged_routes/nudgedroutes/simulation/Vehicle;"), (25, .class_ 71), (0, u "com/example/nudged_routes/nudgedroutes/simulation/LinkQueue")] 2

def k26c0 : Code := { maxStack := 3, maxLocals := 1, code := prog_88_method_1_code, exceptionTable := #[], attributes := #[] }
def k26m0 : Method := { name := "<init>", desc := "()V", sig := { parameters := [], returnType := none }, accessFlags := 0, code := some k26c0 }
/-- com/example/nudged_routes/nudgedroutes/simulation/LinkQueue$OriginLine -/
def k26 : Class := { plain "com/example/nudged_routes/nudgedroutes/simulation/LinkQueue$OriginLine" (some 0) with
  accessFlags := 48
  interfaces := #[]
  cf := some (fileOf pool26 11 #[.nestHost 70] #[{ accessFlags := 0, nameIndex := 5, descriptorIndex := 6, attributes := #[] }] 48 2 #[] #[{ accessFlags := 18, nameIndex := 24, descriptorIndex := 25, attributes := #[] }, { accessFlags := 2, nameIndex := 43, descriptorIndex := 44, attributes := #[] }, { accessFlags := 18, nameIndex := 14, descriptorIndex := 15, attributes := #[] }])
  fields := #[{ name := "inherited", type := (.object "java/util/Iterator"), accessFlags := 18, slot := 0, constantValue := 0 }, { name := "inheritedFirst", type := (.object "com/example/nudged_routes/nudgedroutes/simulation/Vehicle"), accessFlags := 2, slot := 1, constantValue := 0 }, { name := "joined", type := (.object "java/util/ArrayDeque"), accessFlags := 18, slot := 2, constantValue := 0 }]
  methods := #[k26m0]
  instanceTypes := #[(.object "java/util/Iterator"), (.object "com/example/nudged_routes/nudgedroutes/simulation/Vehicle"), (.object "java/util/ArrayDeque")]
  staticTypes := #[]
  resolved := Array.replicate 74 none
  statics := none }

def pool27 : Array CpInfo := pool [(2, .class_ 4), (1, u "java/lang/Object"), (0, u "<init>"), (0, u "()V"), (12, .class_ 20), (0, u "java/util/Collections"), (63, u "r"), (0, u "Ljava/util/Random;"), (38, u "()Ljava/util/Iterator;"), (41, .class_ 167), (0, u "java/util/Collections$UnmodifiableCollection"), (6, .class_ 175), (0, u "java/util/Collections$UnmodifiableSequencedCollection"), (6, .class_ 183), (0, u "java/util/Collections$UnmodifiableSet"), (6, .class_ 191), (0, u "java/util/Collections$UnmodifiableSequencedSet"), (6, .class_ 199), (0, u "java/util/Collections$UnmodifiableSortedSet"), (6, .class_ 207), (0, u "java/util/Collections$UnmodifiableNavigableSet"), (4, .class_ 213), (0, u "java/util/Collections$UnmodifiableList"), (1, .class_ 216), (0, u "java/util/Collections$UnmodifiableRandomAccessList"), (6, .class_ 224), (0, u "java/util/Collections$UnmodifiableMap"), (6, .class_ 232), (0, u "java/util/Collections$UnmodifiableSequencedMap"), (4, .class_ 238), (0, u "java/util/Collections$UnmodifiableSortedMap"), (6, .class_ 246), (0, u "java/util/Collections$UnmodifiableNavigableMap"), (3, .class_ 251), (0, u "java/util/Collections$SynchronizedCollection"), (4, .class_ 257), (0, u "java/util/Collections$SynchronizedSet"), (4, .class_ 263), (0, u "java/util/Collections$SynchronizedSortedSet"), (1, .class_ 266), (0, u "java/util/Collections$SynchronizedNavigableSet"), (1, .class_ 269), (0, u "java/util/Collections$SynchronizedRandomAccessList"), (1, .class_ 272), (0, u "java/util/Collections$SynchronizedList"), (5, .class_ 279), (0, u "java/util/Collections$SynchronizedMap"), (1, .class_ 282), (0, u "java/util/Collections$SynchronizedSortedMap"), (1, .class_ 285), (0, u "java/util/Collections$SynchronizedNavigableMap"), (1, .class_ 288), (0, u "java/util/Collections$CheckedCollection"), (11, .class_ 301), (0, u "java/util/Collections$CheckedQueue"), (3, .class_ 306), (0, u "java/util/Collections$CheckedSet"), (3, .class_ 311), (0, u "java/util/Collections$CheckedSortedSet"), (3, .class_ 316), (0, u "java/util/Collections$CheckedNavigableSet"), (3, .class_ 321), (0, u "java/util/Collections$CheckedRandomAccessList"), (3, .class_ 326), (0, u "java/util/Collections$CheckedList"), (1, .class_ 329), (0, u "java/util/Collections$CheckedMap"), (3, .class_ 334), (0, u "java/util/Collections$CheckedSortedMap"), (3, .class_ 339), (0, u "java/util/Collections$CheckedNavigableMap"), (3, .fieldref 344 345), (0, .class_ 346), (0, .nameAndType 347 348), (0, u "java/util/Collections$EmptyIterator"), (0, u "EMPTY_ITERATOR"), (0, u "Ljava/util/Collections$EmptyIterator;"), (1, .class_ 352), (1, u "java/util/Collections$EmptyListIterator"), (2, .class_ 357), (1, u "java/util/Collections$EmptyEnumeration"), (4, u "EMPTY_SET"), (0, u "Ljava/util/Set;"), (6, u "EMPTY_LIST"), (0, u "Ljava/util/List;"), (2, u "EMPTY_MAP"), (0, u "Ljava/util/Map;"), (4, .class_ 381), (0, u "java/util/Collections$SingletonSet"), (2, .class_ 385), (0, u "java/util/Collections$1"), (1, .class_ 388), (0, u "java/util/Collections$2"), (1, .class_ 391), (0, u "java/util/Collections$SingletonList"), (1, .class_ 394), (0, u "java/util/Collections$SingletonMap"), (22, .class_ 418), (0, u "java/util/Collections$CopiesList"), (4, .class_ 425), (1, u "java/util/Collections$ReverseComparator"), (8, .class_ 435), (0, u "java/util/Collections$ReverseComparator2"), (6, .class_ 443), (0, u "java/util/Collections$3"), (25, .class_ 470), (0, u "java/util/Collections$SetFromMap"), (2, .class_ 474), (0, u "java/util/Collections$SequencedSetFromMap"), (3, .class_ 479), (0, u "java/util/Collections$AsLIFOQueue"), (11, .class_ 492), (0, u "java/util/Collections$EmptySet"), (1, .class_ 495), (0, u "java/util/Collections$EmptyList"), (1, .class_ 498), (0, u "java/util/Collections$EmptyMap"), (1, u "BINARYSEARCH_THRESHOLD"), (0, u "I"), (2, u "REVERSE_THRESHOLD"), (1, u "SHUFFLE_THRESHOLD"), (1, u "FILL_THRESHOLD"), (1, u "ROTATE_THRESHOLD"), (1, u "COPY_THRESHOLD"), (1, u "REPLACEALL_THRESHOLD"), (1, u "INDEXOFSUBLIST_THRESHOLD"), (224, u "emptyIterator"), (108, .class_ 851), (0, u "java/util/Collections$CheckedMap$CheckedEntrySet"), (0, .class_ 853), (0, u "java/util/Collections$CheckedMap$CheckedEntrySet$CheckedEntry"), (0, .class_ 855), (0, u "java/util/Collections$CheckedMap$CheckedEntrySet$1"), (0, .class_ 857), (0, u "java/util/Collections$CheckedList$1"), (0, .class_ 859), (0, u "java/util/Collections$CheckedCollection$1"), (0, .class_ 861), (0, u "java/util/Collections$UnmodifiableNavigableMap$EmptyNavigableMap"), (0, .class_ 863), (0, u "java/util/Collections$UnmodifiableMap$UnmodifiableEntrySet"), (0, .class_ 865), (0, u "java/util/Collections$UnmodifiableMap$UnmodifiableEntrySet$UnmodifiableEntry"), (0, .class_ 867), (0, u "java/util/Collections$UnmodifiableMap$UnmodifiableEntrySet$UnmodifiableEntrySetSpliterator"), (0, .class_ 869), (0, u "java/util/Collections$UnmodifiableMap$UnmodifiableEntrySet$1"), (0, .class_ 871), (0, u "java/util/Collections$UnmodifiableList$1"), (0, .class_ 873), (0, u "java/util/Collections$UnmodifiableNavigableSet$EmptyNavigableSet"), (0, .class_ 875), (0, u "java/util/Collections$UnmodifiableCollection$1")] 57

def k27m0 : Method := { name := "<init>", desc := "()V", sig := { parameters := [], returnType := none }, accessFlags := 2, code := none }
def k27c1 : Code := { maxStack := 1, maxLocals := 0, code := jdk_79_method_61_code, exceptionTable := #[], attributes := #[] }
def k27m1 : Method := { name := "emptyIterator", desc := "()Ljava/util/Iterator;", sig := { parameters := [], returnType := some (.object "java/util/Iterator") }, accessFlags := 9, code := some k27c1 }
/-- java/util/Collections -/
def k27 : Class := { plain "java/util/Collections" (some 0) with
  accessFlags := 33
  interfaces := #[]
  cf := some (fileOf pool27 19 #[.nestMembers #[478, 473, 469, 434, 423, 417, 393, 390, 380, 497, 494, 491, 355, 350, 344, 338, 333, 328, 850, 852, 854, 320, 325, 856, 315, 310, 305, 300, 287, 858, 284, 281, 278, 268, 271, 265, 262, 256, 250, 245, 860, 237, 231, 223, 862, 864, 866, 868, 215, 212, 870, 206, 872, 198, 190, 182, 174, 166, 874, 442, 387, 384]] #[{ accessFlags := 2, nameIndex := 5, descriptorIndex := 6, attributes := #[] }, { accessFlags := 9, nameIndex := 741, descriptorIndex := 124, attributes := #[] }] 33 2 #[] #[{ accessFlags := 26, nameIndex := 500, descriptorIndex := 501, attributes := #[] }, { accessFlags := 26, nameIndex := 504, descriptorIndex := 501, attributes := #[] }, { accessFlags := 26, nameIndex := 506, descriptorIndex := 501, attributes := #[] }, { accessFlags := 26, nameIndex := 508, descriptorIndex := 501, attributes := #[] }, { accessFlags := 26, nameIndex := 510, descriptorIndex := 501, attributes := #[] }, { accessFlags := 26, nameIndex := 512, descriptorIndex := 501, attributes := #[] }, { accessFlags := 26, nameIndex := 514, descriptorIndex := 501, attributes := #[] }, { accessFlags := 26, nameIndex := 516, descriptorIndex := 501, attributes := #[] }, { accessFlags := 10, nameIndex := 84, descriptorIndex := 85, attributes := #[] }, { accessFlags := 25, nameIndex := 362, descriptorIndex := 363, attributes := #[] }, { accessFlags := 25, nameIndex := 370, descriptorIndex := 371, attributes := #[] }, { accessFlags := 25, nameIndex := 374, descriptorIndex := 375, attributes := #[] }])
  fields := #[{ name := "BINARYSEARCH_THRESHOLD", type := .int, accessFlags := 26, slot := 0, constantValue := 0 }, { name := "REVERSE_THRESHOLD", type := .int, accessFlags := 26, slot := 1, constantValue := 0 }, { name := "SHUFFLE_THRESHOLD", type := .int, accessFlags := 26, slot := 2, constantValue := 0 }, { name := "FILL_THRESHOLD", type := .int, accessFlags := 26, slot := 3, constantValue := 0 }, { name := "ROTATE_THRESHOLD", type := .int, accessFlags := 26, slot := 4, constantValue := 0 }, { name := "COPY_THRESHOLD", type := .int, accessFlags := 26, slot := 5, constantValue := 0 }, { name := "REPLACEALL_THRESHOLD", type := .int, accessFlags := 26, slot := 6, constantValue := 0 }, { name := "INDEXOFSUBLIST_THRESHOLD", type := .int, accessFlags := 26, slot := 7, constantValue := 0 }, { name := "r", type := (.object "java/util/Random"), accessFlags := 10, slot := 8, constantValue := 0 }, { name := "EMPTY_SET", type := (.object "java/util/Set"), accessFlags := 25, slot := 9, constantValue := 0 }, { name := "EMPTY_LIST", type := (.object "java/util/List"), accessFlags := 25, slot := 10, constantValue := 0 }, { name := "EMPTY_MAP", type := (.object "java/util/Map"), accessFlags := 25, slot := 11, constantValue := 0 }]
  methods := #[k27m0, k27m1]
  instanceTypes := #[]
  staticTypes := #[.int, .int, .int, .int, .int, .int, .int, .int, (.object "java/util/Random"), (.object "java/util/Set"), (.object "java/util/List"), (.object "java/util/Map")]
  resolved := Array.replicate 933 none
  statics := none }

def pool28 : Array CpInfo := pool [(16, .class_ 18), (1, u "java/util/Iterator"), (12, .class_ 32), (0, u "java/lang/Object")] 20

/-- java/util/Iterator -/
def k28 : Class := { plain "java/util/Iterator" (some 0) with
  accessFlags := 1537
  interfaces := #[]
  cf := some (fileOf pool28 16 #[] #[] 1537 31 #[] #[])
  fields := #[]
  methods := #[]
  instanceTypes := #[]
  staticTypes := #[]
  resolved := Array.replicate 53 none
  statics := none }

def pool29 : Array CpInfo := pool [(2, .class_ 4), (1, u "java/lang/Object"), (0, u "<init>"), (0, u "()V"), (12, .class_ 20), (0, u "java/util/Collections$EmptyIterator"), (3, u "EMPTY_ITERATOR"), (0, u "Ljava/util/Collections$EmptyIterator;"), (0, .class_ 27), (0, u "java/util/Iterator"), (25, .class_ 54), (0, u "java/util/Collections")] 2

def k29m0 : Method := { name := "<init>", desc := "()V", sig := { parameters := [], returnType := none }, accessFlags := 2, code := none }
/-- java/util/Collections$EmptyIterator -/
def k29 : Class := { plain "java/util/Collections$EmptyIterator" (some 0) with
  accessFlags := 32
  interfaces := #[28]
  cf := some (fileOf pool29 19 #[.nestHost 53] #[{ accessFlags := 2, nameIndex := 5, descriptorIndex := 6, attributes := #[] }] 32 2 #[26] #[{ accessFlags := 24, nameIndex := 24, descriptorIndex := 25, attributes := #[] }])
  fields := #[{ name := "EMPTY_ITERATOR", type := (.object "java/util/Collections$EmptyIterator"), accessFlags := 24, slot := 0, constantValue := 0 }]
  methods := #[k29m0]
  instanceTypes := #[]
  staticTypes := #[(.object "java/util/Collections$EmptyIterator")]
  resolved := Array.replicate 57 none
  statics := some 2 }

/-- the primitive byte -/
def k30 : Class := { plain "byte" none with kind := .primitive 'B', accessFlags := 0x411 }
/-- [B -/
def k31 : Class := { plain "[B" (some 0) with kind := .array 30 .byte, interfaces := #[17, 3], accessFlags := 1041 }

/-- the primitive int -/
def k32 : Class := { plain "int" none with kind := .primitive 'I', accessFlags := 0x411 }
/-- [I -/
def k33 : Class := { plain "[I" (some 0) with kind := .array 32 .int, interfaces := #[17, 3], accessFlags := 1041 }

/-- [Ljava/lang/Object; -/
def k34 : Class := { plain "[Ljava/lang/Object;" (some 0) with kind := .array 0 (.object "java/lang/Object"), interfaces := #[17, 3], accessFlags := 1041 }

def heap : Heap := #[{ cls := 18, slots := #[.long 0, .int 0, .ref 3, .ref 4], vm := .statics 18 },
  { cls := 22, slots := #[.double 0, .double 0, .double 0, .int 1], vm := .statics 22 },
  { cls := 29, slots := #[.ref 5], vm := .statics 29 },
  { cls := 34, slots := #[], vm := .none },
  { cls := 34, slots := #[], vm := .none },
  { cls := 29, slots := #[], vm := .none }]
def classes : Array Class := #[k0, k1, k2, k3, k4, k5, k6, k7, k8, k9, k10, k11, k12, k13, k14, k15, k16, k17, k18, k19, k20, k21, k22, k23, k24, k25, k26, k27, k28, k29, k30, k31, k32, k33, k34]
def interned : List (Array UInt16 × Addr) := []
def slotsUsed : Nat := 9
def theMethod : MethodId := ⟨1, 1⟩
def args0 : Array Value := #[.int 5]
def aboutOver (below : List Frame) : State where
  vm := { classes := classes, interned := interned.toArray }
  heap := heap
  slotsUsed := slotsUsed
  threads := #[{ frames := .invoking theMethod args0 :: below }]
def below0 : List Frame := [.native { method := ⟨0, 0⟩, args := #[] }]
def about1 : State := aboutOver below0
def p0 : Program := .bare "" "" ""
def e0 : Env := launch0.env 0 0 0
theorem w_frames : about1.frames = Frame.invoking theMethod args0 :: below0 := rfl
set_option maxRecDepth 65536 in
theorem w_args : argsFit about1.vm theMethod args0 = true := by decide +kernel
set_option maxRecDepth 65536 in
theorem w_heap : heapFits about1 = true := by decide +kernel
set_option maxRecDepth 65536 in
theorem w_runnable : about1.curStatus? = some .runnable := by decide +kernel
set_option maxRecDepth 65536 in
theorem w_alone : about1.alone = true := by decide +kernel
set_option maxRecDepth 65536 in
theorem w_named : about1.methodNamed? x = some theMethod := by decide +kernel
set_option maxRecDepth 65536 in
theorem w_hears : about1.hears theMethod below0 = true := by decide +kernel
set_option maxRecDepth 65536 in
theorem w_ripe : about1.ripe theMethod args0 below0 = true := by decide +kernel
theorem w_running : about1.status = .running := rfl
set_option maxRecDepth 65536 in
theorem w_room : about1.hasRoom e0.platform room_1 = true :=
  launch0.hasRoom_least _ room_1 (by decide +kernel) (by decide +kernel) (by decide +kernel) (by decide +kernel) (by decide +kernel) (by decide +kernel)
theorem allAtoms_all (ts : List Jvm.Cond) (a : Array Jvm.Value) (st : Jvm.State) : (allAtoms ts).before a st = ts.all (fun c => c.before a st) := by
  induction ts with
  | nil => rfl
  | cons c t ih =>
    show (Jvm.Cond.and c (allAtoms t)).before a st = _
    rw [Jvm.Cond.before_and, ih, List.all_cons]
def words1 : List Jvm.Cond := Jvm.Cond.code x code maxLocals ret :: tables_1
/-- a 'code' word, met by the world's own term for the bytes: nothing is compared byte by byte -/
theorem code_word {y : MethodName} {bytes : ByteArray} {mx : Nat} {rt : Option FieldType} {a : Array Value} {s : State} {m : MethodId} {meth : Method} {c : Code} (h1 : s.methodNamed? y = some m) (h2 : s.vm.method? m = some meth) (h3 : meth.code = some c) (h4 : c.code = bytes)
    (h5 : (c.maxLocals == mx && c.exceptionTable.isEmpty && decide (c.maxStack ≤ mostOperands) && decide (meth.sig.returnType = rt) && !meth.locks && decide (parseMethodDescriptor y.desc = some meth.sig)) = true) : (Jvm.Cond.code y bytes mx rt).before a s = true := by
  simp only [Bool.and_eq_true, beq_iff_eq, Bool.not_eq_true', decide_eq_true_eq] at h5
  obtain ⟨⟨⟨⟨⟨g1, g2⟩, g3⟩, g4⟩, g5⟩, g6⟩ := h5
  simp [Cond.before, Cond.holds, Cond.value, h1, h2, h3, h4, g1, g2, g3, g4, g5, g6]
def isCode : Jvm.Cond → Bool
  | .code _ _ _ _ => true
  | _ => false
theorem all_split {L : List Jvm.Cond} {P : Jvm.Cond → Bool} (h1 : L.all (fun c => isCode c || P c) = true) (h2 : ∀ c ∈ L.filter isCode, P c = true) : L.all P = true := by
  refine List.all_eq_true.mpr fun c hc => ?_
  have h := List.all_eq_true.mp h1 c hc
  rcases Bool.eq_false_or_eq_true (isCode c) with hi | hi
  · exact h2 c (List.mem_filter.mpr ⟨hc, hi⟩)
  · simpa [hi] using h
set_option maxRecDepth 65536 in
theorem w_c0 : (Jvm.Cond.code x code maxLocals ret).before args0 about1 = true := code_word (m := ⟨1, 1⟩) (meth := k1m1) (c := k1c1) (by decide +kernel) rfl rfl rfl (by decide +kernel)
set_option maxRecDepth 65536 in
theorem w_c1 : (Jvm.Cond.code ({ cls := "com/example/nudged_routes/nudgedroutes/network/Link", name := "<init>", desc := "(ILjava/lang/String;Lcom/example/nudged_routes/nudgedroutes/network/Node;Lcom/example/nudged_routes/nudgedroutes/network/Node;DDDI)V" } : Jvm.MethodName) prog_57_method_2_code (12 : Nat) (Option.none : Option Jvm.ClassFile.FieldType)).before args0 about1 = true := code_word (m := ⟨2, 0⟩) (meth := k2m0) (c := k2c0) (by decide +kernel) rfl rfl rfl (by decide +kernel)
set_option maxRecDepth 65536 in
theorem w_c2 : (Jvm.Cond.code ({ cls := "java/lang/Object", name := "<init>", desc := "()V" } : Jvm.MethodName) object_method_1_code (1 : Nat) (Option.none : Option Jvm.ClassFile.FieldType)).before args0 about1 = true := code_word (m := ⟨0, 0⟩) (meth := k0m0) (c := k0c0) (by decide +kernel) rfl rfl rfl (by decide +kernel)
set_option maxRecDepth 65536 in
theorem w_c3 : (Jvm.Cond.code ({ cls := "com/example/nudged_routes/nudgedroutes/simulation/LinkQueue", name := "<init>", desc := "(Lcom/example/nudged_routes/nudgedroutes/network/Link;)V" } : Jvm.MethodName) prog_86_method_1_code (2 : Nat) (Option.none : Option Jvm.ClassFile.FieldType)).before args0 about1 = true := code_word (m := ⟨9, 0⟩) (meth := k9m0) (c := k9c0) (by decide +kernel) rfl rfl rfl (by decide +kernel)
set_option maxRecDepth 65536 in
theorem w_c4 : (Jvm.Cond.code ({ cls := "java/util/ArrayList", name := "<init>", desc := "()V" } : Jvm.MethodName) jdk_38_method_2_code (1 : Nat) (Option.none : Option Jvm.ClassFile.FieldType)).before args0 about1 = true := code_word (m := ⟨18, 0⟩) (meth := k18m0) (c := k18c0) (by decide +kernel) rfl rfl rfl (by decide +kernel)
set_option maxRecDepth 65536 in
theorem w_c5 : (Jvm.Cond.code ({ cls := "java/util/AbstractList", name := "<init>", desc := "()V" } : Jvm.MethodName) jdk_39_method_1_code (1 : Nat) (Option.none : Option Jvm.ClassFile.FieldType)).before args0 about1 = true := code_word (m := ⟨15, 0⟩) (meth := k15m0) (c := k15c0) (by decide +kernel) rfl rfl rfl (by decide +kernel)
set_option maxRecDepth 65536 in
theorem w_c6 : (Jvm.Cond.code ({ cls := "java/util/AbstractCollection", name := "<init>", desc := "()V" } : Jvm.MethodName) jdk_22_method_1_code (1 : Nat) (Option.none : Option Jvm.ClassFile.FieldType)).before args0 about1 = true := code_word (m := ⟨12, 0⟩) (meth := k12m0) (c := k12c0) (by decide +kernel) rfl rfl rfl (by decide +kernel)
set_option maxRecDepth 65536 in
theorem w_c7 : (Jvm.Cond.code ({ cls := "com/example/nudged_routes/nudgedroutes/network/Link", name := "wholeFreeFlowS", desc := "()I" } : Jvm.MethodName) prog_57_method_10_code (1 : Nat) (Option.some Jvm.ClassFile.FieldType.int)).before args0 about1 = true := code_word (m := ⟨2, 3⟩) (meth := k2m3) (c := k2c3) (by decide +kernel) rfl rfl rfl (by decide +kernel)
set_option maxRecDepth 65536 in
theorem w_c8 : (Jvm.Cond.code ({ cls := "java/lang/Math", name := "round", desc := "(D)J" } : Jvm.MethodName) jdk_29_method_22_code (10 : Nat) (Option.some Jvm.ClassFile.FieldType.long)).before args0 about1 = true := code_word (m := ⟨19, 2⟩) (meth := k19m2) (c := k19c2) (by decide +kernel) rfl rfl rfl (by decide +kernel)
set_option maxRecDepth 65536 in
theorem w_c9 : (Jvm.Cond.code ({ cls := "java/lang/Math", name := "min", desc := "(JJ)J" } : Jvm.MethodName) jdk_29_method_70_code (4 : Nat) (Option.some Jvm.ClassFile.FieldType.long)).before args0 about1 = true := code_word (m := ⟨19, 5⟩) (meth := k19m5) (c := k19c5) (by decide +kernel) rfl rfl rfl (by decide +kernel)
set_option maxRecDepth 65536 in
theorem w_c10 : (Jvm.Cond.code ({ cls := "java/lang/Math", name := "max", desc := "(JJ)J" } : Jvm.MethodName) jdk_29_method_66_code (4 : Nat) (Option.some Jvm.ClassFile.FieldType.long)).before args0 about1 = true := code_word (m := ⟨19, 3⟩) (meth := k19m3) (c := k19c3) (by decide +kernel) rfl rfl rfl (by decide +kernel)
set_option maxRecDepth 65536 in
theorem w_c11 : (Jvm.Cond.code ({ cls := "com/example/nudged_routes/nudgedroutes/network/Link", name := "lengthM", desc := "()D" } : Jvm.MethodName) prog_57_method_8_code (1 : Nat) (Option.some Jvm.ClassFile.FieldType.double)).before args0 about1 = true := code_word (m := ⟨2, 2⟩) (meth := k2m2) (c := k2c2) (by decide +kernel) rfl rfl rfl (by decide +kernel)
set_option maxRecDepth 65536 in
theorem w_c12 : (Jvm.Cond.code ({ cls := "com/example/nudged_routes/nudgedroutes/network/Link", name := "lanes", desc := "()I" } : Jvm.MethodName) prog_57_method_12_code (1 : Nat) (Option.some Jvm.ClassFile.FieldType.int)).before args0 about1 = true := code_word (m := ⟨2, 4⟩) (meth := k2m4) (c := k2c4) (by decide +kernel) rfl rfl rfl (by decide +kernel)
set_option maxRecDepth 65536 in
theorem w_c13 : (Jvm.Cond.code ({ cls := "java/lang/Math", name := "floor", desc := "(D)D" } : Jvm.MethodName) jdk_29_method_17_code (2 : Nat) (Option.some Jvm.ClassFile.FieldType.double)).before args0 about1 = true := code_word (m := ⟨19, 1⟩) (meth := k19m1) (c := k19c1) (by decide +kernel) rfl rfl rfl (by decide +kernel)
set_option maxRecDepth 65536 in
theorem w_c14 : (Jvm.Cond.code ({ cls := "java/lang/StrictMath", name := "floor", desc := "(D)D" } : Jvm.MethodName) jdk_128_method_17_code (2 : Nat) (Option.some Jvm.ClassFile.FieldType.double)).before args0 about1 = true := code_word (m := ⟨22, 1⟩) (meth := k22m1) (c := k22c1) (by decide +kernel) rfl rfl rfl (by decide +kernel)
set_option maxRecDepth 65536 in
theorem w_c15 : (Jvm.Cond.code ({ cls := "java/lang/StrictMath", name := "floorOrCeil", desc := "(DDDD)D" } : Jvm.MethodName) jdk_128_method_18_code (15 : Nat) (Option.some Jvm.ClassFile.FieldType.double)).before args0 about1 = true := code_word (m := ⟨22, 2⟩) (meth := k22m2) (c := k22c2) (by decide +kernel) rfl rfl rfl (by decide +kernel)
set_option maxRecDepth 65536 in
theorem w_c16 : (Jvm.Cond.code ({ cls := "java/lang/Math", name := "getExponent", desc := "(D)I" } : Jvm.MethodName) jdk_29_method_92_code (2 : Nat) (Option.some Jvm.ClassFile.FieldType.int)).before args0 about1 = true := code_word (m := ⟨19, 7⟩) (meth := k19m7) (c := k19c7) (by decide +kernel) rfl rfl rfl (by decide +kernel)
set_option maxRecDepth 65536 in
theorem w_c17 : (Jvm.Cond.code ({ cls := "java/lang/Math", name := "min", desc := "(DD)D" } : Jvm.MethodName) jdk_29_method_72_code (4 : Nat) (Option.some Jvm.ClassFile.FieldType.double)).before args0 about1 = true := code_word (m := ⟨19, 6⟩) (meth := k19m6) (c := k19c6) (by decide +kernel) rfl rfl rfl (by decide +kernel)
set_option maxRecDepth 65536 in
theorem w_c18 : (Jvm.Cond.code ({ cls := "java/lang/Math", name := "max", desc := "(DD)D" } : Jvm.MethodName) jdk_29_method_68_code (4 : Nat) (Option.some Jvm.ClassFile.FieldType.double)).before args0 about1 = true := code_word (m := ⟨19, 4⟩) (meth := k19m4) (c := k19c4) (by decide +kernel) rfl rfl rfl (by decide +kernel)
set_option maxRecDepth 65536 in
theorem w_c19 : (Jvm.Cond.code ({ cls := "com/example/nudged_routes/nudgedroutes/network/Link", name := "capacityVph", desc := "()D" } : Jvm.MethodName) prog_57_method_7_code (1 : Nat) (Option.some Jvm.ClassFile.FieldType.double)).before args0 about1 = true := code_word (m := ⟨2, 1⟩) (meth := k2m1) (c := k2c1) (by decide +kernel) rfl rfl rfl (by decide +kernel)
set_option maxRecDepth 65536 in
theorem w_c20 : (Jvm.Cond.code ({ cls := "com/example/nudged_routes/nudgedroutes/simulation/LinkQueue", name := "thousandthsPerSecond", desc := "(D)J" } : Jvm.MethodName) prog_86_method_4_code (2 : Nat) (Option.some Jvm.ClassFile.FieldType.long)).before args0 about1 = true := code_word (m := ⟨9, 1⟩) (meth := k9m1) (c := k9c1) (by decide +kernel) rfl rfl rfl (by decide +kernel)
set_option maxRecDepth 65536 in
theorem w_c21 : (Jvm.Cond.code ({ cls := "java/util/ArrayDeque", name := "<init>", desc := "()V" } : Jvm.MethodName) jdk_21_method_3_code (1 : Nat) (Option.none : Option Jvm.ClassFile.FieldType)).before args0 about1 = true := code_word (m := ⟨25, 0⟩) (meth := k25m0) (c := k25c0) (by decide +kernel) rfl rfl rfl (by decide +kernel)
set_option maxRecDepth 65536 in
theorem w_c22 : (Jvm.Cond.code ({ cls := "com/example/nudged_routes/nudgedroutes/simulation/LinkQueue$OriginLine", name := "<init>", desc := "()V" } : Jvm.MethodName) prog_88_method_1_code (1 : Nat) (Option.none : Option Jvm.ClassFile.FieldType)).before args0 about1 = true := code_word (m := ⟨26, 0⟩) (meth := k26m0) (c := k26c0) (by decide +kernel) rfl rfl rfl (by decide +kernel)
set_option maxRecDepth 65536 in
theorem w_c23 : (Jvm.Cond.code ({ cls := "java/util/Collections", name := "emptyIterator", desc := "()Ljava/util/Iterator;" } : Jvm.MethodName) jdk_79_method_61_code (0 : Nat) (Option.some (Jvm.ClassFile.FieldType.object "java/util/Iterator"))).before args0 about1 = true := code_word (m := ⟨27, 1⟩) (meth := k27m1) (c := k27c1) (by decide +kernel) rfl rfl rfl (by decide +kernel)
set_option maxRecDepth 65536 in
theorem w_c24 : (Jvm.Cond.code ({ cls := "com/example/nudged_routes/nudgedroutes/simulation/LinkQueueSchedulePinLaw", name := "step", desc := "(Lcom/example/nudged_routes/nudgedroutes/simulation/LinkQueue;II)I" } : Jvm.MethodName) method_3_code (5 : Nat) (Option.some Jvm.ClassFile.FieldType.int)).before args0 about1 = true := code_word (m := ⟨1, 2⟩) (meth := k1m2) (c := k1c2) (by decide +kernel) rfl rfl rfl (by decide +kernel)
set_option maxRecDepth 65536 in
theorem w_c25 : (Jvm.Cond.code ({ cls := "com/example/nudged_routes/nudgedroutes/simulation/LinkQueue", name := "unschedule", desc := "()V" } : Jvm.MethodName) prog_86_method_25_code (1 : Nat) (Option.none : Option Jvm.ClassFile.FieldType)).before args0 about1 = true := code_word (m := ⟨9, 3⟩) (meth := k9m3) (c := k9c3) (by decide +kernel) rfl rfl rfl (by decide +kernel)
set_option maxRecDepth 65536 in
theorem w_c26 : (Jvm.Cond.code ({ cls := "com/example/nudged_routes/nudgedroutes/simulation/LinkQueue", name := "schedule", desc := "()Z" } : Jvm.MethodName) prog_86_method_24_code (2 : Nat) (Option.some Jvm.ClassFile.FieldType.boolean)).before args0 about1 = true := code_word (m := ⟨9, 2⟩) (meth := k9m2) (c := k9c2) (by decide +kernel) rfl rfl rfl (by decide +kernel)
def codes1 : List Jvm.Cond := [Jvm.Cond.code x code maxLocals ret, Jvm.Cond.code ({ cls := "com/example/nudged_routes/nudgedroutes/network/Link", name := "<init>", desc := "(ILjava/lang/String;Lcom/example/nudged_routes/nudgedroutes/network/Node;Lcom/example/nudged_routes/nudgedroutes/network/Node;DDDI)V" } : Jvm.MethodName) prog_57_method_2_code (12 : Nat) (Option.none : Option Jvm.ClassFile.FieldType), Jvm.Cond.code ({ cls := "java/lang/Object", name := "<init>", desc := "()V" } : Jvm.MethodName) object_method_1_code (1 : Nat) (Option.none : Option Jvm.ClassFile.FieldType), Jvm.Cond.code ({ cls := "com/example/nudged_routes/nudgedroutes/simulation/LinkQueue", name := "<init>", desc := "(Lcom/example/nudged_routes/nudgedroutes/network/Link;)V" } : Jvm.MethodName) prog_86_method_1_code (2 : Nat) (Option.none : Option Jvm.ClassFile.FieldType), Jvm.Cond.code ({ cls := "java/util/ArrayList", name := "<init>", desc := "()V" } : Jvm.MethodName) jdk_38_method_2_code (1 : Nat) (Option.none : Option Jvm.ClassFile.FieldType), Jvm.Cond.code ({ cls := "java/util/AbstractList", name := "<init>", desc := "()V" } : Jvm.MethodName) jdk_39_method_1_code (1 : Nat) (Option.none : Option Jvm.ClassFile.FieldType), Jvm.Cond.code ({ cls := "java/util/AbstractCollection", name := "<init>", desc := "()V" } : Jvm.MethodName) jdk_22_method_1_code (1 : Nat) (Option.none : Option Jvm.ClassFile.FieldType), Jvm.Cond.code ({ cls := "com/example/nudged_routes/nudgedroutes/network/Link", name := "wholeFreeFlowS", desc := "()I" } : Jvm.MethodName) prog_57_method_10_code (1 : Nat) (Option.some Jvm.ClassFile.FieldType.int), Jvm.Cond.code ({ cls := "java/lang/Math", name := "round", desc := "(D)J" } : Jvm.MethodName) jdk_29_method_22_code (10 : Nat) (Option.some Jvm.ClassFile.FieldType.long), Jvm.Cond.code ({ cls := "java/lang/Math", name := "min", desc := "(JJ)J" } : Jvm.MethodName) jdk_29_method_70_code (4 : Nat) (Option.some Jvm.ClassFile.FieldType.long), Jvm.Cond.code ({ cls := "java/lang/Math", name := "max", desc := "(JJ)J" } : Jvm.MethodName) jdk_29_method_66_code (4 : Nat) (Option.some Jvm.ClassFile.FieldType.long), Jvm.Cond.code ({ cls := "com/example/nudged_routes/nudgedroutes/network/Link", name := "lengthM", desc := "()D" } : Jvm.MethodName) prog_57_method_8_code (1 : Nat) (Option.some Jvm.ClassFile.FieldType.double), Jvm.Cond.code ({ cls := "com/example/nudged_routes/nudgedroutes/network/Link", name := "lanes", desc := "()I" } : Jvm.MethodName) prog_57_method_12_code (1 : Nat) (Option.some Jvm.ClassFile.FieldType.int), Jvm.Cond.code ({ cls := "java/lang/Math", name := "floor", desc := "(D)D" } : Jvm.MethodName) jdk_29_method_17_code (2 : Nat) (Option.some Jvm.ClassFile.FieldType.double), Jvm.Cond.code ({ cls := "java/lang/StrictMath", name := "floor", desc := "(D)D" } : Jvm.MethodName) jdk_128_method_17_code (2 : Nat) (Option.some Jvm.ClassFile.FieldType.double), Jvm.Cond.code ({ cls := "java/lang/StrictMath", name := "floorOrCeil", desc := "(DDDD)D" } : Jvm.MethodName) jdk_128_method_18_code (15 : Nat) (Option.some Jvm.ClassFile.FieldType.double), Jvm.Cond.code ({ cls := "java/lang/Math", name := "getExponent", desc := "(D)I" } : Jvm.MethodName) jdk_29_method_92_code (2 : Nat) (Option.some Jvm.ClassFile.FieldType.int), Jvm.Cond.code ({ cls := "java/lang/Math", name := "min", desc := "(DD)D" } : Jvm.MethodName) jdk_29_method_72_code (4 : Nat) (Option.some Jvm.ClassFile.FieldType.double), Jvm.Cond.code ({ cls := "java/lang/Math", name := "max", desc := "(DD)D" } : Jvm.MethodName) jdk_29_method_68_code (4 : Nat) (Option.some Jvm.ClassFile.FieldType.double), Jvm.Cond.code ({ cls := "com/example/nudged_routes/nudgedroutes/network/Link", name := "capacityVph", desc := "()D" } : Jvm.MethodName) prog_57_method_7_code (1 : Nat) (Option.some Jvm.ClassFile.FieldType.double), Jvm.Cond.code ({ cls := "com/example/nudged_routes/nudgedroutes/simulation/LinkQueue", name := "thousandthsPerSecond", desc := "(D)J" } : Jvm.MethodName) prog_86_method_4_code (2 : Nat) (Option.some Jvm.ClassFile.FieldType.long), Jvm.Cond.code ({ cls := "java/util/ArrayDeque", name := "<init>", desc := "()V" } : Jvm.MethodName) jdk_21_method_3_code (1 : Nat) (Option.none : Option Jvm.ClassFile.FieldType), Jvm.Cond.code ({ cls := "com/example/nudged_routes/nudgedroutes/simulation/LinkQueue$OriginLine", name := "<init>", desc := "()V" } : Jvm.MethodName) prog_88_method_1_code (1 : Nat) (Option.none : Option Jvm.ClassFile.FieldType), Jvm.Cond.code ({ cls := "java/util/Collections", name := "emptyIterator", desc := "()Ljava/util/Iterator;" } : Jvm.MethodName) jdk_79_method_61_code (0 : Nat) (Option.some (Jvm.ClassFile.FieldType.object "java/util/Iterator")), Jvm.Cond.code ({ cls := "com/example/nudged_routes/nudgedroutes/simulation/LinkQueueSchedulePinLaw", name := "step", desc := "(Lcom/example/nudged_routes/nudgedroutes/simulation/LinkQueue;II)I" } : Jvm.MethodName) method_3_code (5 : Nat) (Option.some Jvm.ClassFile.FieldType.int), Jvm.Cond.code ({ cls := "com/example/nudged_routes/nudgedroutes/simulation/LinkQueue", name := "unschedule", desc := "()V" } : Jvm.MethodName) prog_86_method_25_code (1 : Nat) (Option.none : Option Jvm.ClassFile.FieldType), Jvm.Cond.code ({ cls := "com/example/nudged_routes/nudgedroutes/simulation/LinkQueue", name := "schedule", desc := "()Z" } : Jvm.MethodName) prog_86_method_24_code (2 : Nat) (Option.some Jvm.ClassFile.FieldType.boolean)]
set_option maxRecDepth 65536 in
theorem codes_eq : words1.filter isCode = codes1 := rfl
theorem w_codes : ∀ c ∈ words1.filter isCode, c.before args0 about1 = true := by
  rw [codes_eq]
  intro c hc
  simp only [codes1, List.mem_cons, List.not_mem_nil, or_false] at hc
  rcases hc with rfl | rfl | rfl | rfl | rfl | rfl | rfl | rfl | rfl | rfl | rfl | rfl | rfl | rfl | rfl | rfl | rfl | rfl | rfl | rfl | rfl | rfl | rfl | rfl | rfl | rfl | rfl
  · exact w_c0
  · exact w_c1
  · exact w_c2
  · exact w_c3
  · exact w_c4
  · exact w_c5
  · exact w_c6
  · exact w_c7
  · exact w_c8
  · exact w_c9
  · exact w_c10
  · exact w_c11
  · exact w_c12
  · exact w_c13
  · exact w_c14
  · exact w_c15
  · exact w_c16
  · exact w_c17
  · exact w_c18
  · exact w_c19
  · exact w_c20
  · exact w_c21
  · exact w_c22
  · exact w_c23
  · exact w_c24
  · exact w_c25
  · exact w_c26
set_option maxRecDepth 65536 in
theorem w_t1 : (words1.take 24).all (fun c => isCode c || c.before args0 about1) = true := by decide +kernel
set_option maxRecDepth 65536 in
theorem w_t2 : ((words1.drop 24).take 24).all (fun c => isCode c || c.before args0 about1) = true := by decide +kernel
set_option maxRecDepth 65536 in
theorem w_t3 : (((words1.drop 24).drop 24).take 24).all (fun c => isCode c || c.before args0 about1) = true := by decide +kernel
set_option maxRecDepth 65536 in
theorem w_t4 : ((((words1.drop 24).drop 24).drop 24).take 24).all (fun c => isCode c || c.before args0 about1) = true := by decide +kernel
set_option maxRecDepth 65536 in
theorem w_t5 : (((((words1.drop 24).drop 24).drop 24).drop 24).take 24).all (fun c => isCode c || c.before args0 about1) = true := by decide +kernel
set_option maxRecDepth 65536 in
theorem w_t6 : ((((((words1.drop 24).drop 24).drop 24).drop 24).drop 24).take 24).all (fun c => isCode c || c.before args0 about1) = true := by decide +kernel
set_option maxRecDepth 65536 in
theorem w_t7 : (((((((words1.drop 24).drop 24).drop 24).drop 24).drop 24).drop 24).take 24).all (fun c => isCode c || c.before args0 about1) = true := by decide +kernel
set_option maxRecDepth 65536 in
theorem w_t8 : ((((((((words1.drop 24).drop 24).drop 24).drop 24).drop 24).drop 24).drop 24).take 24).all (fun c => isCode c || c.before args0 about1) = true := by decide +kernel
set_option maxRecDepth 65536 in
theorem w_t9 : ((((((((words1.drop 24).drop 24).drop 24).drop 24).drop 24).drop 24).drop 24).drop 24).all (fun c => isCode c || c.before args0 about1) = true := by decide +kernel
theorem w_tables : (allAtoms (Jvm.Cond.code x code maxLocals ret :: tables_1)).before args0 about1 = true := by
  rw [allAtoms_all]
  show words1.all (fun c => c.before args0 about1) = true
  refine all_split ?_ w_codes
  rw [← List.take_append_drop 24 words1, List.all_append, w_t1, ← List.take_append_drop 24 (words1.drop 24), List.all_append, w_t2, ← List.take_append_drop 24 ((words1.drop 24).drop 24), List.all_append, w_t3, ← List.take_append_drop 24 (((words1.drop 24).drop 24).drop 24), List.all_append, w_t4, ← List.take_append_drop 24 ((((words1.drop 24).drop 24).drop 24).drop 24), List.all_append, w_t5, ← List.take_append_drop 24 (((((words1.drop 24).drop 24).drop 24).drop 24).drop 24), List.all_append, w_t6, ← List.take_append_drop 24 ((((((words1.drop 24).drop 24).drop 24).drop 24).drop 24).drop 24), List.all_append, w_t7, ← List.take_append_drop 24 (((((((words1.drop 24).drop 24).drop 24).drop 24).drop 24).drop 24).drop 24), List.all_append, w_t8, w_t9]
  rfl
set_option maxRecDepth 65536 in
theorem w_rest : rest_1_c.before args0 about1 = true := by decide +kernel
set_option maxRecDepth 65536 in
theorem w_case : (Jvm.Cond.and given_1 narrow_1).before args0 about1 = true := by decide +kernel
theorem w_applies : (headSpec (Jvm.Cond.code x code maxLocals ret :: tables_1) room_1).applies x e0.platform about1 = true :=
  (Spec.applies_iff w_frames).mpr ⟨w_running, w_runnable, w_alone, w_named, w_hears, w_ripe, w_room, w_tables⟩
theorem atStart : AtStart classFile x code maxLocals ret World_1 tables_1 room_1 Calls_1 rest_1 Pre_1 launch0 p0 e0 about1 theMethod args0 below0 :=
  ⟨lists_1, trivial, launch0.admits_env _ _ _, launch0.least_env, fairChoices_fair.cas, fairChoices_fair.clock, w_frames, w_args, w_heap, w_applies, trivial, w_rest, w_case⟩
end start1
theorem witness_1 : WitnessClaimed_1 := ⟨start1.p0, start1.e0, start1.about1, start1.theMethod, start1.args0, start1.below0, start1.atStart⟩
end Jvm.Pilot.@@N@@
