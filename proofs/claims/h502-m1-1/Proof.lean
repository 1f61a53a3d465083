import JvmDerived
import JvmDerived.Pilot.@@N@@Statement
import JvmDerived.Pilot.@@N@@Code
set_option linter.unusedVariables false
set_option linter.unusedSimpArgs false
namespace Jvm.Pilot.@@N@@
open Jvm Jvm.ClassFile Sem Op Lib Jvm.Free Jvm.Stand Jvm.LawKit Jvm.RoadKit Bundle Jvm.Pilot.@@N@@.Jvm.D
def own_Run (p : Program) (e : Env) (below : List Frame) (s : State) (Q : Option Value → Heap → List Loc → Prop) (ck sk : Nat) (U : State) : Prop :=
  ∃ s₂ o, Steps p.tables e below U s₂ ∧ s₂.status = .running ∧ Ended s₂ below o ∧ ∃ v L, o = .returned v ∧ Q v s₂.heap L ∧ FrameEnd s o s₂ L ck sk
section OwnLayer
variable {p : Program} {l : Launch} {e : Env} {R : Room} {s : State} {m : MethodId} {args : Array Value} {below : List Frame} {meth : Method} {c : Code} {T : State} {locs : List Loc} {cells slots : Nat} {Z : State} {a0 : Array Value} {h : Heap} {Q : Option Value → Heap → List Loc → Prop} {ck sk : Nat}
theorem own_st {U U' : State} (hh : ∀ t, Steps p.tables e below U' t → Steps p.tables e below U t) (K : own_Run p e below s Q ck sk U') : own_Run p e below s Q ck sk U := by
  obtain ⟨s2, o, h1, r⟩ := K
  exact ⟨s2, o, hh _ h1, r⟩
theorem own_topI {pc : Nat} {Ls : Array Slot} {st : List Value} {v v' : Int32} (hv : v = v') (K : own_Run p e below s Q ck sk (T.setTop (mkF m pc Ls (.int v' :: st)))) : own_Run p e below s Q ck sk (T.setTop (mkF m pc Ls (.int v :: st))) := hv ▸ K
theorem own_topJ {pc : Nat} {Ls : Array Slot} {st : List Value} {v v' : Int64} (hv : v = v') (K : own_Run p e below s Q ck sk (T.setTop (mkF m pc Ls (.long v' :: st)))) : own_Run p e below s Q ck sk (T.setTop (mkF m pc Ls (.long v :: st))) := hv ▸ K
theorem own_topD {pc : Nat} {Ls : Array Slot} {st : List Value} {v v' : UInt64} (hv : v = v') (K : own_Run p e below s Q ck sk (T.setTop (mkF m pc Ls (.double v' :: st)))) : own_Run p e below s Q ck sk (T.setTop (mkF m pc Ls (.double v :: st))) := hv ▸ K
theorem own_ret (X : Stand p l e R s m args below meth c T locs cells slots) (hx : p.tables.exec = Jvm.exec) (hlk : meth.locks = false) {pc : Nat} {Ls : Array Slot} {w : Value} {t : FieldType} {i : Instr} {rest : List Value} (hret : meth.sig.returnType = some t) (hn : narrow t w = w)
    (hi : (i = .ireturn ∧ (t = .int ∨ t = .boolean ∨ t = .byte ∨ t = .char ∨ t = .short) ∧ ∃ z, w = .int z) ∨ (i = .lreturn ∧ t = .long ∧ ∃ z, w = .long z) ∨ (i = .dreturn ∧ t = .double ∧ ∃ z, w = .double z) ∨ (i = .freturn ∧ t = .float ∧ ∃ z, w = .float z) ∨ (i = .areturn ∧ t.isReference = true ∧ w.isRef = true))
    (hd : decode c.code pc = .ok (i, 1)) (hc : cells ≤ ck) (hs : slots ≤ sk) (hq : Q (some w) T.heap locs) : own_Run p e below s Q ck sk (T.setTop (mkF m pc Ls (w :: rest))) := by
  obtain ⟨fs, hr, hrun, hended, hW, hsame⟩ := X.leave (v := some w) (fun q => by rw [hret] at q; cases q) hlk
  exact ⟨_, _, retOut X hx hret hn hi hd hr, hrun, hended, _, _, rfl, hq, ⟨_, rfl⟩, hW, hsame.mono hc hs⟩
theorem own_retV (X : Stand p l e R s m args below meth c T locs cells slots) (hx : p.tables.exec = Jvm.exec) (hlk : meth.locks = false) {pc : Nat} {Ls : Array Slot} (hret : meth.sig.returnType = none)
    (hd : decode c.code pc = .ok (.return_, 1)) (hc : cells ≤ ck) (hs : slots ≤ sk) (hq : Q none T.heap locs) : own_Run p e below s Q ck sk (T.setTop (mkF m pc Ls [])) := by
  obtain ⟨fs, hr, hrun, hended, hW, hsame⟩ := X.leave (v := none) (fun _ => rfl) hlk
  exact ⟨_, _, X.returnOut hx hret hd hr, hrun, hended, _, _, rfl, hq, ⟨_, rfl⟩, hW, hsame.mono hc hs⟩
theorem own_body {y : MethodName} {bytes : ByteArray} {maxL : Nat} {ret : Option FieldType} {ws : List Jvm.Cond} {rm : Room} {as' : Array Value} {h0 : Heap} (hpl : plainFor y = true)
    (hbody : ∀ (p : Program) (e : Env) (s : State) (m : MethodId) (below : List Frame) (meth : Method) (c : Code) (s₁ : State), p.tables.exec = Jvm.exec → c.code = bytes → c.maxLocals = maxL → Z.Warmed39 s.vm → s.vm.findClass y.cls = some m.cls → meth.name = y.name → meth.sig.returnType = ret → meth.locks = false → Stand p l e rm s m as' below meth c s₁ [] 0 0 → s₁.heap = h0 → own_Run p e below s Q rm.cells rm.slots (s₁.setTop (entryFrame m as' maxL))) :
    MetFree l y (head1 (Jvm.Cond.code y bytes maxL ret :: ws) rm) (fun a U => a = as' ∧ Z.Warmed39 U.vm ∧ U.heap = h0) (fun _ _ _ _ _ => True) (fun _ U o U' => ∃ v L, o = .returned v ∧ Q v U'.heap L ∧ FrameEnd U o U' L rm.cells rm.slots) := by
  refine MetFree.of_bodySF hpl hisR ?_
  intro p e s m args below meth c s₁ Bd hml0 hP hK
  obtain ⟨rfl, hZ, hh⟩ := hP
  exact hbody p e s m below meth c s₁ Bd.exec Bd.bytes hml0 hZ (findClass_of_methodNamed Bd.named) (name_of_methodNamed Bd.named Bd.method).1 Bd.returns Bd.notSynchronized (Stand.of_body Bd) (by rw [← hh, Bd.state]; rfl)
theorem own_callI (X : Stand p l e R s m args below meth c T locs cells slots) (hx : p.tables.exec = Jvm.exec) (hZ : Z.Warmed39 s.vm) {own : String} {idx : Nat} {y : MethodName} (hy1 : y.name = "<init>") (hown : s.vm.findClass own = some m.cls) (w1 : (Jvm.Cond.methodLink own idx y).before a0 Z = true) (w2 : (Jvm.Cond.instanceMethod y).before a0 Z = true)
    {bytes : ByteArray} {maxL : Nat} (w3 : (Jvm.Cond.code y bytes maxL none).before a0 Z = true) (wz : (Jvm.Cond.initialized y.cls).before a0 Z = true) (hy : y.cls ≠ "java/lang/invoke/MethodHandle" ∧ y.cls ≠ "java/lang/invoke/VarHandle") (eT : T.heap = h) {rm : Room} {Qc : Option Value → Heap → List Loc → Prop} {a : Addr} {argsL rest : List Value}
    (hM : MetFree l y (head1 [Jvm.Cond.code y bytes maxL none] rm) (fun b U => b = (Value.ref a :: argsL).toArray ∧ Z.Warmed39 U.vm ∧ U.heap = h) (fun _ _ _ _ _ => True) (fun _ U o U' => ∃ v L, o = .returned v ∧ Qc v U'.heap L ∧ FrameEnd U o U' L rm.cells rm.slots))
    {W : Nat} (hf : rm.frames + 1 ≤ R.frames) (hl : W + (maxL + 11) + rm.locals ≤ R.locals) {pc : Nat} {Ls : Array Slot} {st : List Value} (hsize : Ls.size = c.maxLocals) (hlen : ∀ sig, parseMethodDescriptor y.desc = some sig → argsL.length = sig.parameters.length) (hst : st = argsL.reverse ++ .ref a :: rest) (hW : (rest.map fun v => v.category).sum ≤ W) (hd : decode c.code pc = .ok (.invokespecial idx, 3)) (hc : cells + rm.cells ≤ R.cells) (hs : slots + rm.slots ≤ R.slots)
    (K : ∀ (T' : State) (v : Option Value) (L : List Loc), Stand p l e R s m args below meth c T' (locs ++ L) (cells + rm.cells) (slots + rm.slots) → Qc v T'.heap L → own_Run p e below s Q ck sk (T'.setTop (mkF m (pc + 3) Ls (v.toList ++ rest)))) :
    own_Run p e below s Q ck sk (T.setTop (mkF m pc Ls st)) := by
  obtain ⟨v, _, ⟨T', L', k', n'⟩, -, X', ⟨Lc, hQ, hl', hk', hn'⟩, st'⟩ := X.specialBack hx (y := y) hy1 hown (mvT hZ w1) (mvT hZ w2) (mvT hZ w3) hy (backOf (W := W) hM hZ w3 wz hf hl) (g := mkF m pc Ls st) rfl hsize (Steps.refl _) (a := a) (argsL := argsL) (rest := rest) hlen hst (by show 2 * 0 + _ ≤ _; omega) hd (fun _ _ => ⟨rfl, eT, hc, hs⟩)
  dsimp only [Pt.U, Pt.locs, Pt.cells, Pt.slots] at X' hl' hk' hn' st' hQ
  subst hl' hk' hn'
  exact own_st (fun t k => st'.trans k) (K T' v Lc X' hQ)
theorem own_callV (X : Stand p l e R s m args below meth c T locs cells slots) (hx : p.tables.exec = Jvm.exec) (hZ : Z.Warmed39 s.vm) {own C : String} {idx : Nat} {y : MethodName} (hown : s.vm.findClass own = some m.cls) (w1 : (Jvm.Cond.methodLink own idx y).before a0 Z = true) (w2 : (Jvm.Cond.declares y).before a0 Z = true) (w3 : (Jvm.Cond.selects C y y).before a0 Z = true) (w4 : (Jvm.Cond.instanceMethod y).before a0 Z = true)
    {bytes : ByteArray} {maxL : Nat} {ret : Option FieldType} (w5 : (Jvm.Cond.code y bytes maxL ret).before a0 Z = true) (wz : (Jvm.Cond.initialized y.cls).before a0 Z = true) (hy : y.cls ≠ "java/lang/invoke/MethodHandle" ∧ y.cls ≠ "java/lang/invoke/VarHandle") (eT : T.heap = h) {a : Addr} (E : Exa Z h a C) {rm : Room} {Qc : Option Value → Heap → List Loc → Prop} {argsL rest : List Value}
    (hM : MetFree l y (head1 [Jvm.Cond.code y bytes maxL ret] rm) (fun b U => b = (Value.ref a :: argsL).toArray ∧ Z.Warmed39 U.vm ∧ U.heap = h) (fun _ _ _ _ _ => True) (fun _ U o U' => ∃ v L, o = .returned v ∧ Qc v U'.heap L ∧ FrameEnd U o U' L rm.cells rm.slots))
    {W : Nat} (hf : rm.frames + 1 ≤ R.frames) (hl : W + (maxL + 11) + rm.locals ≤ R.locals) {pc : Nat} {Ls : Array Slot} {st : List Value} (hsize : Ls.size = c.maxLocals) (hlen : ∀ sig, parseMethodDescriptor y.desc = some sig → argsL.length = sig.parameters.length) (hst : st = argsL.reverse ++ .ref a :: rest) (hW : (rest.map fun v => v.category).sum ≤ W) (hd : decode c.code pc = .ok (.invokevirtual idx, 3)) (hc : cells + rm.cells ≤ R.cells) (hs : slots + rm.slots ≤ R.slots)
    (K : ∀ (T' : State) (v : Option Value) (L : List Loc), Stand p l e R s m args below meth c T' (locs ++ L) (cells + rm.cells) (slots + rm.slots) → Qc v T'.heap L → own_Run p e below s Q ck sk (T'.setTop (mkF m (pc + 3) Ls (v.toList ++ rest)))) :
    own_Run p e below s Q ck sk (T.setTop (mkF m pc Ls st)) := by
  obtain ⟨cq, kq, qa, qb, qc⟩ := isOf hZ eT E
  obtain ⟨v, _, ⟨T', L', k', n'⟩, -, X', ⟨Lc, hQ, hl', hk', hn'⟩, st'⟩ := X.virtualBack hx (y := y) (z := y) hown (mvT hZ w1) (mvT hZ w2) (notFace_of_selects (args := #[]) (mvT hZ w3)) (mvT hZ w3) (mvT hZ w4) hy (backOf (W := W) hM hZ w5 wz hf hl) qa qc (g := mkF m pc Ls st) rfl hsize (Steps.refl _) (argsL := argsL) (rest := rest) hlen hst (by show 2 * 0 + _ ≤ _; omega) hd (fun _ _ => ⟨rfl, eT, hc, hs⟩)
  dsimp only [Pt.U, Pt.locs, Pt.cells, Pt.slots] at X' hl' hk' hn' st' hQ
  subst hl' hk' hn'
  exact own_st (fun t k => st'.trans k) (K T' v Lc X' hQ)
theorem own_callS (X : Stand p l e R s m args below meth c T locs cells slots) (hx : p.tables.exec = Jvm.exec) (hZ : Z.Warmed39 s.vm) {own : String} {idx : Nat} {y : MethodName} (hown : s.vm.findClass own = some m.cls) (w1 : (Jvm.Cond.methodLink own idx y).before a0 Z = true) (w2 : (Jvm.Cond.static y).before a0 Z = true)
    {bytes : ByteArray} {maxL : Nat} {ret : Option FieldType} (w5 : (Jvm.Cond.code y bytes maxL ret).before a0 Z = true) (wz : (Jvm.Cond.initialized y.cls).before a0 Z = true) (hy : y.cls ≠ "java/lang/invoke/MethodHandle" ∧ y.cls ≠ "java/lang/invoke/VarHandle") (eT : T.heap = h) {rm : Room} {Qc : Option Value → Heap → List Loc → Prop} {argsL rest : List Value}
    (hM : MetFree l y (head1 [Jvm.Cond.code y bytes maxL ret] rm) (fun b U => b = argsL.toArray ∧ Z.Warmed39 U.vm ∧ U.heap = h) (fun _ _ _ _ _ => True) (fun _ U o U' => ∃ v L, o = .returned v ∧ Qc v U'.heap L ∧ FrameEnd U o U' L rm.cells rm.slots))
    {W : Nat} (hf : rm.frames + 1 ≤ R.frames) (hl : W + (maxL + 11) + rm.locals ≤ R.locals) {pc : Nat} {Ls : Array Slot} {st : List Value} (hsize : Ls.size = c.maxLocals) (hlen : ∀ sig, parseMethodDescriptor y.desc = some sig → argsL.length = sig.parameters.length) (hst : st = argsL.reverse ++ rest) (hW : (rest.map fun v => v.category).sum ≤ W) (hd : decode c.code pc = .ok (.invokestatic idx, 3)) (hc : cells + rm.cells ≤ R.cells) (hs : slots + rm.slots ≤ R.slots)
    (K : ∀ (T' : State) (v : Option Value) (L : List Loc), Stand p l e R s m args below meth c T' (locs ++ L) (cells + rm.cells) (slots + rm.slots) → Qc v T'.heap L → own_Run p e below s Q ck sk (T'.setTop (mkF m (pc + 3) Ls (v.toList ++ rest)))) :
    own_Run p e below s Q ck sk (T.setTop (mkF m pc Ls st)) := by
  obtain ⟨v, _, ⟨T', L', k', n'⟩, -, X', ⟨Lc, hQ, hl', hk', hn'⟩, st'⟩ := Jvm.LawKit.callS X hx (y := y) hown (mvT hZ w1) (mvT hZ w2) (mvT hZ wz) (mvT hZ w5) hy (backOf (W := W) hM hZ w5 wz hf hl) (g := mkF m pc Ls st) rfl hsize (argsL := argsL) (rest := rest) hlen hst (by show 2 * 0 + _ ≤ _; omega) hd (fun _ _ => ⟨rfl, eT, hc, hs⟩)
  dsimp only [Pt.U, Pt.locs, Pt.cells, Pt.slots] at X' hl' hk' hn' st' hQ
  subst hl' hk' hn'
  exact own_st st' (K T' v Lc X' hQ)
end OwnLayer
section OwnNums
open Jvm.FP Jvm.Free.Fl
theorem own_b53 (x : Int32) : B53 x.toInt64 := by
  have := x.le_toInt; have := x.toInt_lt
  unfold B53; rw [Int32.toInt_toInt64]; omega
theorem own_i64lt (x y : Int32) : x.toInt64 < y.toInt64 ↔ x < y := by
  rw [Int64.lt_iff_toInt_lt, Int32.lt_iff_toInt_lt, Int32.toInt_toInt64, Int32.toInt_toInt64]
theorem own_i64eq (x y : Int32) : x.toInt64 = y.toInt64 ↔ x = y := by
  rw [← Int64.toInt_inj, ← Int32.toInt_inj, Int32.toInt_toInt64, Int32.toInt_toInt64]
theorem own_dcmp_lt (x y : Int32) (o : CmpOp) : cmpValue (FP.dcmp (FP.i2d x) (FP.i2d y)) o < 0 ↔ x < y := by
  rw [i2d_w, i2d_w, dcmpV_w (own_b53 x) (own_b53 y), lw_lt, own_i64lt]
theorem own_dcmp_gt (x y : Int32) (o : CmpOp) : 0 < cmpValue (FP.dcmp (FP.i2d x) (FP.i2d y)) o ↔ y < x := by
  rw [i2d_w, i2d_w, dcmpV_w (own_b53 x) (own_b53 y), lw_gt, own_i64lt]
theorem own_dcmp_eq (x y : Int32) (o : CmpOp) : cmpValue (FP.dcmp (FP.i2d x) (FP.i2d y)) o = 0 ↔ x = y := by
  rw [i2d_w, i2d_w, dcmpV_w (own_b53 x) (own_b53 y), lw_eq, own_i64eq]
theorem own_sub_lt (x y : Int32) : lcmpW (x.toInt64 - y.toInt64) 0 < 0 ↔ x < y := by
  have h := sub64 (own_b53 x) (own_b53 y)
  rw [lw_lt, Int64.lt_iff_toInt_lt, Int32.lt_iff_toInt_lt, h, Int32.toInt_toInt64, Int32.toInt_toInt64]
  have : (0 : Int64).toInt = 0 := rfl
  omega
end OwnNums
section OwnWords
theorem own_eqint {args : Array Value} {first s : State} {o : Option Outcome} {idx : List Nat} {t : Term} {k : Int32} (h : (Jvm.Cond.eq t (.int k)).value args first o s idx = some true) : t.eval args first o idx s = some (.int k) := by
  simp only [Cond.value, Term.eval] at h
  cases ht : t.eval args first o idx s with
  | none => simp [ht] at h
  | some x => cases x <;> simp [ht] at h ⊢; exact h
end OwnWords
section OwnInts
theorem own_prod {a b : Int} {A B : Nat} (ha : a.natAbs ≤ A) (hb : b.natAbs ≤ B) : (a * b).natAbs ≤ A * B := by
  rw [Int.natAbs_mul]; exact Nat.mul_le_mul ha hb
theorem own_shr (x : Int32) : (x >>> ((11 : Int32) &&& 31)).toInt.natAbs ≤ 1048576 := by
  rw [c_ishr x 11 11 (by decide)]
  have := x.le_toInt; have := x.toInt_lt
  show (x.toInt / (2048 : Nat)).natAbs ≤ _
  omega
end OwnInts
section OwnFl
open Jvm.FP Jvm.Free.Fl
abbrev own_zv (a : UInt64) : Int := Core.zval Core.b64 (Core.val64 a)
abbrev own_zm (a : UInt64) : Nat := Core.zmag Core.b64 (Core.val64 a)
theorem own_one : (Core.one64 : Nat) = 2 ^ 1074 := rfl
theorem own_finnn {a : UInt64} (h : Core.DFin a) : NoNaN64 a := (fin64_core.mpr h).noNaN
theorem own_finne {a : UInt64} (h : Core.DFin a) : Core.val64 a ≠ .nan := h.ne_nan
theorem own_addle {a b V : UInt64} (ha : Core.DFin a) (hb : Core.DFin b) (hV : Core.val64 V ≠ .nan) (h : own_zv a + own_zv b ≤ own_zv V) : own_zv (FP.dadd a b) ≤ own_zv V := by
  show Core.zval Core.b64 (Core.val64 (Core.dadd a b)) ≤ _
  rw [Core.val64_dadd]
  exact Core.sum_le Core.good_b64 ha hb (Core.val64_fits a) (Core.val64_fits b) (Core.val64_fits V) hV h
theorem own_addge {a b V : UInt64} (ha : Core.DFin a) (hb : Core.DFin b) (hV : Core.val64 V ≠ .nan) (h : own_zv V ≤ own_zv a + own_zv b) : own_zv V ≤ own_zv (FP.dadd a b) := by
  show _ ≤ Core.zval Core.b64 (Core.val64 (Core.dadd a b))
  rw [Core.val64_dadd]
  exact Core.sum_ge Core.good_b64 ha hb (Core.val64_fits a) (Core.val64_fits b) (Core.val64_fits V) hV h
theorem own_negfin {b : UInt64} (hb : Core.DFin b) : ∃ s c q, Core.negate (Core.val64 b) = .fin s c q := by
  obtain ⟨s, c, q, h⟩ := hb
  exact ⟨!s, c, q, by rw [h]; rfl⟩
theorem own_suble {a b V : UInt64} (ha : Core.DFin a) (hb : Core.DFin b) (hV : Core.val64 V ≠ .nan) (h : own_zv a - own_zv b ≤ own_zv V) : own_zv (FP.dsub a b) ≤ own_zv V := by
  show Core.zval Core.b64 (Core.val64 (Core.dsub a b)) ≤ _
  rw [Core.val64_dsub]
  exact Core.sum_le Core.good_b64 ha (own_negfin hb) (Core.val64_fits a) (Core.negate_fits (Core.val64_fits b)) (Core.val64_fits V) hV (by rw [Core.zval_negate]; exact h)
theorem own_subge {a b V : UInt64} (ha : Core.DFin a) (hb : Core.DFin b) (hV : Core.val64 V ≠ .nan) (h : own_zv V ≤ own_zv a - own_zv b) : own_zv V ≤ own_zv (FP.dsub a b) := by
  show _ ≤ Core.zval Core.b64 (Core.val64 (Core.dsub a b))
  rw [Core.val64_dsub]
  exact Core.sum_ge Core.good_b64 ha (own_negfin hb) (Core.val64_fits a) (Core.negate_fits (Core.val64_fits b)) (Core.val64_fits V) hV (by rw [Core.zval_negate]; exact h)
theorem own_pow2q : (2 ^ (Core.b64.qmin - 2 * Core.b64.qmin).toNat : Nat) = Core.one64 := by
  rw [show Core.b64.qmin - 2 * Core.b64.qmin = -Core.b64.qmin by omega]; exact Core.pow_qmin64
theorem own_mulle {a b V : UInt64} (ha : Core.DFin a) (hb : Core.DFin b) (hV : Core.val64 V ≠ .nan) (h : own_zv a * own_zv b ≤ own_zv V * (Core.one64 : Int)) : own_zv (FP.dmul a b) ≤ own_zv V := by
  obtain ⟨s, c, q, ea⟩ := ha
  obtain ⟨t, d, r, eb⟩ := hb
  have fa := Core.val64_fits a
  have fb := Core.val64_fits b
  rw [ea] at fa; rw [eb] at fb
  obtain ⟨h1, h2, h3⟩ := Core.product_units fa fb
  show Core.zval Core.b64 (Core.val64 (Core.dmul a b)) ≤ _
  rw [Core.val64_dmul, ea, eb, h1]
  refine Core.zval_round_le Core.good_b64 (Core.val64_fits V) hV (e0 := 2 * Core.b64.qmin) (by decide) h2 ?_
  rw [h3, Core.signed_xor, own_pow2q]
  simp only [own_zv, ea, eb] at h
  exact h
theorem own_mulge {a b V : UInt64} (ha : Core.DFin a) (hb : Core.DFin b) (hV : Core.val64 V ≠ .nan) (h : own_zv V * (Core.one64 : Int) ≤ own_zv a * own_zv b) : own_zv V ≤ own_zv (FP.dmul a b) := by
  obtain ⟨s, c, q, ea⟩ := ha
  obtain ⟨t, d, r, eb⟩ := hb
  have fa := Core.val64_fits a
  have fb := Core.val64_fits b
  rw [ea] at fa; rw [eb] at fb
  obtain ⟨h1, h2, h3⟩ := Core.product_units fa fb
  show _ ≤ Core.zval Core.b64 (Core.val64 (Core.dmul a b))
  rw [Core.val64_dmul, ea, eb, h1]
  refine Core.zval_round_ge Core.good_b64 (Core.val64_fits V) hV (e0 := 2 * Core.b64.qmin) (by decide) h2 ?_
  rw [h3, Core.signed_xor, own_pow2q]
  simp only [own_zv, ea, eb] at h
  exact h
theorem own_divdat {a b : UInt64} (ha : Core.DFin a) (hb : Core.DFin b) (hz : own_zm b ≠ 0) : ∃ (s t : Bool) (c d : Nat) (q r : Int), Core.val64 a = .fin s c q ∧ Core.val64 b = .fin t d r ∧ 0 < d ∧ Core.b64.qmin ≤ q ∧ Core.b64.qmin ≤ r ∧ Core.val64 (FP.ddiv a b) = Core.roundRatio Core.b64 (s != t) c d (q - r) := by
  obtain ⟨s, c, q, ea⟩ := ha
  obtain ⟨t, d, r, eb⟩ := hb
  have fa := Core.val64_fits a
  have fb := Core.val64_fits b
  rw [ea] at fa; rw [eb] at fb
  have hd : d ≠ 0 := fun q => hz (by unfold own_zm; rw [eb, q]; show Core.inUnits 0 _ _ = 0; unfold Core.inUnits; exact Nat.zero_mul _)
  refine ⟨s, t, c, d, q, r, ea, eb, Nat.pos_of_ne_zero hd, fa.2.1, fb.2.1, ?_⟩
  show Core.val64 (Core.ddiv a b) = _
  rw [Core.val64_ddiv, ea, eb]
  show (if d = 0 then _ else _) = _
  rw [if_neg hd]
theorem own_divunits {c d : Nat} {q r : Int} (hq : Core.b64.qmin ≤ q) (hr : Core.b64.qmin ≤ r) : 2 * Core.b64.qmin - r ≤ Core.b64.qmin ∧ 2 * Core.b64.qmin - r ≤ q - r ∧ Core.inUnits c (q - r) (2 * Core.b64.qmin - r) = Core.inUnits c q Core.b64.qmin * Core.one64 ∧ ∀ m : Nat, m * 2 ^ (Core.b64.qmin - (2 * Core.b64.qmin - r)).toNat * d = m * Core.inUnits d r Core.b64.qmin := by
  have hqm : Core.b64.qmin = -1074 := Core.qmin_b64
  refine ⟨by omega, by omega, ?_, fun m => ?_⟩
  · unfold Core.inUnits
    rw [show (q - r - (2 * Core.b64.qmin - r)).toNat = (q - Core.b64.qmin).toNat + (-Core.b64.qmin).toNat by omega, Nat.pow_add, Core.pow_qmin64, Nat.mul_assoc]
  · unfold Core.inUnits
    rw [show (Core.b64.qmin - (2 * Core.b64.qmin - r)).toNat = (r - Core.b64.qmin).toNat by omega, Nat.mul_assoc, Nat.mul_comm d]
theorem own_divle {a b V : UInt64} (ha : Core.DFin a) (hb : Core.DFin b) (hz : own_zm b ≠ 0) (hV : Core.val64 V ≠ .nan) (h : own_zm a * Core.one64 ≤ own_zm V * own_zm b) : own_zm (FP.ddiv a b) ≤ own_zm V := by
  obtain ⟨s, t, c, d, q, r, ea, eb, hd, hq, hr, e⟩ := own_divdat ha hb hz
  obtain ⟨u1, u2, u3, u4⟩ := own_divunits (c := c) (d := d) hq hr
  unfold own_zm
  rw [e]
  refine Core.zmag_roundRatio_le Core.good_b64 hd (Core.val64_fits V) hV u1 u2 ?_
  rw [u3, u4]
  simp only [own_zm, ea, eb] at h
  exact h
theorem own_divge {a b V : UInt64} (ha : Core.DFin a) (hb : Core.DFin b) (hz : own_zm b ≠ 0) (h : own_zm V * own_zm b ≤ own_zm a * Core.one64) : own_zm V ≤ own_zm (FP.ddiv a b) := by
  obtain ⟨s, t, c, d, q, r, ea, eb, hd, hq, hr, e⟩ := own_divdat ha hb hz
  obtain ⟨u1, u2, u3, u4⟩ := own_divunits (c := c) (d := d) hq hr
  unfold own_zm
  rw [e]
  refine Core.zmag_roundRatio_ge Core.good_b64 hd (Core.val64_fits V) u1 u2 ?_
  rw [u3, u4]
  simp only [own_zm, ea, eb] at h
  exact h
theorem own_divsgn {a b : UInt64} (ha : Core.DFin a) (hb : Core.DFin b) (hz : own_zm b ≠ 0) : Core.sgn (Core.val64 (FP.ddiv a b)) = (Core.sgn (Core.val64 a) != Core.sgn (Core.val64 b)) ∧ Core.val64 (FP.ddiv a b) ≠ .nan := by
  obtain ⟨s, t, c, d, q, r, ea, eb, hd, hq, hr, e⟩ := own_divdat ha hb hz
  rw [e, ea, eb]
  exact ⟨Core.sgn_roundRatio _ _ _ _ _, Core.roundRatio_ne_nan _ _ _ _ _⟩
theorem own_fintop {a : UInt64} (hn : Core.val64 a ≠ .nan) (h : own_zm a < Core.b64.tails * 2 ^ (Core.b64.exps - 2)) : Core.DFin a := by
  cases e : Core.val64 a with
  | nan => exact absurd e hn
  | inf s => rw [own_zm, e] at h; exact absurd h (Nat.lt_irrefl _)
  | fin s c q => exact ⟨s, c, q, e⟩
theorem own_finle {a V : UInt64} (hn : Core.val64 a ≠ .nan) (hV : Core.DFin V) (h : own_zm a ≤ own_zm V) : Core.DFin a := own_fintop hn (Nat.lt_of_le_of_lt h hV.zval_lt)
theorem own_zmabs (a : UInt64) : (own_zv a).natAbs = own_zm a := Core.natAbs_signed _ _
theorem own_addne {a b : UInt64} (ha : Core.DFin a) (hb : Core.DFin b) : Core.val64 (FP.dadd a b) ≠ .nan := (Core.notNaN_iff _).mp (Core.dadd_out ha.notNaN hb)
theorem own_subne {a b : UInt64} (ha : Core.DFin a) (hb : Core.DFin b) : Core.val64 (FP.dsub a b) ≠ .nan := (Core.notNaN_iff _).mp (Core.dsub_out ha.notNaN hb)
theorem own_mulne {a b : UInt64} (ha : Core.DFin a) (hb : Core.DFin b) : Core.val64 (FP.dmul a b) ≠ .nan := (Core.notNaN_iff _).mp (Core.dmul_out ha hb)
theorem own_nnof {a : UInt64} (h : Core.val64 a ≠ .nan) : NoNaN64 a := val64_no.mpr h
/-- the double a is i times two to the power (j - 1074) -/
def own_Z (j : Nat) (i : Int) (a : UInt64) : Prop := Core.DFin a ∧ own_zv a = i * ((2 ^ j : Nat) : Int)
theorem own_rep (n : Int) (j : Nat) (hn : n.natAbs < 2 ^ 53) (hj : j ≤ 2045) : ∃ V, own_Z j n V := by
  have hqm : Core.b64.qmin = -1074 := Core.qmin_b64
  have hqx : Core.b64.qmax = 971 := by decide
  obtain ⟨c', q', h1, h2⟩ := Core.round_exact Core.good_b64 (decide (n < 0)) (c := n.natAbs) (q := Core.b64.qmin + j) hn (by omega) (by omega)
  have hv : Core.val64 (Core.of64 (Core.round Core.b64 (.fin (decide (n < 0)) n.natAbs (Core.b64.qmin + j)))) = .fin (decide (n < 0)) c' q' := by
    rw [Core.val64_of64 (Core.round_fits Core.good_b64 _), h1]
  refine ⟨_, ⟨_, _, _, hv⟩, ?_⟩
  unfold own_zv
  rw [hv]
  show Core.signed (decide (n < 0)) (Core.inUnits c' q' Core.b64.qmin) = _
  rw [h2]
  unfold Core.inUnits
  rw [show (Core.b64.qmin + (j : Int) - Core.b64.qmin).toNat = j by omega, Core.signed_mul]
  congr 1
  unfold Core.signed
  by_cases h : n < 0 <;> simp [h] <;> omega
theorem own_Z.nn {j : Nat} {i : Int} {a : UInt64} (h : own_Z j i a) : NoNaN64 a := own_finnn h.1
theorem own_Z.eqv {j : Nat} {i : Int} {a V : UInt64} (hV : own_Z j i V) (hn : Core.val64 a ≠ .nan) (h1 : own_zv a ≤ own_zv V) (h2 : own_zv V ≤ own_zv a) : own_Z j i a := by
  have e : own_zv a = own_zv V := Int.le_antisymm h1 h2
  refine ⟨own_finle hn hV.1 ?_, e.trans hV.2⟩
  rw [← own_zmabs, ← own_zmabs, e]; exact Nat.le_refl _
theorem own_Z.add {j : Nat} {i k : Int} {a b : UInt64} (ha : own_Z j i a) (hb : own_Z j k b) (hn : (i + k).natAbs < 2 ^ 53) (hj : j ≤ 2045 := by decide) : own_Z j (i + k) (FP.dadd a b) := by
  obtain ⟨V, hV⟩ := own_rep (i + k) j hn hj
  have e : own_zv a + own_zv b = own_zv V := by rw [ha.2, hb.2, hV.2, Int.add_mul]
  exact hV.eqv (own_addne ha.1 hb.1) (own_addle ha.1 hb.1 (own_finne hV.1) (Int.le_of_eq e)) (own_addge ha.1 hb.1 (own_finne hV.1) (Int.le_of_eq e.symm))
theorem own_Z.sub {j : Nat} {i k : Int} {a b : UInt64} (ha : own_Z j i a) (hb : own_Z j k b) (hn : (i - k).natAbs < 2 ^ 53) (hj : j ≤ 2045 := by decide) : own_Z j (i - k) (FP.dsub a b) := by
  obtain ⟨V, hV⟩ := own_rep (i - k) j hn hj
  have e : own_zv a - own_zv b = own_zv V := by rw [ha.2, hb.2, hV.2, Int.sub_mul]
  exact hV.eqv (own_subne ha.1 hb.1) (own_suble ha.1 hb.1 (own_finne hV.1) (Int.le_of_eq e)) (own_subge ha.1 hb.1 (own_finne hV.1) (Int.le_of_eq e.symm))
theorem own_Z.mul {j j' J : Nat} {i k : Int} {a b : UInt64} (ha : own_Z j i a) (hb : own_Z j' k b) (hn : (i * k).natAbs < 2 ^ 53) (hJ : J + 1074 = j + j' := by decide) (hj : J ≤ 2045 := by decide) : own_Z J (i * k) (FP.dmul a b) := by
  obtain ⟨V, hV⟩ := own_rep (i * k) J hn hj
  have e : own_zv a * own_zv b = own_zv V * (Core.one64 : Int) := by
    rw [ha.2, hb.2, hV.2, own_one, Int.mul_assoc (i * k), ← Int.natCast_mul, ← Nat.pow_add, hJ, Nat.pow_add, Int.natCast_mul]
    simp only [Int.mul_assoc, Int.mul_left_comm, Int.mul_comm]
  exact hV.eqv (own_mulne ha.1 hb.1) (own_mulle ha.1 hb.1 (own_finne hV.1) (Int.le_of_eq e)) (own_mulge ha.1 hb.1 (own_finne hV.1) (Int.le_of_eq e.symm))
theorem own_zmZ {j : Nat} {i : Int} {a : UInt64} (h : own_Z j i a) : own_zm a = i.natAbs * 2 ^ j := by
  rw [← own_zmabs, h.2, Int.natAbs_mul, Int.natAbs_natCast]
theorem own_Z.div {j j' J : Nat} {i m : Int} {a b : UInt64} (ha : own_Z j (i * m) a) (hb : own_Z j' m b) (hm : m ≠ 0) (hn : i.natAbs < 2 ^ 53) (hJ : J + j' = j + 1074 := by decide) (hj : J ≤ 2045 := by decide) : own_Z J i (FP.ddiv a b) := by
  obtain ⟨V, hV⟩ := own_rep i J hn hj
  have hb0 : own_zm b ≠ 0 := by
    rw [own_zmZ hb]
    exact Nat.mul_ne_zero (by omega) (Nat.ne_of_gt (Nat.two_pow_pos _))
  have e : own_zm a * Core.one64 = own_zm V * own_zm b := by
    rw [own_zmZ ha, own_zmZ hb, own_zmZ hV, own_one, Int.natAbs_mul, Nat.mul_assoc, ← Nat.pow_add, ← hJ, Nat.pow_add]
    simp only [Nat.mul_assoc, Nat.mul_left_comm, Nat.mul_comm]
  obtain ⟨hs, hne⟩ := own_divsgn ha.1 hb.1 hb0
  have em : own_zm (FP.ddiv a b) = own_zm V := Nat.le_antisymm (own_divle ha.1 hb.1 hb0 (own_finne hV.1) (Nat.le_of_eq e)) (own_divge ha.1 hb.1 hb0 (Nat.le_of_eq e.symm))
  refine ⟨own_finle hne hV.1 (Nat.le_of_eq em), ?_⟩
  have ev : own_zv (FP.ddiv a b) * own_zv b = own_zv a * (Core.one64 : Int) := by
    show Core.signed _ _ * Core.signed _ _ = Core.signed _ _ * _
    rw [← Core.signed_xor, hs, ← Core.signed_mul]
    have e2 : Core.zmag Core.b64 (Core.val64 (FP.ddiv a b)) * Core.zmag Core.b64 (Core.val64 b) = Core.zmag Core.b64 (Core.val64 a) * Core.one64 := by
      rw [show Core.zmag Core.b64 (Core.val64 (FP.ddiv a b)) = own_zm V from em]; exact e.symm
    rw [e2]
    cases Core.sgn (Core.val64 a) <;> cases Core.sgn (Core.val64 b) <;> rfl
  rw [ha.2, hb.2, own_one] at ev
  have hp : ((2 ^ j' : Nat) : Int) ≠ 0 := by have := Nat.two_pow_pos j'; omega
  refine Int.eq_of_mul_eq_mul_right (Int.mul_ne_zero hm hp) (ev.trans ?_)
  rw [Int.mul_assoc (i * m), ← Int.natCast_mul, ← Nat.pow_add, ← hJ, Nat.pow_add, Int.natCast_mul]
  simp only [Int.mul_assoc, Int.mul_left_comm, Int.mul_comm]
theorem own_Z.neg {j : Nat} {i : Int} {a : UInt64} (h : own_Z j i a) : own_Z j (-i) (FP.dneg a) := by
  refine ⟨?_, ?_⟩
  · obtain ⟨s, c, q, e⟩ := own_negfin h.1
    exact ⟨s, c, q, by rw [FP.val64_dneg]; exact e⟩
  · unfold own_zv
    rw [FP.val64_dneg, Core.zval_negate]
    have := h.2; unfold own_zv at this; rw [this, Int.neg_mul]
theorem own_Z.of_int {i : Int} {a : UInt64} (h : Core.DInt i a) : own_Z 1074 i a := by
  refine ⟨?_, Core.DInt_zval h⟩
  unfold Core.DInt at h
  cases e : Core.val64 a with
  | nan => rw [e] at h; exact h.elim
  | inf s => rw [e] at h; exact h.elim
  | fin s c q => exact ⟨s, c, q, e⟩
theorem own_Z.i2d (x : Int32) : own_Z 1074 x.toInt (FP.i2d x) := own_Z.of_int (Core.i2d_int x)
theorem own_Z.l2d {x : Int64} (h : x.toInt.natAbs ≤ 2 ^ 53) : own_Z 1074 x.toInt (FP.l2d x) := own_Z.of_int (Core.l2d_int h)
theorem own_Z.shift {j k : Nat} {i : Int} {a : UInt64} (h : own_Z (j + k) i a) : own_Z j (i * ((2 ^ k : Nat) : Int)) a := by
  refine ⟨h.1, h.2.trans ?_⟩
  rw [Nat.add_comm, Nat.pow_add, Int.natCast_mul, Int.mul_assoc]
theorem own_Z.cmp {j : Nat} {i k : Int} {a b : UInt64} (ha : own_Z j i a) (hb : own_Z j k b) : FP.dcmp a b = some (compare i k) := by
  have h := Core.dcmp_zval (own_finne ha.1) (own_finne hb.1)
  have h1 := ha.2; have h2 := hb.2
  unfold own_zv at h1 h2
  rw [h1, h2, Core.compare_mul_pos _ _ _ (by have := Nat.two_pow_pos j; omega)] at h
  exact h
theorem own_Z.cmpE {j : Nat} {i k : Int} {a b : UInt64} (ha : own_Z j i a) (hb : own_Z j k b) (h : i = k) (o : CmpOp) : cmpValue (FP.dcmp a b) o = 0 := by
  rw [ha.cmp hb, (Core.compare_eq_iff _ _).mpr h]; cases o <;> rfl
theorem own_Z.cmpL {j : Nat} {i k : Int} {a b : UInt64} (ha : own_Z j i a) (hb : own_Z j k b) (h : i < k) (o : CmpOp) : cmpValue (FP.dcmp a b) o = -1 := by
  rw [ha.cmp hb, (Core.compare_lt_iff _ _).mpr h]; cases o <;> rfl
theorem own_Z.cmpG {j : Nat} {i k : Int} {a b : UInt64} (ha : own_Z j i a) (hb : own_Z j k b) (h : k < i) (o : CmpOp) : cmpValue (FP.dcmp a b) o = 1 := by
  rw [ha.cmp hb, (Core.compare_gt_iff _ _).mpr h]; cases o <;> rfl
theorem own_Z.eq {j : Nat} {i k : Int} {a : UInt64} (ha : own_Z j i a) (h : i = k) : own_Z j k a := h ▸ ha
theorem own_mulb {a b : Int} {A B : Nat} (ha : a.natAbs ≤ A) (hb : b.natAbs ≤ B) : (a * b).natAbs ≤ A * B := by
  rw [Int.natAbs_mul]; exact Nat.mul_le_mul ha hb
theorem own_Z0 : own_Z 1074 0 0 := by
  refine ⟨⟨false, 0, Core.b64.qmin, by decide +kernel⟩, by decide +kernel⟩
theorem own_Z1 : own_Z 1074 1 4607182418800017408 := own_Z.of_int Core.dint_one
end OwnFl
section OwnFl2
open Jvm.FP Jvm.Free.Fl
theorem own_Z.sgn {j : Nat} {i : Int} {a : UInt64} (h : own_Z j i a) (hi : i ≠ 0) : Core.sgn (Core.val64 a) = decide (i < 0) := by
  have hz := h.2
  have hp := Nat.two_pow_pos j
  have hm : 0 < own_zm a := by rw [own_zmZ h]; exact Nat.mul_pos (by omega) hp
  have hs : decide (Core.signed (Core.sgn (Core.val64 a)) (own_zm a) < 0) = Core.sgn (Core.val64 a) := Core.signed_lt_zero _ hm
  rw [← hs]
  have : Core.signed (Core.sgn (Core.val64 a)) (own_zm a) = i * ((2 ^ j : Nat) : Int) := hz
  rw [this]
  congr 1
  refine propext ⟨fun q => ?_, fun q => ?_⟩
  · exact Int.lt_of_not_ge fun r => absurd (Int.mul_nonneg r (Int.natCast_nonneg (2 ^ j))) (by omega)
  · exact Int.mul_neg_of_neg_of_pos q (by omega)
theorem own_divcongr {a b a' b' : UInt64} (ha : Core.DFin a) (hb : Core.DFin b) (ha' : Core.DFin a') (hb' : Core.DFin b') (hz : own_zm b ≠ 0) (hz' : own_zm b' ≠ 0)
    (hs : (Core.sgn (Core.val64 a) != Core.sgn (Core.val64 b)) = (Core.sgn (Core.val64 a') != Core.sgn (Core.val64 b'))) (h : own_zm a * own_zm b' = own_zm a' * own_zm b) : FP.ddiv a b = FP.ddiv a' b' := by
  obtain ⟨s, t, c, d, q, r, ea, eb, hd, hq, hr, e⟩ := own_divdat ha hb hz
  obtain ⟨s', t', c', d', q', r', ea', eb', hd', hq', hr', e'⟩ := own_divdat ha' hb' hz'
  have hn := (own_divsgn ha hb hz).2
  refine Core.val64_inj hn ?_
  show Core.val64 (FP.ddiv a b) = Core.val64 (FP.ddiv a' b')
  rw [e, e']
  simp only [ea, eb, ea', eb'] at hs
  have hs2 : (s != t) = (s' != t') := hs
  rw [hs2]
  refine Core.roundRatio_congr hd hd' ?_
  have h2 : Core.inUnits c q Core.b64.qmin * Core.inUnits d' r' Core.b64.qmin = Core.inUnits c' q' Core.b64.qmin * Core.inUnits d r Core.b64.qmin := by
    have := h; simp only [own_zm, ea, eb, ea', eb'] at this; exact this
  unfold Core.inUnits at h2
  have h3 : c * d' * 2 ^ ((q - Core.b64.qmin).toNat + (r' - Core.b64.qmin).toNat) = c' * d * 2 ^ ((q' - Core.b64.qmin).toNat + (r - Core.b64.qmin).toNat) := by
    rw [Nat.pow_add, Nat.pow_add]
    simp only [Nat.mul_assoc, Nat.mul_left_comm, Nat.mul_comm] at h2 ⊢
    exact h2
  rcases Int.le_total (q' + r) (q + r') with hle | hle
  · rw [show (q' - r' - (q - r)).toNat = 0 by omega, Nat.pow_zero, Nat.mul_one]
    have h4 : 2 ^ ((q - Core.b64.qmin).toNat + (r' - Core.b64.qmin).toNat) = 2 ^ (q - r - (q' - r')).toNat * 2 ^ ((q' - Core.b64.qmin).toNat + (r - Core.b64.qmin).toNat) := by rw [← Nat.pow_add]; congr 1; omega
    rw [h4, ← Nat.mul_assoc] at h3
    exact Nat.eq_of_mul_eq_mul_right (Nat.two_pow_pos _) h3
  · rw [show (q - r - (q' - r')).toNat = 0 by omega, Nat.pow_zero, Nat.mul_one]
    have h4 : 2 ^ ((q' - Core.b64.qmin).toNat + (r - Core.b64.qmin).toNat) = 2 ^ (q' - r' - (q - r)).toNat * 2 ^ ((q - Core.b64.qmin).toNat + (r' - Core.b64.qmin).toNat) := by rw [← Nat.pow_add]; congr 1; omega
    rw [h4, ← Nat.mul_assoc] at h3
    exact Nat.eq_of_mul_eq_mul_right (Nat.two_pow_pos _) h3
theorem own_Z.zm {j : Nat} {i : Int} {a : UInt64} (h : own_Z j i a) (hi : i ≠ 0) : own_zm a ≠ 0 := by
  rw [own_zmZ h]; exact Nat.mul_ne_zero (by omega) (Nat.ne_of_gt (Nat.two_pow_pos _))
theorem own_Z.divnn {j k : Nat} {i m : Int} {a b : UInt64} (ha : own_Z j i a) (hb : own_Z k m b) (hm : m ≠ 0) : NoNaN64 (FP.ddiv a b) := own_nnof (own_divsgn ha.1 hb.1 (hb.zm hm)).2
/-- two quotients of one worth: the same double -/
theorem own_Z.divsame {j k j' k' : Nat} {i m i' m' : Int} {a b a' b' : UInt64} (ha : own_Z j i a) (hb : own_Z k m b) (ha' : own_Z j' i' a') (hb' : own_Z k' m' b') (pi : 0 < i) (pm : 0 < m) (pi' : 0 < i') (pm' : 0 < m')
    (h : i.natAbs * 2 ^ j * (m'.natAbs * 2 ^ k') = i'.natAbs * 2 ^ j' * (m.natAbs * 2 ^ k)) : FP.ddiv a b = FP.ddiv a' b' := by
  refine own_divcongr ha.1 hb.1 ha'.1 hb'.1 (hb.zm (by omega)) (hb'.zm (by omega)) ?_ ?_
  · rw [ha.sgn (by omega), hb.sgn (by omega), ha'.sgn (by omega), hb'.sgn (by omega)]
    rw [decide_eq_false (by omega : ¬ i < 0), decide_eq_false (by omega : ¬ m < 0), decide_eq_false (by omega : ¬ i' < 0), decide_eq_false (by omega : ¬ m' < 0)]
  · rw [own_zmZ ha, own_zmZ hb, own_zmZ ha', own_zmZ hb']; exact h
end OwnFl2
section OwnFl3
open Jvm.FP Jvm.Free.Fl
theorem own_nat {a b c d : Nat} (h : (a : Int) * (b : Int) ≤ (c : Int) * (d : Int)) : a * b ≤ c * d := by
  have q : ((a * b : Nat) : Int) ≤ ((c * d : Nat) : Int) := by rw [Int.natCast_mul, Int.natCast_mul]; exact h
  exact Int.ofNat_le.mp q
theorem own_sgF (c : Nat) : Core.signed false c = (c : Int) := rfl
theorem own_sgT (c : Nat) : Core.signed true c = -(c : Int) := rfl
theorem own_zvs (a : UInt64) : own_zv a = Core.signed (Core.sgn (Core.val64 a)) (own_zm a) := rfl
theorem own_onepos : (0 : Int) < (Core.one64 : Int) := by have := Core.one64_pos; omega
theorem own_divleP {a b V : UInt64} (ha : Core.DFin a) (hb : Core.DFin b) (hp : 0 < own_zv b) (hV : Core.val64 V ≠ .nan) (h : own_zv a * (Core.one64 : Int) ≤ own_zv V * own_zv b) : own_zv (FP.ddiv a b) ≤ own_zv V := by
  have hz : own_zm b ≠ 0 := fun q => by rw [own_zvs, q] at hp; cases hs : Core.sgn (Core.val64 b) <;> rw [hs] at hp <;> simp [own_sgF, own_sgT] at hp
  obtain ⟨hs, hn⟩ := own_divsgn ha hb hz
  have o1 := own_onepos
  rw [own_zvs (FP.ddiv a b), hs]
  rw [own_zvs a, own_zvs b, own_zvs V] at h
  rw [own_zvs b] at hp
  rw [own_zvs V]
  have L := own_divle (V := V) ha hb hz hV
  have G := own_divge (V := V) ha hb hz
  cases sa : Core.sgn (Core.val64 a) <;> cases sb : Core.sgn (Core.val64 b) <;> cases sv : Core.sgn (Core.val64 V) <;> simp only [sa, sb, sv, own_sgF, own_sgT] at h hp ⊢
  · exact Int.ofNat_le.mpr (L (own_nat h))
  · have h1 : (0 : Int) ≤ (own_zm a : Int) * (Core.one64 : Int) := Int.mul_nonneg (Int.natCast_nonneg _) (Int.natCast_nonneg _)
    have h2 : (0 : Int) ≤ (own_zm V : Int) * (own_zm b : Int) := Int.mul_nonneg (Int.natCast_nonneg _) (Int.natCast_nonneg _)
    rw [Int.neg_mul] at h
    have h3 : (own_zm V : Int) * (own_zm b : Int) = 0 := by omega
    have h4 : own_zm V = 0 := by
      rcases Int.mul_eq_zero.mp h3 with q | q
      · omega
      · exact absurd q (by omega)
    have := L (own_nat (by omega))
    show ((own_zm (FP.ddiv a b) : Nat) : Int) ≤ -_
    omega
  · omega
  · omega
  · show -((own_zm (FP.ddiv a b) : Nat) : Int) ≤ _
    omega
  · rw [Int.neg_mul, Int.neg_mul] at h
    have := G (own_nat (by omega))
    show -((own_zm (FP.ddiv a b) : Nat) : Int) ≤ -_
    omega
  · omega
  · omega
theorem own_divgeP {a b V : UInt64} (ha : Core.DFin a) (hb : Core.DFin b) (hp : 0 < own_zv b) (hV : Core.val64 V ≠ .nan) (h : own_zv V * own_zv b ≤ own_zv a * (Core.one64 : Int)) : own_zv V ≤ own_zv (FP.ddiv a b) := by
  have hz : own_zm b ≠ 0 := fun q => by rw [own_zvs, q] at hp; cases hs : Core.sgn (Core.val64 b) <;> rw [hs] at hp <;> simp [own_sgF, own_sgT] at hp
  obtain ⟨hs, hn⟩ := own_divsgn ha hb hz
  have o1 := own_onepos
  rw [own_zvs (FP.ddiv a b), hs]
  rw [own_zvs a, own_zvs b, own_zvs V] at h
  rw [own_zvs b] at hp
  rw [own_zvs V]
  have L := own_divle (V := V) ha hb hz hV
  have G := own_divge (V := V) ha hb hz
  cases sa : Core.sgn (Core.val64 a) <;> cases sb : Core.sgn (Core.val64 b) <;> cases sv : Core.sgn (Core.val64 V) <;> simp only [sa, sb, sv, own_sgF, own_sgT] at h hp ⊢
  · exact Int.ofNat_le.mpr (G (own_nat h))
  · show -_ ≤ ((own_zm (FP.ddiv a b) : Nat) : Int)
    omega
  · omega
  · omega
  · have h1 : (0 : Int) ≤ (own_zm a : Int) * (Core.one64 : Int) := Int.mul_nonneg (Int.natCast_nonneg _) (Int.natCast_nonneg _)
    have h2 : (0 : Int) ≤ (own_zm V : Int) * (own_zm b : Int) := Int.mul_nonneg (Int.natCast_nonneg _) (Int.natCast_nonneg _)
    rw [Int.neg_mul] at h
    have h3 : (own_zm V : Int) * (own_zm b : Int) = 0 := by omega
    have h4 : own_zm V = 0 := by
      rcases Int.mul_eq_zero.mp h3 with q | q
      · omega
      · exact absurd q (by omega)
    have := L (own_nat (by omega))
    show _ ≤ -((own_zm (FP.ddiv a b) : Nat) : Int)
    omega
  · rw [Int.neg_mul, Int.neg_mul] at h
    have := L (own_nat (by omega))
    show -_ ≤ -((own_zm (FP.ddiv a b) : Nat) : Int)
    omega
  · omega
  · omega
theorem own_zmneg (a : UInt64) : own_zm (FP.dneg a) = own_zm a := by
  unfold own_zm; rw [FP.val64_dneg]; cases Core.val64 a <;> rfl
theorem own_sgneg {a : UInt64} (h : Core.DFin a) : Core.sgn (Core.val64 (FP.dneg a)) = !Core.sgn (Core.val64 a) := by
  obtain ⟨s, c, q, e⟩ := h
  rw [FP.val64_dneg, e]; rfl
theorem own_negF {a : UInt64} (h : Core.DFin a) : Core.DFin (FP.dneg a) := by
  obtain ⟨s, c, q, e⟩ := own_negfin h
  exact ⟨s, c, q, by rw [FP.val64_dneg]; exact e⟩
theorem own_divneg {a b : UInt64} (ha : Core.DFin a) (hb : Core.DFin b) (hz : own_zm b ≠ 0) : FP.ddiv a b = FP.ddiv (FP.dneg a) (FP.dneg b) :=
  own_divcongr ha hb (own_negF ha) (own_negF hb) hz (by rw [own_zmneg]; exact hz) (by rw [own_sgneg ha, own_sgneg hb]; cases Core.sgn (Core.val64 a) <;> cases Core.sgn (Core.val64 b) <;> rfl) (by rw [own_zmneg, own_zmneg])
theorem own_cmpv {a b : UInt64} (ha : Core.val64 a ≠ .nan) (hb : Core.val64 b ≠ .nan) (o : CmpOp) : (own_zv a < own_zv b → cmpValue (FP.dcmp a b) o = -1) ∧ (own_zv a = own_zv b → cmpValue (FP.dcmp a b) o = 0) ∧ (own_zv b < own_zv a → cmpValue (FP.dcmp a b) o = 1) := by
  have h : FP.dcmp a b = some (compare (own_zv a) (own_zv b)) := Core.dcmp_zval ha hb
  rw [h]
  refine ⟨fun q => ?_, fun q => ?_, fun q => ?_⟩
  · rw [(Core.compare_lt_iff _ _).mpr q]; cases o <;> rfl
  · rw [(Core.compare_eq_iff _ _).mpr q]; cases o <;> rfl
  · rw [(Core.compare_gt_iff _ _).mpr q]; cases o <;> rfl
end OwnFl3
section OwnCont
open Jvm.FP Jvm.Free.Fl
theorem own_l2dfin (n : Int64) : Core.DFin (FP.l2d n) := Core.l2d_fin n
theorem own_l2dz {n : Int64} (h : n ≠ 0) : own_zm (FP.l2d n) ≠ 0 := by
  intro q
  have e : own_zv (FP.l2d n) = 0 := by rw [own_zvs, q]; cases Core.sgn (Core.val64 (FP.l2d n)) <;> rfl
  exact Core.l2d_ne_zero h ((Core.zval_eq_zero (own_l2dfin n).ne_nan).mp e)
theorem own_l2dnn {a b : Int64} (h : b ≠ 0) : NoNaN64 (FP.ddiv (FP.l2d a) (FP.l2d b)) := own_nnof (own_divsgn (own_l2dfin a) (own_l2dfin b) (own_l2dz h)).2
theorem own_selfq {k : Int64} (h : k ≠ 0) : (if k = (0 : Int64) then (0 : UInt64) else (FP.ddiv (FP.l2d k) (FP.l2d k))) = (4607182418800017408 : UInt64) := by
  rw [if_neg h]
  have e := own_divcongr (own_l2dfin k) (own_l2dfin k) own_Z1.1 own_Z1.1 (own_l2dz h) (own_Z1.zm (by decide)) (by cases Core.sgn (Core.val64 (FP.l2d k)) <;> cases Core.sgn (Core.val64 4607182418800017408) <;> rfl) (Nat.mul_comm _ _)
  rw [e]
  decide +kernel
theorem own_zeroZ {k : Int64} (h : k ≠ 0) : own_Z 1074 0 (FP.ddiv (FP.l2d 0) (FP.l2d k)) := by
  have z0 : own_Z 1074 0 (FP.l2d 0) := own_Z.l2d (x := 0) (by decide)
  have e : own_zm (FP.l2d 0) = 0 := by have := own_zmZ z0; rw [show (0 : Int).natAbs = 0 from rfl, Nat.zero_mul] at this; exact this
  have e0 : own_zm 0 = 0 := by have := own_zmZ own_Z0; rw [show (0 : Int).natAbs = 0 from rfl, Nat.zero_mul] at this; exact this
  have m := own_divle (V := 0) z0.1 (own_l2dfin k) (own_l2dz h) (own_finne own_Z0.1) (by rw [e, e0, Nat.zero_mul, Nat.zero_mul]; exact Nat.le_refl _)
  rw [e0] at m
  have hn := (own_divsgn z0.1 (own_l2dfin k) (own_l2dz h)).2
  refine ⟨own_finle hn own_Z0.1 (by rw [e0]; exact m), ?_⟩
  rw [own_zvs, Nat.le_zero.mp m, Int.zero_mul]
  cases Core.sgn (Core.val64 (FP.ddiv (FP.l2d 0) (FP.l2d k))) <;> rfl
theorem own_zeroq {k : Int64} (h : k ≠ 0) (o : CmpOp) : cmpValue (FP.dcmp (if k = (0 : Int64) then (0 : UInt64) else (FP.ddiv (FP.l2d (0 : Int64)) (FP.l2d k))) (0 : UInt64)) o = 0 := by
  rw [if_neg h]; exact (own_zeroZ h).cmpE own_Z0 rfl o
theorem own_exactq {cc k : Int64} {Q : Int} (h : k ≠ 0) (e : cc.toInt = Q * k.toInt) (hc : cc.toInt.natAbs ≤ 2 ^ 53) (hk : k.toInt.natAbs ≤ 2 ^ 53) (hQ : Q.natAbs < 2 ^ 53) : own_Z 1074 Q (if k = (0 : Int64) then (0 : UInt64) else (FP.ddiv (FP.l2d cc) (FP.l2d k))) := by
  rw [if_neg h]
  exact own_Z.div (own_Z.eq (own_Z.l2d hc) e) (own_Z.l2d hk) (fun q => h (Int64.toInt_inj.mp q)) hQ
/-- half-whole quotients: k = 2 m, cc = Q m -/
theorem own_halfq {cc k : Int64} {Q m : Int} (h : k ≠ 0) (e : cc.toInt = Q * m) (ek : k.toInt = m * 2) (hc : cc.toInt.natAbs ≤ 2 ^ 53) (hk : k.toInt.natAbs ≤ 2 ^ 53) (hQ : Q.natAbs < 2 ^ 53) : own_Z 1073 Q (if k = (0 : Int64) then (0 : UInt64) else (FP.ddiv (FP.l2d cc) (FP.l2d k))) := by
  rw [if_neg h]
  have b : own_Z 1075 m (FP.l2d k) := by
    have q := own_Z.l2d hk
    refine ⟨q.1, q.2.trans ?_⟩
    rw [ek, show (1075 : Nat) = 1 + 1074 from rfl, Nat.pow_add, Int.natCast_mul, Int.mul_assoc]
    generalize ((2 ^ 1074 : Nat) : Int) = P
    rfl
  exact own_Z.div (own_Z.eq (own_Z.l2d hc) e) b (fun q => h (Int64.toInt_inj.mp (by rw [ek, q]; rfl))) hQ
theorem own_half {i : Int} {a : UInt64} (h : own_Z 1074 i a) : own_Z 1073 (i * 2) a := own_Z.shift (j := 1073) (k := 1) h
theorem own_strictP {a b lo hi : UInt64} {C K Q M : Int} (ha : own_Z 1074 C a) (hb : own_Z 1074 K b) (hl : own_Z 1074 Q lo) (hh : own_Z 1074 (Q + 1) hi) (hK : 0 < K) (hK2 : K ≤ 2097152) (hM : 0 < M) (hM2 : M < K) (e : C = Q * K + M) (hQ : Q.natAbs ≤ 1073741824) (o : CmpOp) :
    cmpValue (FP.dcmp lo (FP.ddiv a b)) o = -1 ∧ cmpValue (FP.dcmp (FP.ddiv a b) hi) o = -1 := by
  obtain ⟨V, hV⟩ := own_rep (Q * 2097152 + 1) 1053 (by omega) (by decide)
  obtain ⟨W, hW⟩ := own_rep (Q * 2097152 + 2097151) 1053 (by omega) (by decide)
  have hn := (own_divsgn ha.1 hb.1 (hb.zm (by omega))).2
  have P1 : (0 : Int) < ((2 ^ 1053 : Nat) : Int) := by have := Nat.two_pow_pos 1053; omega
  have E1 : ((2 ^ 1074 : Nat) : Int) = 2097152 * ((2 ^ 1053 : Nat) : Int) := by
    rw [show (1074 : Nat) = 21 + 1053 from rfl, Nat.pow_add, Int.natCast_mul]
    generalize ((2 ^ 1053 : Nat) : Int) = P
    rfl
  have za := ha.2; have zb := hb.2; have zl := hl.2; have zh := hh.2; have zV := hV.2; have zW := hW.2
  rw [E1] at za zb zl zh
  have O1 : (Core.one64 : Int) = 2097152 * ((2 ^ 1053 : Nat) : Int) := by rw [own_one]; exact E1
  generalize ((2 ^ 1053 : Nat) : Int) = P at *
  have hp : 0 < own_zv b := by rw [zb]; exact Int.mul_pos hK (by omega)
  have f1 : (Q * 2097152 + 1) * K ≤ C * 2097152 := by
    have : (Q * 2097152 + 1) * K = (Q * K) * 2097152 + K := by rw [Int.add_mul, Int.one_mul, Int.mul_right_comm]
    rw [this, e]; omega
  have f2 : C * 2097152 ≤ (Q * 2097152 + 2097151) * K := by
    have : (Q * 2097152 + 2097151) * K = (Q * K) * 2097152 + 2097151 * K := by rw [Int.add_mul, Int.mul_right_comm]
    rw [this, e]; omega
  have PP : (0 : Int) ≤ P * P := Int.mul_nonneg (by omega) (by omega)
  have g1 : own_zv V * own_zv b ≤ own_zv a * (Core.one64 : Int) := by
    rw [zV, zb, za, O1]
    have l : (Q * 2097152 + 1) * P * (K * (2097152 * P)) = ((Q * 2097152 + 1) * K) * 2097152 * (P * P) := by simp only [Int.mul_assoc, Int.mul_left_comm, Int.mul_comm]
    have r : C * (2097152 * P) * (2097152 * P) = (C * 2097152) * 2097152 * (P * P) := by simp only [Int.mul_assoc, Int.mul_left_comm, Int.mul_comm]
    rw [l, r]
    exact Int.mul_le_mul_of_nonneg_right (by omega) PP
  have g2 : own_zv a * (Core.one64 : Int) ≤ own_zv W * own_zv b := by
    rw [zW, zb, za, O1]
    have l : (Q * 2097152 + 2097151) * P * (K * (2097152 * P)) = ((Q * 2097152 + 2097151) * K) * 2097152 * (P * P) := by simp only [Int.mul_assoc, Int.mul_left_comm, Int.mul_comm]
    have r : C * (2097152 * P) * (2097152 * P) = (C * 2097152) * 2097152 * (P * P) := by simp only [Int.mul_assoc, Int.mul_left_comm, Int.mul_comm]
    rw [l, r]
    exact Int.mul_le_mul_of_nonneg_right (by omega) PP
  have h1 := own_divgeP ha.1 hb.1 hp (own_finne hV.1) g1
  have h2 := own_divleP ha.1 hb.1 hp (own_finne hW.1) g2
  rw [zV] at h1; rw [zW] at h2
  have k1 : (Q * 2097152 + 1) * P = Q * (2097152 * P) + P := by rw [Int.add_mul, Int.one_mul, Int.mul_assoc]
  have k2 : (Q * 2097152 + 2097151) * P + P = (Q + 1) * (2097152 * P) := by
    have : (Q + 1) * (2097152 * P) = ((Q + 1) * 2097152) * P := by rw [Int.mul_assoc]
    rw [this, show (Q + 1) * 2097152 = (Q * 2097152 + 2097151) + 1 by omega, Int.add_mul _ 1, Int.one_mul]
  exact ⟨(own_cmpv (own_finne hl.1) hn o).1 (by rw [zl]; omega), (own_cmpv hn (own_finne hh.1) o).1 (by rw [zh]; omega)⟩
theorem own_strictN {a b lo hi : UInt64} {C K Q M : Int} (ha : own_Z 1074 C a) (hb : own_Z 1074 K b) (hl : own_Z 1074 Q lo) (hh : own_Z 1074 (Q + 1) hi) (hK : K < 0) (hK2 : -2097152 ≤ K) (hM : M < 0) (hM2 : K < M) (e : C = Q * K + M) (hQ : Q.natAbs ≤ 1073741824) (o : CmpOp) :
    cmpValue (FP.dcmp lo (FP.ddiv a b)) o = -1 ∧ cmpValue (FP.dcmp (FP.ddiv a b) hi) o = -1 := by
  rw [own_divneg ha.1 hb.1 (hb.zm (by omega))]
  exact own_strictP ha.neg hb.neg hl hh (M := -M) (by omega) (by omega) (by omega) (by omega) (by rw [e, Int.mul_neg]; omega) hQ o
theorem own_l2dval (a : Int64) : ∃ s c q, Core.val64 (FP.l2d a) = .fin s c q ∧ Core.roundRatio Core.b64 (decide (a.toInt < 0)) a.toInt.natAbs 1 0 = .fin s c q ∧ Core.fits Core.b64 (.fin s c q) := by
  obtain ⟨s, c, q, e⟩ := own_l2dfin a
  have f := Core.val64_fits (FP.l2d a)
  refine ⟨s, c, q, e, ?_, e ▸ f⟩
  have v : Core.val64 (FP.l2d a) = Core.round Core.b64 (Core.ofInt a.toInt) := Core.val64_l2d a
  rw [e] at v
  exact v.symm
theorem own_sand {A B X Y : Int} (h1 : X < A) (hm : A < B) (h2 : B < Y) (d1 : (A - Y).natAbs ≤ (A - X).natAbs) (d2 : (B - X).natAbs ≤ (B - Y).natAbs) : False := by omega
theorem own_l2dmono {a b : Int64} (h0 : 0 ≤ a.toInt) (h : a.toInt ≤ b.toInt) : own_zv (FP.l2d a) ≤ own_zv (FP.l2d b) := by
  refine Int.not_lt.mp fun hlt => ?_
  have na := (own_l2dfin a).ne_nan; have nb := (own_l2dfin b).ne_nan
  have op := own_onepos
  have h1 : own_zv (FP.l2d b) < a.toInt * (Core.one64 : Int) := Int.not_le.mp fun q => absurd (Core.l2d_zval_le (n := a) (V := FP.l2d b) nb q) (Int.not_le.mpr hlt)
  have h2 : b.toInt * (Core.one64 : Int) < own_zv (FP.l2d a) := Int.not_le.mp fun q => absurd (Core.l2d_zval_ge (n := b) (V := FP.l2d a) na q) (Int.not_le.mpr hlt)
  have hab : a.toInt < b.toInt := by
    rcases Int.lt_or_eq_of_le h with q | q
    · exact q
    · rw [Int64.toInt_inj.mp q] at hlt; exact absurd hlt (Int.lt_irrefl _)
  have hm : a.toInt * (Core.one64 : Int) < b.toInt * (Core.one64 : Int) := Int.mul_lt_mul_of_pos_right hab op
  obtain ⟨s, c, q, e, r, f⟩ := own_l2dval a
  obtain ⟨s', c', q', e', r', f'⟩ := own_l2dval b
  have q0 : Core.b64.qmin ≤ 0 := by decide
  have d1 := Core.roundRatio_nearest Core.good_b64 (by decide) r f'.1 f'.2.1 (Int.le_refl _) q0
  have d2 := Core.roundRatio_nearest Core.good_b64 (by decide) r' f.1 f.2.1 (Int.le_refl _) q0
  have u : ∀ n : Nat, Core.inUnits n 0 Core.b64.qmin = n * Core.one64 := fun n => by
    unfold Core.inUnits
    rw [show (0 - Core.b64.qmin).toNat = (-Core.b64.qmin).toNat by omega, Core.pow_qmin64]
  unfold Core.distance at d1 d2
  have z0 : own_Z 1074 0 0 := own_Z0
  have ps : 0 ≤ own_zv (FP.l2d a) := by
    have := Core.l2d_zval_ge (n := a) (V := 0) (own_finne own_Z0.1) (by
      have : own_zv 0 = 0 := own_Z0.2.trans (Int.zero_mul _)
      show own_zv 0 ≤ _
      rw [this]; exact Int.mul_nonneg h0 (by omega))
    have e0 : own_zv 0 = 0 := own_Z0.2.trans (Int.zero_mul _)
    have : own_zv 0 ≤ own_zv (FP.l2d a) := this
    omega
  have pt : 0 ≤ own_zv (FP.l2d b) := by
    have := Core.l2d_zval_ge (n := b) (V := 0) (own_finne own_Z0.1) (by
      have : own_zv 0 = 0 := own_Z0.2.trans (Int.zero_mul _)
      show own_zv 0 ≤ _
      rw [this]; exact Int.mul_nonneg (by omega) (by omega))
    have e0 : own_zv 0 = 0 := own_Z0.2.trans (Int.zero_mul _)
    have : own_zv 0 ≤ own_zv (FP.l2d b) := this
    omega
  have ea : ((Core.inUnits c q Core.b64.qmin : Nat) : Int) = own_zv (FP.l2d a) := by
    have z := own_zmabs (FP.l2d a)
    have w : own_zm (FP.l2d a) = Core.inUnits c q Core.b64.qmin := by unfold own_zm; rw [e]; rfl
    omega
  have eb : ((Core.inUnits c' q' Core.b64.qmin : Nat) : Int) = own_zv (FP.l2d b) := by
    have z := own_zmabs (FP.l2d b)
    have w : own_zm (FP.l2d b) = Core.inUnits c' q' Core.b64.qmin := by unfold own_zm; rw [e']; rfl
    omega
  rw [u, ea, eb] at d1
  rw [u, ea, eb] at d2
  have na' : ((a.toInt.natAbs * Core.one64 : Nat) : Int) = a.toInt * (Core.one64 : Int) := by rw [Int.natCast_mul, Int.natAbs_of_nonneg h0]
  have nb' : ((b.toInt.natAbs * Core.one64 : Nat) : Int) = b.toInt * (Core.one64 : Int) := by rw [Int.natCast_mul, Int.natAbs_of_nonneg (by omega)]
  rw [na'] at d1; rw [nb'] at d2
  simp only [Int.natCast_one, Int.mul_one] at d1 d2
  exact own_sand h1 hm h2 d1 d2
theorem own_unit {co cl : Int64} (h0 : 0 ≤ co.toInt) (h1 : co.toInt ≤ cl.toInt) (h2 : cl ≠ 0) : Core.val64 (FP.ddiv (FP.l2d co) (FP.l2d cl)) ≠ .nan ∧ 0 ≤ own_zv (FP.ddiv (FP.l2d co) (FP.l2d cl)) ∧ own_zv (FP.ddiv (FP.l2d co) (FP.l2d cl)) ≤ own_zv 4607182418800017408 := by
  have fa := own_l2dfin co; have fb := own_l2dfin cl
  have hz := own_l2dz h2
  have hn := (own_divsgn fa fb hz).2
  have mono := own_l2dmono h0 h1
  have e0 : own_zv 0 = 0 := own_Z0.2.trans (Int.zero_mul _)
  have e1 : own_zv 4607182418800017408 = (Core.one64 : Int) := by rw [own_Z1.2, own_one, Int.one_mul]
  have op := own_onepos
  have pa : 0 ≤ own_zv (FP.l2d co) := by
    have : own_zv 0 ≤ own_zv (FP.l2d co) := Core.l2d_zval_ge (n := co) (V := 0) (own_finne own_Z0.1) (by
      show own_zv 0 ≤ _
      rw [e0]; exact Int.mul_nonneg h0 (by omega))
    omega
  have pb : 0 < own_zv (FP.l2d cl) := by
    have := own_zmabs (FP.l2d cl)
    omega
  refine ⟨hn, ?_, ?_⟩
  · have := own_divgeP (V := 0) fa fb pb (own_finne own_Z0.1) (by rw [e0, Int.zero_mul]; exact Int.mul_nonneg pa (by omega))
    omega
  · exact own_divleP fa fb pb (own_finne own_Z1.1) (by rw [e1, Int.mul_comm]; exact Int.mul_le_mul_of_nonneg_left mono (by omega))
end OwnCont
section OwnErr
open Jvm.FP Jvm.Free.Fl
/-- two to the power 954, the unit of the error sums (2^-120) -/
def own_E : Int := ((2 ^ 954 : Nat) : Int)
theorem own_Epos : 0 < own_E := by have := Nat.two_pow_pos 954; unfold own_E; omega
theorem own_OE : (Core.one64 : Int) = 1329227995784915872903807060280344576 * own_E := by
  rw [own_one, show (1074 : Nat) = 120 + 954 from rfl, Nat.pow_add, Int.natCast_mul]; rfl
theorem own_GE (k : Nat) (G : Int) (h : ((2 ^ k : Nat) : Int) = G) : ((2 ^ (954 + k) : Nat) : Int) = G * own_E := by
  rw [Nat.pow_add, Int.natCast_mul, h, Int.mul_comm]; rfl
theorem own_grid {R : UInt64} {e c g : Int} (j : Nat) (hj : j ≤ 2045) (hg : ((2 ^ j : Nat) : Int) = g) (hc : 0 < c) (hn : Core.val64 R ≠ .nan)
    (h1 : e ≤ 9007199254740990 * (g * c)) (h2 : -(9007199254740990 * (g * c)) ≤ e)
    (up : ∀ V, Core.DFin V → e ≤ own_zv V * c → own_zv R ≤ own_zv V) (dn : ∀ V, Core.DFin V → own_zv V * c ≤ e → own_zv V ≤ own_zv R) :
    Core.DFin R ∧ own_zv R * c - e ≤ g * c ∧ -(g * c) ≤ own_zv R * c - e := by
  have gp : 0 < g := by have := Nat.two_pow_pos j; omega
  have gc : 0 < g * c := Int.mul_pos gp hc
  have q1 := Int.emod_nonneg e (b := g * c) (by omega)
  have q2 := Int.emod_lt_of_pos e gc
  have q3 := Int.mul_ediv_add_emod e (g * c)
  generalize hN : e / (g * c) = N at *
  have b1 : N ≤ 9007199254740990 := by
    rcases Int.lt_or_le 9007199254740990 N with w | w
    · have := Int.mul_le_mul_of_nonneg_left (show (9007199254740991 : Int) ≤ N by omega) (Int.le_of_lt gc); omega
    · exact w
  have b2 : -9007199254740991 ≤ N := by
    rcases Int.lt_or_le N (-9007199254740991) with w | w
    · have := Int.mul_le_mul_of_nonneg_left (show N ≤ (-9007199254740992 : Int) by omega) (Int.le_of_lt gc); omega
    · exact w
  obtain ⟨V1, hV1⟩ := own_rep N j (by omega) hj
  obtain ⟨V2, hV2⟩ := own_rep (N + 1) j (by omega) hj
  obtain ⟨V3, hV3⟩ := own_rep 9007199254740991 j (by decide) hj
  have z1 := hV1.2; have z2 := hV2.2; have z3 := hV3.2
  rw [hg] at z1 z2 z3
  have m1 : N * g * c = g * c * N := by rw [Int.mul_assoc, Int.mul_comm]
  have m2 : (N + 1) * g * c = g * c * N + g * c := by rw [Int.mul_assoc, Int.add_mul, Int.one_mul, Int.mul_comm N]
  have l1 := dn V1 hV1.1 (by rw [z1, m1]; omega)
  have l2 := up V2 hV2.1 (by rw [z2, m2]; omega)
  have p1 : N * g * c ≤ own_zv R * c := Int.mul_le_mul_of_nonneg_right (by omega) (Int.le_of_lt hc)
  have p2 : own_zv R * c ≤ (N + 1) * g * c := Int.mul_le_mul_of_nonneg_right (by omega) (Int.le_of_lt hc)
  refine ⟨own_finle hn hV3.1 ?_, by omega, by omega⟩
  rw [← own_zmabs, ← own_zmabs, z3]
  have r1 : (N + 1) * g ≤ 9007199254740991 * g := Int.mul_le_mul_of_nonneg_right (by omega) (Int.le_of_lt gp)
  have r2 : (-9007199254740991) * g ≤ N * g := Int.mul_le_mul_of_nonneg_right (by omega) (Int.le_of_lt gp)
  omega
section
variable {a b : UInt64} (k : Nat) (G : Int)
theorem own_eadd (ha : Core.DFin a) (hb : Core.DFin b) (h1 : own_zv a + own_zv b ≤ 9007199254740990 * (G * own_E)) (h2 : -(9007199254740990 * (G * own_E)) ≤ own_zv a + own_zv b) (hG : ((2 ^ k : Nat) : Int) = G := by decide) (hk : k ≤ 1000 := by decide) :
    Core.DFin (FP.dadd a b) ∧ own_zv (FP.dadd a b) - (own_zv a + own_zv b) ≤ G * own_E ∧ -(G * own_E) ≤ own_zv (FP.dadd a b) - (own_zv a + own_zv b) := by
  have q := own_grid (R := FP.dadd a b) (e := own_zv a + own_zv b) (c := 1) (954 + k) (by omega) (own_GE k G hG) (by decide) (own_addne ha hb) (by omega) (by omega)
    (fun V hV h => own_addle ha hb (own_finne hV) (by omega)) (fun V hV h => own_addge ha hb (own_finne hV) (by omega))
  exact ⟨q.1, by omega, by omega⟩
theorem own_esub (ha : Core.DFin a) (hb : Core.DFin b) (h1 : own_zv a - own_zv b ≤ 9007199254740990 * (G * own_E)) (h2 : -(9007199254740990 * (G * own_E)) ≤ own_zv a - own_zv b) (hG : ((2 ^ k : Nat) : Int) = G := by decide) (hk : k ≤ 1000 := by decide) :
    Core.DFin (FP.dsub a b) ∧ own_zv (FP.dsub a b) - (own_zv a - own_zv b) ≤ G * own_E ∧ -(G * own_E) ≤ own_zv (FP.dsub a b) - (own_zv a - own_zv b) := by
  have q := own_grid (R := FP.dsub a b) (e := own_zv a - own_zv b) (c := 1) (954 + k) (by omega) (own_GE k G hG) (by decide) (own_subne ha hb) (by omega) (by omega)
    (fun V hV h => own_suble ha hb (own_finne hV) (by omega)) (fun V hV h => own_subge ha hb (own_finne hV) (by omega))
  exact ⟨q.1, by omega, by omega⟩
theorem own_emul (ha : Core.DFin a) (hb : Core.DFin b) (h1 : own_zv a * own_zv b ≤ 9007199254740990 * (G * own_E * (Core.one64 : Int))) (h2 : -(9007199254740990 * (G * own_E * (Core.one64 : Int))) ≤ own_zv a * own_zv b) (hG : ((2 ^ k : Nat) : Int) = G := by decide) (hk : k ≤ 1000 := by decide) :
    Core.DFin (FP.dmul a b) ∧ own_zv (FP.dmul a b) * (Core.one64 : Int) - own_zv a * own_zv b ≤ G * own_E * (Core.one64 : Int) ∧ -(G * own_E * (Core.one64 : Int)) ≤ own_zv (FP.dmul a b) * (Core.one64 : Int) - own_zv a * own_zv b :=
  own_grid (R := FP.dmul a b) (e := own_zv a * own_zv b) (c := (Core.one64 : Int)) (954 + k) (by omega) (own_GE k G hG) own_onepos (own_mulne ha hb) h1 h2
    (fun V hV h => own_mulle ha hb (own_finne hV) h) (fun V hV h => own_mulge ha hb (own_finne hV) h)
theorem own_ediv (ha : Core.DFin a) (hb : Core.DFin b) (hp : 0 < own_zv b) (h1 : own_zv a * (Core.one64 : Int) ≤ 9007199254740990 * (G * own_E * own_zv b)) (h2 : -(9007199254740990 * (G * own_E * own_zv b)) ≤ own_zv a * (Core.one64 : Int)) (hG : ((2 ^ k : Nat) : Int) = G := by decide) (hk : k ≤ 1000 := by decide) :
    Core.DFin (FP.ddiv a b) ∧ own_zv (FP.ddiv a b) * own_zv b - own_zv a * (Core.one64 : Int) ≤ G * own_E * own_zv b ∧ -(G * own_E * own_zv b) ≤ own_zv (FP.ddiv a b) * own_zv b - own_zv a * (Core.one64 : Int) :=
  own_grid (R := FP.ddiv a b) (e := own_zv a * (Core.one64 : Int)) (c := own_zv b) (954 + k) (by omega) (own_GE k G hG) hp (own_divsgn ha hb (by rw [← own_zmabs]; omega)).2 h1 h2
    (fun V hV h => own_divleP ha hb hp (own_finne hV) h) (fun V hV h => own_divgeP ha hb hp (own_finne hV) h)
end
theorem own_cancel {x y c : Int} (hc : 0 < c) (h : x * c ≤ y * c) : x ≤ y := Int.le_of_mul_le_mul_right h hc
section
variable {a b : UInt64} {cm : Int} (k : Nat) (G : Int)
/-- a constant times a double -/
theorem own_cmul (ha : Core.DFin a) (hb : Core.DFin b) (hc : own_zv a = cm * own_E) (h1 : cm * own_zv b ≤ 9007199254740990 * (G * 1329227995784915872903807060280344576 * own_E)) (h2 : -(9007199254740990 * (G * 1329227995784915872903807060280344576 * own_E)) ≤ cm * own_zv b) (hG : ((2 ^ k : Nat) : Int) = G := by decide) (hk : k ≤ 1000 := by decide) :
    Core.DFin (FP.dmul a b) ∧ own_zv (FP.dmul a b) * 1329227995784915872903807060280344576 - cm * own_zv b ≤ G * 1329227995784915872903807060280344576 * own_E ∧ -(G * 1329227995784915872903807060280344576 * own_E) ≤ own_zv (FP.dmul a b) * 1329227995784915872903807060280344576 - cm * own_zv b := by
  have e1 : own_zv a * own_zv b = (cm * own_zv b) * own_E := by rw [hc]; simp only [Int.mul_assoc, Int.mul_left_comm, Int.mul_comm]
  have e2 : G * own_E * (Core.one64 : Int) = (G * 1329227995784915872903807060280344576 * own_E) * own_E := by rw [own_OE]; simp only [Int.mul_assoc, Int.mul_left_comm, Int.mul_comm]
  have e3 : ∀ z : Int, z * (Core.one64 : Int) = (z * 1329227995784915872903807060280344576) * own_E := fun z => by rw [own_OE]; simp only [Int.mul_assoc]
  have q := own_emul k G ha hb (by rw [e1, e2, ← Int.mul_assoc]; exact Int.mul_le_mul_of_nonneg_right (by omega) (Int.le_of_lt own_Epos)) (by rw [e1, e2, ← Int.mul_assoc, ← Int.neg_mul]; exact Int.mul_le_mul_of_nonneg_right (by omega) (Int.le_of_lt own_Epos)) hG hk
  rw [e1, e2, e3, ← Int.sub_mul, ← Int.neg_mul] at q
  exact ⟨q.1, own_cancel own_Epos q.2.1, own_cancel own_Epos q.2.2⟩
theorem own_mulc (ha : Core.DFin a) (hb : Core.DFin b) (hc : own_zv b = cm * own_E) (h1 : cm * own_zv a ≤ 9007199254740990 * (G * 1329227995784915872903807060280344576 * own_E)) (h2 : -(9007199254740990 * (G * 1329227995784915872903807060280344576 * own_E)) ≤ cm * own_zv a) (hG : ((2 ^ k : Nat) : Int) = G := by decide) (hk : k ≤ 1000 := by decide) :
    Core.DFin (FP.dmul a b) ∧ own_zv (FP.dmul a b) * 1329227995784915872903807060280344576 - cm * own_zv a ≤ G * 1329227995784915872903807060280344576 * own_E ∧ -(G * 1329227995784915872903807060280344576 * own_E) ≤ own_zv (FP.dmul a b) * 1329227995784915872903807060280344576 - cm * own_zv a := by
  have e1 : own_zv a * own_zv b = (cm * own_zv a) * own_E := by rw [hc]; simp only [Int.mul_assoc, Int.mul_left_comm, Int.mul_comm]
  have e2 : G * own_E * (Core.one64 : Int) = (G * 1329227995784915872903807060280344576 * own_E) * own_E := by rw [own_OE]; simp only [Int.mul_assoc, Int.mul_left_comm, Int.mul_comm]
  have e3 : ∀ z : Int, z * (Core.one64 : Int) = (z * 1329227995784915872903807060280344576) * own_E := fun z => by rw [own_OE]; simp only [Int.mul_assoc]
  have q := own_emul k G ha hb (by rw [e1, e2, ← Int.mul_assoc]; exact Int.mul_le_mul_of_nonneg_right (by omega) (Int.le_of_lt own_Epos)) (by rw [e1, e2, ← Int.mul_assoc, ← Int.neg_mul]; exact Int.mul_le_mul_of_nonneg_right (by omega) (Int.le_of_lt own_Epos)) hG hk
  rw [e1, e2, e3, ← Int.sub_mul, ← Int.neg_mul] at q
  exact ⟨q.1, own_cancel own_Epos q.2.1, own_cancel own_Epos q.2.2⟩
theorem own_divc (ha : Core.DFin a) (hb : Core.DFin b) (hc : own_zv b = cm * own_E) (hp : 0 < cm) (h1 : own_zv a * 1329227995784915872903807060280344576 ≤ 9007199254740990 * (G * cm * own_E)) (h2 : -(9007199254740990 * (G * cm * own_E)) ≤ own_zv a * 1329227995784915872903807060280344576) (hG : ((2 ^ k : Nat) : Int) = G := by decide) (hk : k ≤ 1000 := by decide) :
    Core.DFin (FP.ddiv a b) ∧ own_zv (FP.ddiv a b) * cm - own_zv a * 1329227995784915872903807060280344576 ≤ G * cm * own_E ∧ -(G * cm * own_E) ≤ own_zv (FP.ddiv a b) * cm - own_zv a * 1329227995784915872903807060280344576 := by
  have e2 : G * own_E * own_zv b = (G * cm * own_E) * own_E := by rw [hc]; simp only [Int.mul_assoc, Int.mul_left_comm, Int.mul_comm]
  have e3 : ∀ z : Int, z * (Core.one64 : Int) = (z * 1329227995784915872903807060280344576) * own_E := fun z => by rw [own_OE]; simp only [Int.mul_assoc]
  have e4 : ∀ z : Int, z * own_zv b = (z * cm) * own_E := fun z => by rw [hc]; simp only [Int.mul_assoc]
  have q := own_ediv k G ha hb (by rw [hc]; exact Int.mul_pos hp own_Epos) (by rw [e2, e3, ← Int.mul_assoc]; exact Int.mul_le_mul_of_nonneg_right (by omega) (Int.le_of_lt own_Epos)) (by rw [e2, e3, ← Int.mul_assoc, ← Int.neg_mul]; exact Int.mul_le_mul_of_nonneg_right (by omega) (Int.le_of_lt own_Epos)) hG hk
  rw [e2, e3, e4, ← Int.sub_mul, ← Int.neg_mul] at q
  exact ⟨q.1, own_cancel own_Epos q.2.1, own_cancel own_Epos q.2.2⟩
end
theorem own_absmul {x y p q : Int} (hx1 : x ≤ p) (hx2 : -p ≤ x) (hy1 : y ≤ q) (hy2 : -q ≤ y) : x * y ≤ p * q ∧ -(p * q) ≤ x * y := by
  have h := Nat.mul_le_mul (show x.natAbs ≤ p.natAbs by omega) (show y.natAbs ≤ q.natAbs by omega)
  rw [← Int.natAbs_mul, ← Int.natAbs_mul] at h
  have : 0 ≤ p * q := Int.mul_nonneg (by omega) (by omega)
  omega
/-- the product of two doubles of bounded size: size pE times qE -/
theorem own_bmul {a b : UInt64} (k : Nat) (G : Int) {p q r : Int} (ha : Core.DFin a) (hb : Core.DFin b) (a1 : own_zv a ≤ p * own_E) (a2 : -(p * own_E) ≤ own_zv a) (b1 : own_zv b ≤ q * own_E) (b2 : -(q * own_E) ≤ own_zv b)
    (hpq : p * q ≤ r * 1329227995784915872903807060280344576) (hr : r ≤ 9007199254740990 * G) (hG : ((2 ^ k : Nat) : Int) = G := by decide) (hk : k ≤ 1000 := by decide) :
    Core.DFin (FP.dmul a b) ∧ own_zv (FP.dmul a b) ≤ (r + G) * own_E ∧ -((r + G) * own_E) ≤ own_zv (FP.dmul a b) := by
  have EE : 0 ≤ own_E * own_E := Int.le_of_lt (Int.mul_pos own_Epos own_Epos)
  obtain ⟨m1, m2⟩ := own_absmul a1 a2 b1 b2
  have e1 : p * own_E * (q * own_E) = (p * q) * (own_E * own_E) := by simp only [Int.mul_assoc, Int.mul_left_comm, Int.mul_comm]
  have e2 : r * own_E * (Core.one64 : Int) = (r * 1329227995784915872903807060280344576) * (own_E * own_E) := by rw [own_OE]; simp only [Int.mul_assoc, Int.mul_left_comm, Int.mul_comm]
  have m3 : p * own_E * (q * own_E) ≤ r * own_E * (Core.one64 : Int) := by rw [e1, e2]; exact Int.mul_le_mul_of_nonneg_right hpq EE
  have m4 : r * own_E * (Core.one64 : Int) ≤ 9007199254740990 * (G * own_E * (Core.one64 : Int)) := by
    rw [← Int.mul_assoc, ← Int.mul_assoc]
    exact Int.mul_le_mul_of_nonneg_right (Int.mul_le_mul_of_nonneg_right hr (Int.le_of_lt own_Epos)) (Int.le_of_lt own_onepos)
  have q := own_emul k G ha hb (by omega) (by omega) hG hk
  have d1 : (r + G) * own_E * (Core.one64 : Int) = r * own_E * (Core.one64 : Int) + G * own_E * (Core.one64 : Int) := by rw [Int.add_mul, Int.add_mul]
  refine ⟨q.1, own_cancel own_onepos (by omega), own_cancel own_onepos (by rw [Int.neg_mul]; omega)⟩
/-- how far two products lie apart -/
theorem own_dmul2 {a b a' b' : UInt64} (k : Nat) (G : Int) {p q u v r : Int} (ha : Core.DFin a) (hb : Core.DFin b) (ha' : Core.DFin a') (hb' : Core.DFin b')
    (a1 : own_zv a ≤ p * own_E) (a2 : -(p * own_E) ≤ own_zv a) (b1 : own_zv b ≤ q * own_E) (b2 : -(q * own_E) ≤ own_zv b)
    (a1' : own_zv a' ≤ p * own_E) (a2' : -(p * own_E) ≤ own_zv a') (b1' : own_zv b' ≤ q * own_E) (b2' : -(q * own_E) ≤ own_zv b')
    (u1 : own_zv a' - own_zv a ≤ u * own_E) (u2 : -(u * own_E) ≤ own_zv a' - own_zv a) (v1 : own_zv b' - own_zv b ≤ v * own_E) (v2 : -(v * own_E) ≤ own_zv b' - own_zv b)
    (hpq : p * q ≤ 9007199254740990 * G * 1329227995784915872903807060280344576) (hr : p * v + u * q ≤ r * 1329227995784915872903807060280344576) (hG : ((2 ^ k : Nat) : Int) = G := by decide) (hk : k ≤ 1000 := by decide) :
    own_zv (FP.dmul a' b') - own_zv (FP.dmul a b) ≤ (r + 2 * G) * own_E ∧ -((r + 2 * G) * own_E) ≤ own_zv (FP.dmul a' b') - own_zv (FP.dmul a b) := by
  have EE : 0 ≤ own_E * own_E := Int.le_of_lt (Int.mul_pos own_Epos own_Epos)
  have cap : ∀ {x y : Int}, x ≤ p * own_E → -(p * own_E) ≤ x → y ≤ q * own_E → -(q * own_E) ≤ y → x * y ≤ 9007199254740990 * (G * own_E * (Core.one64 : Int)) ∧ -(9007199254740990 * (G * own_E * (Core.one64 : Int))) ≤ x * y := fun {x y} h1 h2 h3 h4 => by
    obtain ⟨m1, m2⟩ := own_absmul h1 h2 h3 h4
    have e1 : p * own_E * (q * own_E) = (p * q) * (own_E * own_E) := by simp only [Int.mul_assoc, Int.mul_left_comm, Int.mul_comm]
    have e2 : 9007199254740990 * (G * own_E * (Core.one64 : Int)) = (9007199254740990 * G * 1329227995784915872903807060280344576) * (own_E * own_E) := by rw [own_OE]; simp only [Int.mul_assoc, Int.mul_left_comm, Int.mul_comm]
    have m3 := Int.mul_le_mul_of_nonneg_right hpq EE
    omega
  obtain ⟨c1, c2⟩ := cap a1 a2 b1 b2
  obtain ⟨c3, c4⟩ := cap a1' a2' b1' b2'
  have q1 := own_emul k G ha hb c1 c2 hG hk
  have q2 := own_emul k G ha' hb' c3 c4 hG hk
  have s1 := own_absmul a1' a2' v1 v2
  have s2 := own_absmul u1 u2 b1 b2
  have t : own_zv a' * own_zv b' - own_zv a * own_zv b = own_zv a' * (own_zv b' - own_zv b) + (own_zv a' - own_zv a) * own_zv b := by rw [Int.mul_sub, Int.sub_mul]; omega
  have e3 : p * own_E * (v * own_E) + u * own_E * (q * own_E) = (p * v + u * q) * (own_E * own_E) := by rw [Int.add_mul]; simp only [Int.mul_assoc, Int.mul_left_comm, Int.mul_comm]
  have e4 : r * own_E * (Core.one64 : Int) = (r * 1329227995784915872903807060280344576) * (own_E * own_E) := by rw [own_OE]; simp only [Int.mul_assoc, Int.mul_left_comm, Int.mul_comm]
  have m4 := Int.mul_le_mul_of_nonneg_right hr EE
  have d1 : (r + 2 * G) * own_E * (Core.one64 : Int) = r * own_E * (Core.one64 : Int) + 2 * (G * own_E * (Core.one64 : Int)) := by rw [Int.add_mul, Int.add_mul]; simp only [Int.mul_assoc]
  have w := Int.sub_mul (own_zv (FP.dmul a' b')) (own_zv (FP.dmul a b)) (Core.one64 : Int)
  refine ⟨own_cancel own_onepos (by omega), own_cancel own_onepos (by rw [Int.neg_mul]; omega)⟩
end OwnErr
section OwnSid
open Jvm.FP Jvm.Free.Fl
abbrev own_sT (d : UInt64) : UInt64 := (FP.ddiv d (4675252771358769152 : UInt64))
abbrev own_sM (d : UInt64) : UInt64 := (FP.dmul (4748926635797512960 : UInt64) (own_sT d))
abbrev own_sA (d : UInt64) : UInt64 := (FP.dadd (4679361958876123245 : UInt64) (own_sM d))
abbrev own_sN (d : UInt64) : UInt64 := (FP.dmul (4528933693928425934 : UInt64) (own_sT d))
abbrev own_sX (d : UInt64) : UInt64 := (FP.dsub (4591373270898472171 : UInt64) (own_sN d))
abbrev own_sY (d : UInt64) : UInt64 := (FP.dmul (own_sX d) (own_sT d))
abbrev own_sW (d : UInt64) : UInt64 := (FP.dmul (own_sY d) (own_sT d))
abbrev own_sG (d : UInt64) : UInt64 := (FP.dadd (own_sA d) (own_sW d))
abbrev own_tR (g : UInt64) : UInt64 := (FP.drem g (4680673776000565248 : UInt64))
abbrev own_tQ (g : UInt64) : UInt64 := (FP.ddiv (own_tR g) (4680673776000565248 : UInt64))
abbrev own_tD (g : UInt64) : UInt64 := (FP.dmul (own_tQ g) (4611686018427387904 : UInt64))
abbrev own_tV (g : UInt64) : UInt64 := (FP.dmul (own_tD g) (4614256656552045848 : UInt64))
abbrev own_tF (g : UInt64) : UInt64 := if cmpValue (FP.dcmp (own_tV g) (0 : UInt64)) .g < (0 : Int32) then (FP.dadd (own_tV g) (4618760256179416344 : UInt64)) else own_tV g
def own_sid (d : UInt64) : UInt64 := own_tF (own_sG d)
def own_nice (d : UInt64) : Prop := NoNaN64 (own_sT d) ∧ NoNaN64 (own_sM d) ∧ NoNaN64 (own_sA d) ∧ NoNaN64 (own_sN d) ∧ NoNaN64 (own_sX d) ∧ NoNaN64 (own_sY d) ∧ NoNaN64 (own_sW d) ∧ NoNaN64 (own_sG d) ∧ NoNaN64 (own_tR (own_sG d)) ∧ NoNaN64 (own_tQ (own_sG d)) ∧ NoNaN64 (own_tD (own_sG d)) ∧ NoNaN64 (own_tV (own_sG d)) ∧ NoNaN64 (FP.dadd (own_tV (own_sG d)) (4618760256179416344 : UInt64))
theorem own_kf {a : UInt64} {s : Bool} {c : Nat} {q : Int} (h : Core.val64 a = .fin s c q) : Core.DFin a := ⟨s, c, q, h⟩
theorem k36525 : Core.DFin (4675252771358769152 : UInt64) ∧ own_zv (4675252771358769152 : UInt64) = 48550052546044052257811552876739585638400 * own_E := ⟨⟨false, 5019957775564800, -37, by decide +kernel⟩, by decide +kernel⟩
theorem k19 : Core.DFin (4679361958876123245 : UInt64) ∧ own_zv (4679361958876123245 : UInt64) = 89471065358207859877502141456774124797952 * own_E := ⟨⟨false, 4625545665548397, -36, by decide +kernel⟩, by decide +kernel⟩
theorem k21 : Core.DFin (4748926635797512960 : UInt64) ∧ own_zv (4748926635797512960 : UInt64) = 4206209315520223537047059462676139438386446336 * own_E := ⟨⟨false, 6636228176380672, -21, by decide +kernel⟩, by decide +kernel⟩
theorem k23 : Core.DFin (4591373270898472171 : UInt64) ∧ own_zv (4591373270898472171 : UInt64) = 123756443319558815670184973527154688 * own_E := ⟨⟨false, 6708850235307243, -56, by decide +kernel⟩, by decide +kernel⟩
theorem k25 : Core.DFin (4528933693928425934 : UInt64) ∧ own_zv (4528933693928425934 : UInt64) = 8241213573866478320548105420800 * own_E := ⟨⟨false, 7319668048447950, -70, by decide +kernel⟩, by decide +kernel⟩
theorem k864 : Core.DFin (4680673776000565248 : UInt64) ∧ own_zv (4680673776000565248 : UInt64) = 114845298835816731418888930008221771366400 * own_E := ⟨⟨false, 5937362789990400, -36, by decide +kernel⟩, by decide +kernel⟩
theorem k2 : Core.DFin (4611686018427387904 : UInt64) ∧ own_zv (4611686018427387904 : UInt64) = 2658455991569831745807614120560689152 * own_E := ⟨⟨false, 4503599627370496, -51, by decide +kernel⟩, by decide +kernel⟩
theorem kpi : Core.DFin (4614256656552045848 : UInt64) ∧ own_zv (4614256656552045848 : UInt64) = 4175892906503776196043395420158689280 * own_E := ⟨⟨false, 7074237752028440, -51, by decide +kernel⟩, by decide +kernel⟩
theorem k2pi : Core.DFin (4618760256179416344 : UInt64) ∧ own_zv (4618760256179416344 : UInt64) = 8351785813007552392086790840317378560 * own_E := ⟨⟨false, 7074237752028440, -50, by decide +kernel⟩, by decide +kernel⟩
theorem ke9 : Core.DFin (4741671816366391296 : UInt64) ∧ own_zv (4741671816366391296 : UInt64) = 1329227995784915872903807060280344576000000000 * own_E := ⟨⟨false, 8388608000000000, -23, by decide +kernel⟩, by decide +kernel⟩
theorem klo : Core.DFin (4580615302692910451 : UInt64) ∧ own_zv (4580615302692910451 : UInt64) = 22865114137892965503085589362114560 * own_E := ⟨⟨false, 4958081284486515, -58, by decide +kernel⟩, by decide +kernel⟩
theorem khi : Core.DFin (4580615879153662755 : UInt64) ∧ own_zv (4580615879153662755 : UInt64) = 22867772593884537993523726831845376 * own_E := ⟨⟨false, 4958657745238819, -58, by decide +kernel⟩, by decide +kernel⟩
theorem k1 : Core.DFin (4607182418800017408 : UInt64) ∧ own_zv (4607182418800017408 : UInt64) = 1329227995784915872903807060280344576 * own_E := ⟨⟨false, 4503599627370496, -52, by decide +kernel⟩, by decide +kernel⟩
theorem km1 : Core.DFin (13830554455654793216 : UInt64) ∧ own_zv (13830554455654793216 : UInt64) = (-1329227995784915872903807060280344576) * own_E := ⟨⟨true, 4503599627370496, -52, by decide +kernel⟩, by decide +kernel⟩
theorem km2 : Core.DFin (13835058055282163712 : UInt64) ∧ own_zv (13835058055282163712 : UInt64) = (-2658455991569831745807614120560689152) * own_E := ⟨⟨true, 4503599627370496, -51, by decide +kernel⟩, by decide +kernel⟩
theorem k0 : Core.DFin (0 : UInt64) ∧ own_zv (0 : UInt64) = 0 * own_E := ⟨⟨false, 0, -1074, by decide +kernel⟩, by decide +kernel⟩
theorem km2pi : Core.DFin (13842132293034192152 : UInt64) ∧ own_zv (13842132293034192152 : UInt64) = (-8351785813007552392086790840317378560) * own_E := ⟨⟨true, 7074237752028440, -50, by decide +kernel⟩, by decide +kernel⟩
theorem own_rem1 {g : UInt64} (hg : Core.DFin g) : Core.DFin (own_tR g) ∧ own_zv (own_tR g) ≤ 114845298835816731418888930008221771366400 * own_E ∧ -(114845298835816731418888930008221771366400 * own_E) ≤ own_zv (own_tR g) ∧ ∃ n : Int, own_zv (own_tR g) = own_zv g - n * (114845298835816731418888930008221771366400 * own_E) := by
  have Ep := own_Epos
  have c6 := k864.2
  have rc := own_zmabs (4680673776000565248 : UInt64)
  have zz : ((own_zm (4680673776000565248 : UInt64) : Nat) : Int) = 114845298835816731418888930008221771366400 * own_E := by rw [← rc]; omega
  obtain ⟨r1, r2, r3⟩ := Core.drem_zval hg (own_finne k864.1) (Core.dnot_zero (own_finne k864.1) (by show own_zv _ ≠ 0; omega))
  have e2 : Core.sgn (Core.val64 (own_tR g)) = Core.sgn (Core.val64 g) := r2
  have e3 : own_zm (own_tR g) = own_zm g % own_zm (4680673776000565248 : UInt64) := r3
  have e1 : Core.val64 (own_tR g) ≠ .nan := r1
  clear r1 r2 r3
  generalize own_tR g = R at *
  have rz : ∃ n : Int, own_zv R = own_zv g - n * (114845298835816731418888930008221771366400 * own_E) := by
    have m := Nat.div_add_mod (own_zm g) (own_zm (4680673776000565248 : UInt64))
    rw [own_zvs R, own_zvs g, e2, e3]
    rw [← zz]
    generalize own_zm (4680673776000565248 : UInt64) = C at *
    generalize own_zm g = A at *
    have mi : (A : Int) = ((A / C : Nat) : Int) * (C : Int) + ((A % C : Nat) : Int) := by rw [← Int.natCast_mul, ← Int.natCast_add, Nat.mul_comm, m]
    cases Core.sgn (Core.val64 g) with
    | false => refine ⟨((A / C : Nat) : Int), ?_⟩; rw [own_sgF, own_sgF]; omega
    | true => refine ⟨-((A / C : Nat) : Int), ?_⟩; rw [own_sgT, own_sgT, Int.neg_mul]; omega
  have rb : own_zm R < own_zm (4680673776000565248 : UInt64) := by rw [e3]; exact Nat.mod_lt _ (by omega)
  have ra := own_zmabs R
  exact ⟨own_finle e1 k864.1 (Nat.le_of_lt rb), by omega, by omega, rz⟩
/-- the second of the day to the angle, before the sign is mended -/
theorem own_tl1 {R : UInt64} (hR : Core.DFin R) (h1 : own_zv R ≤ 114845298835816731418888930008221771366400 * own_E) (h2 : -(114845298835816731418888930008221771366400 * own_E) ≤ own_zv R) :
    Core.DFin (FP.ddiv R (4680673776000565248 : UInt64)) ∧ own_zv (FP.ddiv R (4680673776000565248 : UInt64)) ≤ 1329227995784915872903807060280344576 * own_E ∧ -(1329227995784915872903807060280344576 * own_E) ≤ own_zv (FP.ddiv R (4680673776000565248 : UInt64)) ∧
    own_zv (FP.ddiv R (4680673776000565248 : UInt64)) * 86400 - own_zv R ≤ 295147905179352825856 * 86400 * own_E ∧ -(295147905179352825856 * 86400 * own_E) ≤ own_zv (FP.ddiv R (4680673776000565248 : UInt64)) * 86400 - own_zv R := by
  have Ep := own_Epos
  have c6 := k864.2
  have hQ := own_divc 68 295147905179352825856 hR k864.1 c6 (by decide) (by omega) (by omega)
  have q1 := own_divleP (V := 4607182418800017408) hR k864.1 (by omega) (own_finne k1.1) (by rw [k1.2, c6, own_OE, Int.mul_comm (own_zv R)]; exact Int.mul_le_mul_of_nonneg_left h1 (by omega))
  have q2 := own_divgeP (V := 13830554455654793216) hR k864.1 (by omega) (own_finne km1.1) (by rw [km1.2, c6, own_OE, Int.neg_mul, Int.neg_mul, ← Int.mul_neg, Int.mul_comm (own_zv R)]; exact Int.mul_le_mul_of_nonneg_left h2 (by omega))
  rw [k1.2] at q1; rw [km1.2] at q2
  refine ⟨hQ.1, q1, by omega, by omega, by omega⟩
theorem own_tl2 {Q : UInt64} (hQ : Core.DFin Q) (h1 : own_zv Q ≤ 1329227995784915872903807060280344576 * own_E) (h2 : -(1329227995784915872903807060280344576 * own_E) ≤ own_zv Q) :
    Core.DFin (FP.dmul Q (4611686018427387904 : UInt64)) ∧ own_zv (FP.dmul Q (4611686018427387904 : UInt64)) ≤ 2658455991569831745807614120560689152 * own_E ∧ -(2658455991569831745807614120560689152 * own_E) ≤ own_zv (FP.dmul Q (4611686018427387904 : UInt64)) ∧
    own_zv (FP.dmul Q (4611686018427387904 : UInt64)) - 2 * own_zv Q ≤ 590295810358705651712 * own_E ∧ -(590295810358705651712 * own_E) ≤ own_zv (FP.dmul Q (4611686018427387904 : UInt64)) - 2 * own_zv Q := by
  have Ep := own_Epos
  have c2 := k2.2
  have hD := own_mulc 69 590295810358705651712 hQ k2.1 c2 (by omega) (by omega)
  have q1 := own_mulle (V := 4611686018427387904) hQ k2.1 (own_finne k2.1) (by rw [k2.2, own_OE, Int.mul_comm (own_zv Q)]; exact Int.mul_le_mul_of_nonneg_left h1 (by omega))
  have q2 := own_mulge (V := 13835058055282163712) hQ k2.1 (own_finne km2.1) (by rw [km2.2, k2.2, own_OE, Int.neg_mul, Int.neg_mul, ← Int.mul_neg, Int.mul_comm (own_zv Q)]; exact Int.mul_le_mul_of_nonneg_left h2 (by omega))
  rw [k2.2] at q1; rw [km2.2] at q2
  refine ⟨hD.1, q1, by omega, by omega, by omega⟩
theorem own_pp : 4175892906503776196043395420158689280 * own_E * (2658455991569831745807614120560689152 * own_E) = 8351785813007552392086790840317378560 * own_E * (1329227995784915872903807060280344576 * own_E) := by
  have e : ∀ x y : Int, x * own_E * (y * own_E) = (x * y) * (own_E * own_E) := fun x y => by simp only [Int.mul_assoc, Int.mul_left_comm, Int.mul_comm]
  rw [e, e]; congr 1
theorem own_tl3 {D : UInt64} (hD : Core.DFin D) (h1 : own_zv D ≤ 2658455991569831745807614120560689152 * own_E) (h2 : -(2658455991569831745807614120560689152 * own_E) ≤ own_zv D) :
    Core.DFin (FP.dmul D (4614256656552045848 : UInt64)) ∧ own_zv (FP.dmul D (4614256656552045848 : UInt64)) ≤ 8351785813007552392086790840317378560 * own_E ∧ -(8351785813007552392086790840317378560 * own_E) ≤ own_zv (FP.dmul D (4614256656552045848 : UInt64)) ∧
    own_zv (FP.dmul D (4614256656552045848 : UInt64)) * 1329227995784915872903807060280344576 - 4175892906503776196043395420158689280 * own_zv D ≤ 2361183241434822606848 * 1329227995784915872903807060280344576 * own_E ∧ -(2361183241434822606848 * 1329227995784915872903807060280344576 * own_E) ≤ own_zv (FP.dmul D (4614256656552045848 : UInt64)) * 1329227995784915872903807060280344576 - 4175892906503776196043395420158689280 * own_zv D := by
  have Ep := own_Epos
  have c3 := kpi.2
  have hV := own_mulc 71 2361183241434822606848 hD kpi.1 c3 (by omega) (by omega)
  have q1 := own_mulle (V := 4618760256179416344) hD kpi.1 (own_finne k2pi.1) (by rw [kpi.2, k2pi.2, own_OE, ← own_pp, Int.mul_comm (own_zv D)]; exact Int.mul_le_mul_of_nonneg_left h1 (by omega))
  have q2 := own_mulge (V := 13842132293034192152) hD kpi.1 (own_finne km2pi.1) (by rw [kpi.2, km2pi.2, own_OE, Int.neg_mul, Int.neg_mul, ← own_pp, ← Int.mul_neg, Int.mul_comm (own_zv D)]; exact Int.mul_le_mul_of_nonneg_left h2 (by omega))
  rw [k2pi.2] at q1; rw [km2pi.2] at q2
  refine ⟨hV.1, q1, by omega, by omega, by omega⟩
theorem own_tl4 {V : UInt64} (hV : Core.DFin V) (h1 : own_zv V ≤ 8351785813007552392086790840317378560 * own_E) (h2 : -(8351785813007552392086790840317378560 * own_E) ≤ own_zv V) :
    Core.DFin (FP.dadd V (4618760256179416344 : UInt64)) ∧ own_zv (FP.dadd V (4618760256179416344 : UInt64)) - (own_zv V + 8351785813007552392086790840317378560 * own_E) ≤ 4722366482869645213696 * own_E ∧ -(4722366482869645213696 * own_E) ≤ own_zv (FP.dadd V (4618760256179416344 : UInt64)) - (own_zv V + 8351785813007552392086790840317378560 * own_E) ∧
    0 ≤ own_zv (FP.dadd V (4618760256179416344 : UInt64)) ∧ (own_zv V ≤ 0 → own_zv (FP.dadd V (4618760256179416344 : UInt64)) ≤ 8351785813007552392086790840317378560 * own_E) := by
  have Ep := own_Epos
  have c := k2pi.2
  have hF := own_eadd 72 4722366482869645213696 hV k2pi.1 (by omega) (by omega)
  have q2 := own_addge (V := 0) hV k2pi.1 (own_finne k0.1) (by rw [k0.2]; omega)
  rw [k0.2] at q2
  refine ⟨hF.1, by omega, by omega, by omega, fun h => ?_⟩
  have q1 := own_addle (V := 4618760256179416344) hV k2pi.1 (own_finne k2pi.1) (by omega)
  omega
theorem own_cltz {V : UInt64} (hV : Core.DFin V) : cmpValue (FP.dcmp V (0 : UInt64)) .g < (0 : Int32) ↔ own_zv V < 0 := by
  have q := own_cmpv (own_finne hV) (own_finne k0.1) .g
  rw [k0.2, Int.zero_mul] at q
  constructor
  · intro h
    rcases Int.lt_trichotomy (own_zv V) 0 with w | w | w
    · exact w
    · rw [q.2.1 w] at h; exact absurd h (by decide)
    · rw [q.2.2 w] at h; exact absurd h (by decide)
  · intro w; rw [q.1 w]; decide
theorem own_tail1 {g : UInt64} (hg : Core.DFin g) : (NoNaN64 (own_tR g) ∧ NoNaN64 (own_tQ g) ∧ NoNaN64 (own_tD g) ∧ NoNaN64 (own_tV g) ∧ NoNaN64 (FP.dadd (own_tV g) (4618760256179416344 : UInt64))) ∧ Core.DFin (own_tF g) ∧ 0 ≤ own_zv (own_tF g) ∧ own_zv (own_tF g) ≤ 8351785813007552392086790840317378560 * own_E ∧
    ∃ n W : Int, W = own_zv g - n * (114845298835816731418888930008221771366400 * own_E) ∧ 114845298835816731418888930008221771366400 * own_zv (own_tF g) - 8351785813007552392086790840317378560 * W ≤ 114845298835816731418888930008221771366400 * 37778931862957161709568 * own_E ∧ -(114845298835816731418888930008221771366400 * 37778931862957161709568 * own_E) ≤ 114845298835816731418888930008221771366400 * own_zv (own_tF g) - 8351785813007552392086790840317378560 * W := by
  have Ep := own_Epos
  obtain ⟨hR, r1, r2, n, rz⟩ := own_rem1 hg
  show (NoNaN64 (own_tR g) ∧ NoNaN64 (FP.ddiv (own_tR g) _) ∧ NoNaN64 (FP.dmul (FP.ddiv (own_tR g) _) _) ∧ NoNaN64 (FP.dmul (FP.dmul (FP.ddiv (own_tR g) _) _) _) ∧ NoNaN64 (FP.dadd (FP.dmul (FP.dmul (FP.ddiv (own_tR g) _) _) _) _)) ∧ _
  have key : own_tF g = if cmpValue (FP.dcmp (FP.dmul (FP.dmul (FP.ddiv (own_tR g) (4680673776000565248 : UInt64)) (4611686018427387904 : UInt64)) (4614256656552045848 : UInt64)) (0 : UInt64)) .g < (0 : Int32) then (FP.dadd (FP.dmul (FP.dmul (FP.ddiv (own_tR g) (4680673776000565248 : UInt64)) (4611686018427387904 : UInt64)) (4614256656552045848 : UInt64)) (4618760256179416344 : UInt64)) else (FP.dmul (FP.dmul (FP.ddiv (own_tR g) (4680673776000565248 : UInt64)) (4611686018427387904 : UInt64)) (4614256656552045848 : UInt64)) := rfl
  rw [key]; clear key
  generalize own_tR g = R at *
  obtain ⟨hQ, q1, q2, q3, q4⟩ := own_tl1 hR r1 r2
  generalize FP.ddiv R (4680673776000565248 : UInt64) = Q at *
  obtain ⟨hD, d1, d2, d3, d4⟩ := own_tl2 hQ q1 q2
  generalize FP.dmul Q (4611686018427387904 : UInt64) = D at *
  obtain ⟨hV, v1, v2, v3, v4⟩ := own_tl3 hD d1 d2
  generalize FP.dmul D (4614256656552045848 : UInt64) = V at *
  obtain ⟨hF, f1, f2, f3, f4⟩ := own_tl4 hV v1 v2
  generalize FP.dadd V (4618760256179416344 : UInt64) = F at *
  refine ⟨⟨own_finnn hR, own_finnn hQ, own_finnn hD, own_finnn hV, own_finnn hF⟩, ?_⟩
  by_cases hl : cmpValue (FP.dcmp V (0 : UInt64)) .g < (0 : Int32)
  · rw [if_pos hl]
    have hz := (own_cltz hV).mp hl
    refine ⟨hF, f3, f4 (by omega), n - 1, own_zv R + 114845298835816731418888930008221771366400 * own_E, ?_, by omega, by omega⟩
    rw [Int.sub_mul, Int.one_mul]; omega
  · rw [if_neg hl]
    have hz : ¬ own_zv V < 0 := fun w => hl ((own_cltz hV).mpr w)
    exact ⟨hV, by omega, v1, n, own_zv R, rz, by omega, by omega⟩
theorem own_gen {d : UInt64} (hd : Core.DFin d) (h1 : own_zv d ≤ 730750818665451459101842416358141509827966271488 * own_E) (h2 : -(730750818665451459101842416358141509827966271488 * own_E) ≤ own_zv d) : (NoNaN64 (own_sT d) ∧ NoNaN64 (own_sM d) ∧ NoNaN64 (own_sA d) ∧ NoNaN64 (own_sN d) ∧ NoNaN64 (own_sX d) ∧ NoNaN64 (own_sY d) ∧ NoNaN64 (own_sW d)) ∧ Core.DFin (own_sG d) := by
  have Ep := own_Epos
  have hT := own_divc 92 4951760157141521099596496896 hd k36525.1 k36525.2 (by decide) (by omega) (by omega)
  show (NoNaN64 (FP.ddiv d (4675252771358769152 : UInt64)) ∧ NoNaN64 (FP.dmul _ (FP.ddiv d (4675252771358769152 : UInt64))) ∧ NoNaN64 (FP.dadd _ (FP.dmul _ (FP.ddiv d (4675252771358769152 : UInt64)))) ∧ NoNaN64 (FP.dmul _ (FP.ddiv d (4675252771358769152 : UInt64))) ∧ NoNaN64 (FP.dsub _ (FP.dmul _ (FP.ddiv d (4675252771358769152 : UInt64)))) ∧ NoNaN64 (FP.dmul (FP.dsub _ (FP.dmul _ (FP.ddiv d (4675252771358769152 : UInt64)))) (FP.ddiv d (4675252771358769152 : UInt64))) ∧ NoNaN64 (FP.dmul (FP.dmul (FP.dsub _ (FP.dmul _ (FP.ddiv d (4675252771358769152 : UInt64)))) (FP.ddiv d (4675252771358769152 : UInt64))) (FP.ddiv d (4675252771358769152 : UInt64)))) ∧ Core.DFin (FP.dadd (FP.dadd _ (FP.dmul _ (FP.ddiv d (4675252771358769152 : UInt64)))) (FP.dmul (FP.dmul (FP.dsub _ (FP.dmul _ (FP.ddiv d (4675252771358769152 : UInt64)))) (FP.ddiv d (4675252771358769152 : UInt64))) (FP.ddiv d (4675252771358769152 : UInt64))))
  generalize FP.ddiv d (4675252771358769152 : UInt64) = T at *
  have t1 : own_zv T ≤ 22300745198530623141535718272648361505980416 * own_E := by omega
  have t2 : -(22300745198530623141535718272648361505980416 * own_E) ≤ own_zv T := by omega
  have hM := own_cmul 124 21267647932558653966460912964485513216 k21.1 hT.1 k21.2 (by omega) (by omega)
  have hN := own_cmul 75 37778931862957161709568 k25.1 hT.1 k25.2 (by omega) (by omega)
  generalize FP.dmul (4748926635797512960 : UInt64) T = M at *
  generalize FP.dmul (4528933693928425934 : UInt64) T = N at *
  have c19 := k19.2
  have c23 := k23.2
  have hA := own_eadd 125 42535295865117307932921825928971026432 k19.1 hM.1 (by omega) (by omega)
  have hX := own_esub 76 75557863725914323419136 k23.1 hN.1 (by omega) (by omega)
  generalize FP.dadd (4679361958876123245 : UInt64) M = A at *
  generalize FP.dsub (4591373270898472171 : UInt64) N = X at *
  have hY := own_bmul 100 1267650600228229401496703205376 (p := 340282366920938463463374607431768211456) (q := 22300745198530623141535718272648361505980416) (r := 5708990770823839524233143877797980545530986496) hX.1 hT.1 (by omega) (by omega) t1 t2 (by decide) (by decide)
  generalize FP.dmul X T = Y at *
  have hW := own_bmul 125 42535295865117307932921825928971026432 (p := 11417981541647679048466287755595961091061972992) (q := 22300745198530623141535718272648361505980416) (r := 191561942608236107294793378393788647952342390272950272) hY.1 hT.1 (by omega) (by omega) t1 t2 (by decide) (by decide)
  generalize FP.dmul Y T = W at *
  have hG := own_eadd 127 170141183460469231731687303715884105728 hA.1 hW.1 (by omega) (by omega)
  exact ⟨⟨own_finnn hT.1, own_finnn hM.1, own_finnn hA.1, own_finnn hN.1, own_finnn hX.1, own_finnn hY.1, own_finnn hW.1⟩, hG.1⟩
theorem own_sidok {d : UInt64} (hd : Core.DFin d) (h1 : own_zv d ≤ 730750818665451459101842416358141509827966271488 * own_E) (h2 : -(730750818665451459101842416358141509827966271488 * own_E) ≤ own_zv d) : own_nice d ∧ Core.DFin (own_sid d) ∧ 0 ≤ own_zv (own_sid d) ∧ own_zv (own_sid d) ≤ 8351785813007552392086790840317378560 * own_E := by
  obtain ⟨⟨a1, a2, a3, a4, a5, a6, a7⟩, hG⟩ := own_gen hd h1 h2
  obtain ⟨⟨b1, b2, b3, b4, b5⟩, c1, c2, c3, _⟩ := own_tail1 hG
  exact ⟨⟨a1, a2, a3, a4, a5, a6, a7, own_finnn hG, b1, b2, b3, b4, b5⟩, c1, c2, c3⟩
theorem own_fine {T d : UInt64} (hT : Core.DFin T) (e1 : own_zv T * 36525 - own_zv d ≤ 1180591620717411303424 * 36525 * own_E) (e2 : -(1180591620717411303424 * 36525 * own_E) ≤ own_zv T * 36525 - own_zv d) (h1 : own_zv d ≤ 100002 * 1329227995784915872903807060280344576 * own_E) (h2 : -(100002 * 1329227995784915872903807060280344576 * own_E) ≤ own_zv d) :
    ∃ M N X Y W : UInt64, M = FP.dmul (4748926635797512960 : UInt64) T ∧ N = FP.dmul (4528933693928425934 : UInt64) T ∧ X = FP.dsub (4591373270898472171 : UInt64) N ∧ Y = FP.dmul X T ∧ W = FP.dmul Y T ∧ Core.DFin X ∧ Core.DFin Y ∧ Core.DFin W ∧
      (own_zv T ≤ 5316911983139663491615228241121378304 * own_E ∧ -(5316911983139663491615228241121378304 * own_E) ≤ own_zv T) ∧ (own_zv X ≤ 166153499473114484112975882535043072 * own_E ∧ -(166153499473114484112975882535043072 * own_E) ≤ own_zv X) ∧ (own_zv Y ≤ 1329227995784915872903807060280344576 * own_E ∧ -(1329227995784915872903807060280344576 * own_E) ≤ own_zv Y) ∧
      (own_zv M * 1329227995784915872903807060280344576 - 4206209315520223537047059462676139438386446336 * own_zv T ≤ 5070602400912917605986812821504 * 1329227995784915872903807060280344576 * own_E ∧ -(5070602400912917605986812821504 * 1329227995784915872903807060280344576 * own_E) ≤ own_zv M * 1329227995784915872903807060280344576 - 4206209315520223537047059462676139438386446336 * own_zv T) ∧
      (own_zv N * 1329227995784915872903807060280344576 - 8241213573866478320548105420800 * own_zv T ≤ 9007199254740992 * 1329227995784915872903807060280344576 * own_E ∧ -(9007199254740992 * 1329227995784915872903807060280344576 * own_E) ≤ own_zv N * 1329227995784915872903807060280344576 - 8241213573866478320548105420800 * own_zv T) ∧
      (own_zv X - (123756443319558815670184973527154688 * own_E - own_zv N) ≤ 36893488147419103232 * own_E ∧ -(36893488147419103232 * own_E) ≤ own_zv X - (123756443319558815670184973527154688 * own_E - own_zv N)) ∧
      (own_zv (FP.dadd (FP.dadd (4679361958876123245 : UInt64) M) W) - (89471065358207859877502141456774124797952 * own_E + own_zv M + own_zv W) ≤ 10141204801825835211973625643008 * own_E ∧ -(10141204801825835211973625643008 * own_E) ≤ own_zv (FP.dadd (FP.dadd (4679361958876123245 : UInt64) M) W) - (89471065358207859877502141456774124797952 * own_E + own_zv M + own_zv W)) := by
  have Ep := own_Epos
  have t1 : own_zv T ≤ 5316911983139663491615228241121378304 * own_E := by omega
  have t2 : -(5316911983139663491615228241121378304 * own_E) ≤ own_zv T := by omega
  have hM := own_cmul 102 5070602400912917605986812821504 k21.1 hT k21.2 (by omega) (by omega)
  have hN := own_cmul 53 9007199254740992 k25.1 hT k25.2 (by omega) (by omega)
  have c19 := k19.2
  have c23 := k23.2
  refine ⟨_, _, _, _, _, rfl, rfl, rfl, rfl, rfl, ?_⟩
  generalize FP.dmul (4748926635797512960 : UInt64) T = M at *
  generalize FP.dmul (4528933693928425934 : UInt64) T = N at *
  have hA := own_eadd 102 5070602400912917605986812821504 k19.1 hM.1 (by omega) (by omega)
  have hX := own_esub 65 36893488147419103232 k23.1 hN.1 (by omega) (by omega)
  generalize FP.dadd (4679361958876123245 : UInt64) M = A at *
  generalize FP.dsub (4591373270898472171 : UInt64) N = X at *
  have hY := own_bmul 67 147573952589676412928 (p := 166153499473114484112975882535043072) (q := 5316911983139663491615228241121378304) (r := 664613997892457936451903530140172288) hX.1 hT (by omega) (by omega) t1 t2 (by decide) (by decide)
  generalize FP.dmul X T = Y at *
  have hW := own_bmul 70 1180591620717411303424 (p := 1329227995784915872903807060280344576) (q := 5316911983139663491615228241121378304) (r := 5316911983139663491615228241121378304) hY.1 hT (by omega) (by omega) t1 t2 (by decide) (by decide)
  generalize FP.dmul Y T = W at *
  have hG := own_eadd 102 5070602400912917605986812821504 hA.1 hW.1 (by omega) (by omega)
  refine ⟨hX.1, hY.1, hW.1, ⟨t1, t2⟩, ⟨by omega, by omega⟩, ⟨by omega, by omega⟩, hM.2, hN.2, ⟨by omega, by omega⟩, ⟨by omega, by omega⟩⟩
theorem own_step {d d' : UInt64} (hd : Core.DFin d) (hd' : Core.DFin d') (h1 : own_zv d ≤ 100001 * 1329227995784915872903807060280344576 * own_E) (h2 : -(100001 * 1329227995784915872903807060280344576 * own_E) ≤ own_zv d) (e : own_zv d' = own_zv d + 1329227995784915872903807060280344576 * own_E) :
    own_zv (own_sG d') - own_zv (own_sG d) - 115159734853394210459878424713925788867527 * own_E ≤ 649037107316853453566312041152512 * own_E ∧ -(649037107316853453566312041152512 * own_E) ≤ own_zv (own_sG d') - own_zv (own_sG d) - 115159734853394210459878424713925788867527 * own_E := by
  have Ep := own_Epos
  have q := own_divc 70 1180591620717411303424 hd k36525.1 k36525.2 (by decide) (by omega) (by omega)
  have q' := own_divc 70 1180591620717411303424 hd' k36525.1 k36525.2 (by decide) (by omega) (by omega)
  show own_zv (FP.dadd (FP.dadd _ (FP.dmul _ (FP.ddiv d' (4675252771358769152 : UInt64)))) (FP.dmul (FP.dmul (FP.dsub _ (FP.dmul _ (FP.ddiv d' (4675252771358769152 : UInt64)))) (FP.ddiv d' (4675252771358769152 : UInt64))) (FP.ddiv d' (4675252771358769152 : UInt64)))) - own_zv (FP.dadd (FP.dadd _ (FP.dmul _ (FP.ddiv d (4675252771358769152 : UInt64)))) (FP.dmul (FP.dmul (FP.dsub _ (FP.dmul _ (FP.ddiv d (4675252771358769152 : UInt64)))) (FP.ddiv d (4675252771358769152 : UInt64))) (FP.ddiv d (4675252771358769152 : UInt64)))) - _ ≤ _ ∧ _ ≤ own_zv (FP.dadd (FP.dadd _ (FP.dmul _ (FP.ddiv d' (4675252771358769152 : UInt64)))) (FP.dmul (FP.dmul (FP.dsub _ (FP.dmul _ (FP.ddiv d' (4675252771358769152 : UInt64)))) (FP.ddiv d' (4675252771358769152 : UInt64))) (FP.ddiv d' (4675252771358769152 : UInt64)))) - own_zv (FP.dadd (FP.dadd _ (FP.dmul _ (FP.ddiv d (4675252771358769152 : UInt64)))) (FP.dmul (FP.dmul (FP.dsub _ (FP.dmul _ (FP.ddiv d (4675252771358769152 : UInt64)))) (FP.ddiv d (4675252771358769152 : UInt64))) (FP.ddiv d (4675252771358769152 : UInt64)))) - _
  generalize FP.ddiv d (4675252771358769152 : UInt64) = T at *
  generalize FP.ddiv d' (4675252771358769152 : UInt64) = T' at *
  have a1 : own_zv T * 36525 - own_zv d ≤ 1180591620717411303424 * 36525 * own_E := by omega
  have a2 : -(1180591620717411303424 * 36525 * own_E) ≤ own_zv T * 36525 - own_zv d := by omega
  have a1' : own_zv T' * 36525 - own_zv d' ≤ 1180591620717411303424 * 36525 * own_E := by omega
  have a2' : -(1180591620717411303424 * 36525 * own_E) ≤ own_zv T' * 36525 - own_zv d' := by omega
  have hT := q.1
  have hT' := q'.1
  clear q q'
  obtain ⟨M, N, X, Y, W, eM, eN, eX, eY, eW, fX, fY, fW, bT, bX, bY, rM, rN, rX, rG⟩ := own_fine hT a1 a2 (by omega) (by omega)
  obtain ⟨M', N', X', Y', W', eM', eN', eX', eY', eW', fX', fY', fW', bT', bX', bY', rM', rN', rX', rG'⟩ := own_fine hT' a1' a2' (by omega) (by omega)
  rw [← eM, ← eN, ← eX, ← eY, ← eW, ← eM', ← eN', ← eX', ← eY', ← eW']
  have dT1 : own_zv T' - own_zv T ≤ 40564819207303340847894502572032 * own_E := by omega
  have dT2 : -(40564819207303340847894502572032 * own_E) ≤ own_zv T' - own_zv T := by omega
  have dX1 : own_zv X' - own_zv X ≤ 309485009821345068724781056 * own_E := by omega
  have dX2 : -(309485009821345068724781056 * own_E) ≤ own_zv X' - own_zv X := by omega
  have dY := own_dmul2 67 147573952589676412928 (p := 166153499473114484112975882535043072) (q := 5316911983139663491615228241121378304) (u := 309485009821345068724781056) (v := 40564819207303340847894502572032) (r := 10141204801825835211973625643008) fX hT fX' hT' bX.1 bX.2 bT.1 bT.2 bX'.1 bX'.2 bT'.1 bT'.2 dX1 dX2 dT1 dT2 (by decide) (by decide)
  rw [← eY, ← eY'] at dY
  have dW := own_dmul2 70 1180591620717411303424 (p := 1329227995784915872903807060280344576) (q := 5316911983139663491615228241121378304) (u := 20282409603651670423947251286016) (v := 40564819207303340847894502572032) (r := 162259276829213363391578010288128) fY hT fY' hT' bY.1 bY.2 bT.1 bT.2 bY'.1 bY'.2 bT'.1 bT'.2 (by omega) (by omega) dT1 dT2 (by decide) (by decide)
  rw [← eW, ← eW'] at dW
  generalize own_zv (FP.dadd (FP.dadd (4679361958876123245 : UInt64) M) W) = g at *
  generalize own_zv (FP.dadd (FP.dadd (4679361958876123245 : UInt64) M') W') = g' at *
  clear eM eN eX eY eW eM' eN' eX' eY' eW' dX1 dX2 dY rN rN' rX rX' bX bX' bY bY' bT bT'
  constructor <;> omega
end OwnSid
section OwnSid2
open Jvm.FP Jvm.Free.Fl
theorem own_rate0 {A A' f f' n n' W W' E : Int} (Ep : 0 < E) (hW : W = A - n * (114845298835816731418888930008221771366400 * E)) (hW' : W' = A' - n' * (114845298835816731418888930008221771366400 * E)) (a1 : 114845298835816731418888930008221771366400 * f - 8351785813007552392086790840317378560 * W ≤ 114845298835816731418888930008221771366400 * 37778931862957161709568 * E) (a2 : -(114845298835816731418888930008221771366400 * 37778931862957161709568 * E) ≤ 114845298835816731418888930008221771366400 * f - 8351785813007552392086790840317378560 * W)
    (b1 : 114845298835816731418888930008221771366400 * f' - 8351785813007552392086790840317378560 * W' ≤ 114845298835816731418888930008221771366400 * 37778931862957161709568 * E) (b2 : -(114845298835816731418888930008221771366400 * 37778931862957161709568 * E) ≤ 114845298835816731418888930008221771366400 * f' - 8351785813007552392086790840317378560 * W') (f0 : 0 ≤ f) (f1 : f ≤ 8351785813007552392086790840317378560 * E) (g0 : 0 ≤ f') (g1 : f' ≤ 8351785813007552392086790840317378560 * E) (s1 : A' - A - 115159734853394210459878424713925788867527 * E ≤ 649037107316853453566312041152512 * E) (s2 : -(649037107316853453566312041152512 * E) ≤ A' - A - 115159734853394210459878424713925788867527 * E) :
    (f' - f - 22866432473274055833867921152578395 * E ≤ 1267650600228229401496703205376 * E ∧ -(1267650600228229401496703205376 * E) ≤ f' - f - 22866432473274055833867921152578395 * E) ∨ (f' - f + 8351785813007552392086790840317378560 * E - 22866432473274055833867921152578395 * E ≤ 1267650600228229401496703205376 * E ∧ -(1267650600228229401496703205376 * E) ≤ f' - f + 8351785813007552392086790840317378560 * E - 22866432473274055833867921152578395 * E) := by
  have ez : n' * (114845298835816731418888930008221771366400 * E) - n * (114845298835816731418888930008221771366400 * E) = 114845298835816731418888930008221771366400 * ((n' - n) * E) := by rw [← Int.sub_mul, Int.mul_left_comm]
  generalize n' * (114845298835816731418888930008221771366400 * E) = u' at *
  generalize n * (114845298835816731418888930008221771366400 * E) = u at *
  generalize hm : n' - n = m at *
  rcases Int.lt_or_le m 1 with h | h
  · have := Int.mul_le_mul_of_nonneg_right (show m ≤ 0 by omega) (Int.le_of_lt Ep)
    exfalso; omega
  · rcases Int.lt_or_le 2 m with h' | h'
    · have := Int.mul_le_mul_of_nonneg_right (show 3 ≤ m by omega) (Int.le_of_lt Ep)
      exfalso; omega
    · have : m = 1 ∨ m = 2 := by omega
      rcases this with h | h
      · rw [h, Int.one_mul] at ez
        left; constructor <;> omega
      · rw [h] at ez
        right; constructor <;> omega
theorem own_wide {d : UInt64} (h1 : own_zv d ≤ 100002 * 1329227995784915872903807060280344576 * own_E) (h2 : -(100002 * 1329227995784915872903807060280344576 * own_E) ≤ own_zv d) : own_zv d ≤ 730750818665451459101842416358141509827966271488 * own_E ∧ -(730750818665451459101842416358141509827966271488 * own_E) ≤ own_zv d := by
  have := own_Epos; omega
theorem own_rate {d d' : UInt64} (hd : Core.DFin d) (hd' : Core.DFin d') (h1 : own_zv d ≤ 100001 * 1329227995784915872903807060280344576 * own_E) (h2 : -(100001 * 1329227995784915872903807060280344576 * own_E) ≤ own_zv d) (e : own_zv d' = own_zv d + 1329227995784915872903807060280344576 * own_E) :
    NoNaN64 (FP.dsub (own_sid d') (own_sid d)) ∧ NoNaN64 (FP.dadd (FP.dsub (own_sid d') (own_sid d)) (4618760256179416344 : UInt64)) ∧
    (cmpValue (FP.dcmp (FP.dsub (own_sid d') (own_sid d)) (0 : UInt64)) .g < (0 : Int32) → cmpValue (FP.dcmp (FP.dadd (FP.dsub (own_sid d') (own_sid d)) (4618760256179416344 : UInt64)) (4580615302692910451 : UInt64)) .l = (1 : Int32) ∧ cmpValue (FP.dcmp (FP.dadd (FP.dsub (own_sid d') (own_sid d)) (4618760256179416344 : UInt64)) (4580615879153662755 : UInt64)) .g = (-1 : Int32)) ∧
    (¬ (cmpValue (FP.dcmp (FP.dsub (own_sid d') (own_sid d)) (0 : UInt64)) .g < (0 : Int32)) → cmpValue (FP.dcmp (FP.dsub (own_sid d') (own_sid d)) (4580615302692910451 : UInt64)) .l = (1 : Int32) ∧ cmpValue (FP.dcmp (FP.dsub (own_sid d') (own_sid d)) (4580615879153662755 : UInt64)) .g = (-1 : Int32)) := by
  have Ep := own_Epos
  have w := own_wide (d := d) (by omega) (by omega)
  have w' := own_wide (d := d') (by omega) (by omega)
  have hG := (own_gen hd w.1 w.2).2
  have hG' := (own_gen hd' w'.1 w'.2).2
  obtain ⟨_, fa, a0, a1, n, W, hW, a2, a3⟩ := own_tail1 hG
  obtain ⟨_, fb, b0, b1, n', W', hW', b2, b3⟩ := own_tail1 hG'
  obtain ⟨s1, s2⟩ := own_step hd hd' h1 h2 e
  have key := own_rate0 Ep hW hW' a2 a3 b2 b3 a0 a1 b0 b1 s1 s2
  show NoNaN64 (FP.dsub (own_tF (own_sG d')) (own_tF (own_sG d))) ∧ NoNaN64 (FP.dadd (FP.dsub (own_tF (own_sG d')) (own_tF (own_sG d))) _) ∧ (cmpValue (FP.dcmp (FP.dsub (own_tF (own_sG d')) (own_tF (own_sG d))) _) _ < _ → cmpValue (FP.dcmp (FP.dadd (FP.dsub (own_tF (own_sG d')) (own_tF (own_sG d))) _) _) _ = _ ∧ cmpValue (FP.dcmp (FP.dadd (FP.dsub (own_tF (own_sG d')) (own_tF (own_sG d))) _) _) _ = _) ∧ (¬ (cmpValue (FP.dcmp (FP.dsub (own_tF (own_sG d')) (own_tF (own_sG d))) _) _ < _) → cmpValue (FP.dcmp (FP.dsub (own_tF (own_sG d')) (own_tF (own_sG d))) _) _ = _ ∧ cmpValue (FP.dcmp (FP.dsub (own_tF (own_sG d')) (own_tF (own_sG d))) _) _ = _)
  clear hW hW' a2 a3 b2 b3 s1 s2 hG hG' w w'
  generalize own_tF (own_sG d) = fA at *
  generalize own_tF (own_sG d') = fB at *
  have hS := own_esub 71 2361183241434822606848 fb fa (by omega) (by omega)
  generalize FP.dsub fB fA = S at *
  have c7 := k2pi.2
  have hP := own_eadd 73 9444732965739290427392 hS.1 k2pi.1 (by omega) (by omega)
  generalize FP.dadd S (4618760256179416344 : UInt64) = Q at *
  have cl := klo.2
  have ch := khi.2
  refine ⟨own_finnn hS.1, own_finnn hP.1, fun h => ?_, fun h => ?_⟩
  · have hz := (own_cltz hS.1).mp h
    exact ⟨(own_cmpv (own_finne hP.1) (own_finne klo.1) .l).2.2 (by omega), (own_cmpv (own_finne hP.1) (own_finne khi.1) .g).1 (by omega)⟩
  · have hz : ¬ own_zv S < 0 := fun z => h ((own_cltz hS.1).mpr z)
    exact ⟨(own_cmpv (own_finne hS.1) (own_finne klo.1) .l).2.2 (by omega), (own_cmpv (own_finne hS.1) (own_finne khi.1) .g).1 (by omega)⟩
theorem own_l2db {x : Int64} (h : x.toInt.natAbs ≤ 36028797018963968) : Core.DFin (FP.l2d x) ∧ own_zv (FP.l2d x) ≤ 47890485652059026823698344598447161988085597568237568 * own_E ∧ -(47890485652059026823698344598447161988085597568237568 * own_E) ≤ own_zv (FP.l2d x) := by
  obtain ⟨s, c, q, e1, e2, _⟩ := own_l2dval x
  have hV : Core.DFin (4854880398305394688 : UInt64) ∧ own_zv (4854880398305394688 : UInt64) = 47890485652059026823698344598447161988085597568237568 * own_E := ⟨⟨false, 4503599627370496, 3, by decide +kernel⟩, by decide +kernel⟩
  have m : own_zm (FP.l2d x) ≤ own_zm (4854880398305394688 : UInt64) := by
    unfold own_zm
    rw [e1, ← e2]
    refine Core.zmag_roundRatio_le Core.good_b64 (by decide) (Core.val64_fits _) (own_finne hV.1) (e0 := Core.b64.qmin) (Int.le_refl _) (by decide) ?_
    have z := own_zmabs (4854880398305394688 : UInt64)
    have u : Core.inUnits x.toInt.natAbs 0 Core.b64.qmin = x.toInt.natAbs * Core.one64 := by unfold Core.inUnits; rw [show ((0 : Int) - Core.b64.qmin).toNat = (-Core.b64.qmin).toNat by omega, Core.pow_qmin64]
    rw [u, Int.sub_self]
    have z2 : Core.zmag Core.b64 (Core.val64 (4854880398305394688 : UInt64)) = 36028797018963968 * Core.one64 := by
      have O := own_OE
      have zz : (own_zv (4854880398305394688 : UInt64)).natAbs = Core.zmag Core.b64 (Core.val64 (4854880398305394688 : UInt64)) := z
      have h2 := hV.2; have Ep := own_Epos
      omega
    rw [z2]
    rw [show (0 : Int).toNat = 0 from rfl, Nat.pow_zero, Nat.mul_one, Nat.mul_one]
    exact Nat.mul_le_mul_right _ h
  have z1 := own_zmabs (FP.l2d x)
  have z2 := own_zmabs (4854880398305394688 : UInt64)
  have h2 := hV.2; have Ep := own_Epos
  exact ⟨own_l2dfin x, by omega, by omega⟩
abbrev own_dn (na : Int32) : UInt64 := (FP.ddiv (FP.i2d na) (4741671816366391296 : UInt64))
abbrev own_ds (es : Int64) (na : Int32) : UInt64 := (FP.dadd (FP.l2d (es - (946728000 : Int64))) (own_dn na))
abbrev own_dd (es : Int64) (na : Int32) : UInt64 := (FP.ddiv (own_ds es na) (4680673776000565248 : UInt64))
theorem own_Z2E {i : Int} {a : UInt64} (h : own_Z 1074 i a) : own_zv a = i * (1329227995784915872903807060280344576 * own_E) := by rw [h.2, ← own_OE, own_one]
theorem own_day {es : Int64} {na : Int32} (he : es.toInt ≤ 31556889864403199 ∧ -31556889864403199 ≤ es.toInt) (hn : 0 ≤ na.toInt ∧ na.toInt ≤ 999999999) :
    NoNaN64 (own_dn na) ∧ NoNaN64 (own_ds es na) ∧ NoNaN64 (own_dd es na) ∧ Core.DFin (own_dd es na) ∧ own_zv (own_dd es na) ≤ 730750818665451459101842416358141509827966271488 * own_E ∧ -(730750818665451459101842416358141509827966271488 * own_E) ≤ own_zv (own_dd es na) := by
  have Ep := own_Epos
  have o : (946728000 : Int64).toInt = 946728000 := rfl
  have hx : (es - (946728000 : Int64)).toInt = es.toInt - 946728000 := by rw [Core.int64_sub (by omega) (by omega), o]
  obtain ⟨l1, l2, l3⟩ := own_l2db (x := es - (946728000 : Int64)) (by omega)
  have i1 := own_Z.i2d na
  have i2 := own_Z2E i1
  have m1 := Int.mul_le_mul_of_nonneg_right (show na.toInt ≤ 999999999 by omega) (show 0 ≤ 1329227995784915872903807060280344576 * own_E by omega)
  have m2 := Int.mul_nonneg hn.1 (show 0 ≤ 1329227995784915872903807060280344576 * own_E by omega)
  have hN := own_divc 68 295147905179352825856 i1.1 ke9.1 ke9.2 (by decide) (by omega) (by omega)
  show NoNaN64 (FP.ddiv (FP.i2d na) _) ∧ NoNaN64 (FP.dadd (FP.l2d (es - (946728000 : Int64))) (FP.ddiv (FP.i2d na) _)) ∧ NoNaN64 (FP.ddiv (FP.dadd (FP.l2d (es - (946728000 : Int64))) (FP.ddiv (FP.i2d na) _)) _) ∧ Core.DFin (FP.ddiv (FP.dadd (FP.l2d (es - (946728000 : Int64))) (FP.ddiv (FP.i2d na) _)) _) ∧ own_zv (FP.ddiv (FP.dadd (FP.l2d (es - (946728000 : Int64))) (FP.ddiv (FP.i2d na) _)) _) ≤ _ ∧ _ ≤ own_zv (FP.ddiv (FP.dadd (FP.l2d (es - (946728000 : Int64))) (FP.ddiv (FP.i2d na) _)) _)
  generalize FP.ddiv (FP.i2d na) (4741671816366391296 : UInt64) = N at *
  generalize FP.l2d (es - (946728000 : Int64)) = L at *
  have n1 : own_zv N ≤ 2658455991569831745807614120560689152 * own_E := by omega
  have n2 : -(2658455991569831745807614120560689152 * own_E) ≤ own_zv N := by omega
  have hS := own_eadd 124 21267647932558653966460912964485513216 l1 hN.1 (by omega) (by omega)
  generalize FP.dadd L N = S at *
  have hD := own_divc 108 324518553658426726783156020576256 hS.1 k864.1 k864.2 (by decide) (by omega) (by omega)
  generalize FP.ddiv S (4680673776000565248 : UInt64) = D at *
  exact ⟨own_finnn hN.1, own_finnn hS.1, own_finnn hD.1, hD.1, by omega, by omega⟩
theorem own_k864q : own_Z 1076 21600 (4680673776000565248 : UInt64) := ⟨k864.1, by decide +kernel⟩
theorem own_dn0 : own_dn 0 = 0 := by decide +kernel
theorem own_dayq {es : Int64} {D : Int} (h : es.toInt = 946728000 + 21600 * D) (hD : D.natAbs ≤ 1073741824) : own_Z 1072 D (own_dd es 0) := by
  have o : (946728000 : Int64).toInt = 946728000 := rfl
  have hx : (es - (946728000 : Int64)).toInt = 21600 * D := by rw [Core.int64_sub (by omega) (by omega), o]; omega
  have L : own_Z 1074 (D * 21600) (FP.l2d (es - (946728000 : Int64))) := own_Z.eq (own_Z.l2d (by omega)) (by omega)
  have S : own_Z 1074 (D * 21600) (own_ds es 0) := by
    show own_Z 1074 _ (FP.dadd _ (own_dn 0))
    rw [own_dn0]
    exact own_Z.eq (L.add own_Z0 (by omega)) (by omega)
  exact own_Z.div S own_k864q (by decide) (by omega)
theorem own_Z1072E {D : Int} {d : UInt64} (h : own_Z 1072 D d) : own_zv d = D * (332306998946228968225951765070086144 * own_E) := by
  rw [h.2, show (1072 : Nat) = 954 + 118 from rfl, own_GE 118 332306998946228968225951765070086144 (by decide)]
theorem own_sidcongr {d d' : UInt64} {D : Int} (hD : D ≠ 0) (z : own_Z 1072 D d) (z' : own_Z 1072 D d') : own_sid d = own_sid d' := by
  have hz : own_zm (4675252771358769152 : UInt64) ≠ 0 := by have h := own_zmabs (4675252771358769152 : UInt64); have := k36525.2; have := own_Epos; omega
  have e : own_sT d = own_sT d' := own_divcongr z.1 k36525.1 z'.1 k36525.1 hz hz (by rw [z.sgn hD, z'.sgn hD]) (by rw [own_zmZ z, own_zmZ z'])
  unfold own_sid
  show own_tF (FP.dadd (FP.dadd _ (FP.dmul _ (own_sT d))) (FP.dmul (FP.dmul (FP.dsub _ (FP.dmul _ (own_sT d))) (own_sT d)) (own_sT d))) = own_tF (FP.dadd (FP.dadd _ (FP.dmul _ (own_sT d'))) (FP.dmul (FP.dmul (FP.dsub _ (FP.dmul _ (own_sT d'))) (own_sT d')) (own_sT d')))
  rw [e]
end OwnSid2
section OwnC5
open Jvm.FP Jvm.Free.Fl
theorem own_dremS {tb : Tables} [Ours tb] {e : Env} {below : List Frame} {T target : State} {m : MethodId} {c : Code} {g : JFrame} (h : At T m c below) (hx : tb.exec = Jvm.exec) (hg : g.method = m) {x y v : UInt64} {rest : List Value} (hd : decode c.code g.pc = .ok (.drem, 1)) (hs : g.stack = .double y :: .double x :: rest) (hn : NoNaN64 (FP.drem x y)) (hv : FP.drem x y = v)
    (hr : Steps tb e below (T.setTop { g with pc := g.pc + 1, stack := .double v :: rest }) target) : Steps tb e below (T.setTop g) target := by
  subst hg
  subst hv
  obtain ⟨gm, gp, gl, gs, gk, ge, gr⟩ := g
  simp only at hs hd
  subst hs
  jvm_step h [h.top, hx, hd, Op.drem.at_number h.top hn]
  exact hr
theorem own_i64z {a : Int64} (h : a.toBitVec = 0#64) : a = 0 := Int64.toBitVec.inj h
theorem own_orz {a : Int64} {b : Int32} (h : (a ||| b.toInt64) = (0 : Int64)) : a = (0 : Int64) ∧ b = (0 : Int32) := by
  have q := congrArg Int64.toBitVec h
  rw [Int64.toBitVec_or] at q
  have w := BitVec.or_eq_zero_iff.mp q
  refine ⟨own_i64z w.1, ?_⟩
  have z : b.toInt64 = 0 := own_i64z w.2
  have y := congrArg Int64.toInt z
  rw [Int32.toInt_toInt64] at y
  exact Int32.toInt_inj.mp y
theorem own_cr1 {a : Int64} (h : -31557014167219200 ≤ a.toInt ∧ a.toInt ≤ 31556889864403199) (q : a < (-31557014167219200 : Int64)) : False := by
  rw [Int64.lt_iff_toInt_lt, show (-31557014167219200 : Int64).toInt = -31557014167219200 from rfl] at q; omega
theorem own_cr2 {a : Int64} (h : -31557014167219200 ≤ a.toInt ∧ a.toInt ≤ 31556889864403199) (q : (31556889864403199 : Int64) < a) : False := by
  rw [Int64.lt_iff_toInt_lt, show (31556889864403199 : Int64).toInt = 31556889864403199 from rfl] at q; omega
theorem own_fdz {a : Int64} (h : 0 ≤ a.toInt ∧ a.toInt ≤ 999999999) : a / (1000000000 : Int64) = 0 := Int64.toInt_inj.mp (by rw [(c_ldiv a 1000000000 1000000000 rfl (by decide)).1 h.1, show (0 : Int64).toInt = 0 from rfl]; omega)
theorem own_fmz {a : Int64} (h : 0 ≤ a.toInt ∧ a.toInt ≤ 999999999) : a % (1000000000 : Int64) = a := Int64.toInt_inj.mp (by rw [Int64.toInt_mod, show (1000000000 : Int64).toInt = 1000000000 from rfl, Int.tmod_eq_emod_of_nonneg h.1]; omega)
theorem own_xg {a : Int64} (h : 0 ≤ a.toInt ∧ a.toInt ≤ 999999999) (q : (a ^^^ (1000000000 : Int64)) < (0 : Int64)) : False := by
  have m : ∀ z : Int64, z.toBitVec.msb = decide (z.toInt < 0) := fun z => BitVec.msb_eq_toInt
  rw [Int64.lt_iff_toInt_lt, show (0 : Int64).toInt = 0 from rfl] at q
  have w := m (a ^^^ (1000000000 : Int64))
  rw [decide_eq_true q, Int64.toBitVec_xor, BitVec.msb_xor, m a, m 1000000000, decide_eq_false (by omega)] at w
  exact absurd w (by decide)
theorem own_n64w {n : Int32} (h : 0 ≤ n.toInt ∧ n.toInt ≤ 999999999) : 0 ≤ n.toInt64.toInt ∧ n.toInt64.toInt ≤ 999999999 := by rw [Int32.toInt_toInt64]; exact h
theorem own_l2i (n : Int32) : (n.toInt64).toInt32 = n := Int32.toInt32_toInt64 n
theorem own_sec {y x : Int64} (h : y % (31556889864403200 : Int64) = x) : x.toInt ≤ 31556889864403199 ∧ -31556889864403199 ≤ x.toInt := by
  have e := Int64.toInt_mod y 31556889864403200
  rw [h, show (31556889864403200 : Int64).toInt = 31556889864403200 from rfl] at e
  rcases Int.le_total 0 y.toInt with k | k
  · rw [Int.tmod_eq_emod_of_nonneg k] at e; omega
  · have w : y.toInt.tmod 31556889864403200 = -((-y.toInt).tmod 31556889864403200) := by rw [Int.neg_tmod, Int.neg_neg]
    rw [w, Int.tmod_eq_emod_of_nonneg (by omega)] at e; omega
theorem own_nv {y x : Int32} (h : (y &&& (2147483647 : Int32)) % (1000000000 : Int32) = x) : 0 ≤ x.toInt ∧ x.toInt ≤ 999999999 := by
  have m := (c_andS y 2147483647).2.2 (by decide)
  have q := (c_irem (y &&& (2147483647 : Int32)) 1000000000 1000000000 rfl).1 m
  rw [h] at q; omega
theorem own_leg {a b : UInt64} (ha : Core.DFin a) (hb : Core.DFin b) (h : own_zv a ≤ own_zv b) : ¬ ((0 : Int32) < cmpValue (FP.dcmp a b) .g) := by
  have q := own_cmpv (own_finne ha) (own_finne hb) .g
  rcases Int.lt_or_eq_of_le h with w | w
  · rw [q.1 w]; decide
  · rw [q.2.1 w]; decide
def own_dayc := own_day (es := 946728000) (na := 0) (by decide) (by decide)
def own_dayz {es : Int64} {D : Int} (h : es.toInt = 946728000 + 21600 * D) (hD : D.natAbs ≤ 1073741824) := own_day (es := es) (na := 0) (by omega) (by decide)
theorem own_qq {x q : Int32} (h : (x &&& (3 : Int32)) = q) : 0 ≤ q.toInt ∧ q.toInt ≤ 3 := by
  have m := c_mask x 3 2 (by decide) (by decide)
  rw [h] at m; omega
theorem own_rm {y x : Int32} {m : Int32} {d : Int} (hm : m.toInt = d) (hd : 0 < d) (h : y % m = x) : x.toInt.natAbs < d.toNat := by
  have q := c_irem y m d hm
  rw [h] at q
  rcases Int.lt_or_le y.toInt 0 with k | k
  · have := Int.emod_nonneg (-y.toInt) (show d ≠ 0 by omega); have := Int.emod_lt_of_pos (-y.toInt) hd; have := q.2 k; omega
  · have := Int.emod_nonneg y.toInt (show d ≠ 0 by omega); have := Int.emod_lt_of_pos y.toInt hd; have := q.1 k; omega
theorem own_da {y : Int32} {x : Int64} (h : (y % (4000000 : Int32)).toInt64 = x) : x.toInt.natAbs ≤ 3999999 := by
  have q := own_rm (y := y) (m := 4000000) (d := 4000000) rfl (by decide) rfl
  rw [← h, Int32.toInt_toInt64]; omega
theorem own_db {y : Int32} {x : Int64} (h : (y % (100000 : Int32)).toInt64 = x) : x.toInt.natAbs ≤ 99999 := by
  have q := own_rm (y := y) (m := 100000) (d := 100000) rfl (by decide) rfl
  rw [← h, Int32.toInt_toInt64]; omega
theorem own_s1 {da x : Int64} {q : Int32} (hq : 0 ≤ q.toInt ∧ q.toInt ≤ 3) (hd : da.toInt.natAbs ≤ 3999999) (h : (((946728000 : Int64) + ((86400 : Int64) * da)) + ((21600 : Int64) * (q.toInt64))) = x) : x.toInt = 946728000 + 21600 * (da.toInt * 4 + q.toInt) := by
  have o1 : (946728000 : Int64).toInt = 946728000 := rfl
  have o2 : (86400 : Int64).toInt = 86400 := rfl
  have o3 : (21600 : Int64).toInt = 21600 := rfl
  have w := Int32.toInt_toInt64 q
  have e1 : ((86400 : Int64) * da).toInt = 86400 * da.toInt := by rw [Core.int64_mul (by rw [o2]; omega) (by rw [o2]; omega), o2]
  have e2 : ((21600 : Int64) * (q.toInt64)).toInt = 21600 * q.toInt := by rw [Core.int64_mul (by rw [o3, w]; omega) (by rw [o3, w]; omega), o3, w]
  have e3 : ((946728000 : Int64) + ((86400 : Int64) * da)).toInt = 946728000 + 86400 * da.toInt := by rw [Core.int64_add (by rw [o1, e1]; omega) (by rw [o1, e1]; omega), o1, e1]
  rw [← h, Core.int64_add (by rw [e3, e2]; omega) (by rw [e3, e2]; omega), e3, e2]; omega
theorem own_s3 {x z : Int64} {D : Int} (h : x.toInt = 946728000 + 21600 * D) (hD : D.natAbs ≤ 1073741824) (hz : x + (86400 : Int64) = z) : z.toInt = 946728000 + 21600 * (D + 4) := by
  have o2 : (86400 : Int64).toInt = 86400 := rfl
  rw [← hz, Core.int64_add (by omega) (by omega), o2]; omega
theorem own_kq : own_Z 1072 1 (4598175219545276416 : UInt64) := ⟨⟨false, 4503599627370496, -54, by decide +kernel⟩, by decide +kernel⟩
theorem own_dayd {da : Int64} {q : Int32} (hq : 0 ≤ q.toInt ∧ q.toInt ≤ 3) (hd : da.toInt.natAbs ≤ 3999999) : NoNaN64 (FP.dmul (FP.i2d q) (4598175219545276416 : UInt64)) ∧ own_Z 1072 (da.toInt * 4 + q.toInt) (FP.dadd (FP.l2d da) (FP.dmul (FP.i2d q) (4598175219545276416 : UInt64))) := by
  have m : own_Z 1072 q.toInt (FP.dmul (FP.i2d q) (4598175219545276416 : UInt64)) := own_Z.eq ((own_Z.i2d q).mul own_kq (J := 1072) (by omega)) (by omega)
  have l : own_Z 1072 (da.toInt * 4) (FP.l2d da) := own_Z.eq (own_Z.shift (j := 1072) (k := 2) (own_Z.l2d (by omega))) rfl
  exact ⟨m.nn, l.add m (by omega)⟩
theorem own_Db {D : Int} {d : UInt64} (z : own_Z 1072 D d) (h : D.natAbs ≤ 1073741824) : own_zv d ≤ 730750818665451459101842416358141509827966271488 * own_E ∧ -(730750818665451459101842416358141509827966271488 * own_E) ≤ own_zv d := by
  have e := own_Z1072E z
  have p : 0 ≤ 332306998946228968225951765070086144 * own_E := by have := own_Epos; omega
  have m1 := Int.mul_le_mul_of_nonneg_right (show D ≤ 1073741824 by omega) p
  have m2 := Int.mul_le_mul_of_nonneg_right (show -1073741824 ≤ D by omega) p
  have := own_Epos
  omega
theorem own_nq {D : Int} {d : UInt64} (z : own_Z 1072 D d) (h : D.natAbs ≤ 1073741824) : own_nice d := (own_sidok z.1 (own_Db z h).1 (own_Db z h).2).1
theorem own_ovl {da s1 : Int64} {q : Int32} (hq : 0 ≤ q.toInt ∧ q.toInt ≤ 3) (hd : da.toInt.natAbs ≤ 3999999) (hs : s1.toInt = 946728000 + 21600 * (da.toInt * 4 + q.toInt)) (z1 : own_Z 1072 (da.toInt * 4 + q.toInt) (own_dd s1 0)) (z2 : own_Z 1072 (da.toInt * 4 + q.toInt) (FP.dadd (FP.l2d da) (FP.dmul (FP.i2d q) (4598175219545276416 : UInt64)))) :
    cmpValue (FP.dcmp (own_sid (own_dd s1 0)) (own_sid (FP.dadd (FP.l2d da) (FP.dmul (FP.i2d q) (4598175219545276416 : UInt64))))) .l = (0 : Int32) := by
  by_cases h : da.toInt * 4 + q.toInt = 0
  · have a : da = 0 := Int64.toInt_inj.mp (by rw [show (0 : Int64).toInt = 0 from rfl]; omega)
    have b : q = 0 := Int32.toInt_inj.mp (by rw [show (0 : Int32).toInt = 0 from rfl]; omega)
    have e : s1 = 946728000 := Int64.toInt_inj.mp (by rw [hs, h]; rfl)
    subst a b e
    decide +kernel
  · rw [own_sidcongr h z1 z2]
    have f := (own_sidok z2.1 (own_Db z2 (by omega)).1 (own_Db z2 (by omega)).2).2.1
    exact (own_cmpv (own_finne f) (own_finne f) .l).2.1 rfl
def own_rateq {D : Int} {d d' : UInt64} (z : own_Z 1072 D d) (z' : own_Z 1072 (D + 4) d') (h : D.natAbs ≤ 400003) := own_rate (d := d) (d' := d') z.1 z'.1
  (by have e := own_Z1072E z; have := own_Epos; have m := Int.mul_le_mul_of_nonneg_right (show D ≤ 400003 by omega) (show 0 ≤ 332306998946228968225951765070086144 * own_E by omega); omega)
  (by have e := own_Z1072E z; have := own_Epos; have m := Int.mul_le_mul_of_nonneg_right (show -400003 ≤ D by omega) (show 0 ≤ 332306998946228968225951765070086144 * own_E by omega); omega)
  (by have e := own_Z1072E z; have e' := own_Z1072E z'; rw [Int.add_mul] at e'; omega)
end OwnC5
theorem own_d6_0 : decode jdk_2320_method_9_code 0 = .ok (.aload_n 0, 1) := by decide +kernel
theorem own_d6_1 : decode jdk_2320_method_9_code 1 = .ok (.invokespecial 137, 3) := by decide +kernel
theorem own_d6_4 : decode jdk_2320_method_9_code 4 = .ok (.aload_n 0, 1) := by decide +kernel
theorem own_d6_5 : decode jdk_2320_method_9_code 5 = .ok (.lload_n 1, 1) := by decide +kernel
theorem own_d6_6 : decode jdk_2320_method_9_code 6 = .ok (.putfield 140, 3) := by decide +kernel
theorem own_d6_9 : decode jdk_2320_method_9_code 9 = .ok (.aload_n 0, 1) := by decide +kernel
theorem own_d6_10 : decode jdk_2320_method_9_code 10 = .ok (.iload_n 3, 1) := by decide +kernel
theorem own_d6_11 : decode jdk_2320_method_9_code 11 = .ok (.putfield 144, 3) := by decide +kernel
theorem own_d6_14 : decode jdk_2320_method_9_code 14 = .ok (.return_, 1) := by decide +kernel
set_option maxHeartbeats 4000000 in
theorem own_ef6 (m : MethodId) (x0 : Addr) (x1 : Int64) (x2 : Int32) : entryFrame m #[(.ref x0), (.long x1), (.int x2)] 4 = mkF m 0 #[.val (.ref x0), .val (.long x1), .second, .val (.int x2)] [] := by first | (simp [entryFrame, mkF, argsToLocals, Value.category]; done) | rfl
theorem own_pn0 : plainName "java/time/Instant" = true := by first | (simp [plainName, overriddenIn]; done) | decide +kernel
def own_Q6 (Z : State) (a0 : Array Value) (a0_ : Addr) (j1 : Int64) (i2 : Int32) (h0 : Heap) (n0 : Nat) (v : Option Value) (h : Heap) (L : List Loc) : Prop := v = none ∧ Fr n0 L ∧ Keep h0 h [a0_] ∧ Exa Z h a0_ "java/time/Instant" ∧ Fld Z h a0_ "java/time/Instant" "seconds" "J" (.long j1) ∧ Fld Z h a0_ "java/time/Instant" "nanos" "I" (.int i2)
set_option maxRecDepth 65536 in
set_option maxHeartbeats 40000000 in
theorem own_rm6 (l : Launch) (Z : State) (a0 : Array Value) (hw : ∀ d ∈ tables_1, d.before a0 Z = true) (ws : List Jvm.Cond) (a0_ : Addr) (j1 : Int64) (i2 : Int32) (h0 : Heap) (n0 : Nat) (Z0 : n0 ≤ h0.size) (E0 : Exa Z h0 a0_ "java/time/Instant") (D0 : ∀ {O nm d : String} {ty : FieldType}, Laid Z a0 "java/time/Instant" O nm d → parseFieldDescriptor d = some ty → Fld Z h0 a0_ O nm d (defaultValue ty)) (G0 : n0 ≤ a0_) :
    MetFree l (⟨"java/time/Instant", "<init>", "(JI)V"⟩ : MethodName) (head1 (Jvm.Cond.code (⟨"java/time/Instant", "<init>", "(JI)V"⟩ : MethodName) jdk_2320_method_9_code 4 none :: ws) ({ frames := 1, cells := 0, slots := 0, locals := 12 } : Room)) (fun a U => a = #[(.ref a0_), (.long j1), (.int i2)] ∧ Z.Warmed39 U.vm ∧ U.heap = h0) (fun _ _ _ _ _ => True) (fun _ U o U' => ∃ v L, o = .returned v ∧ own_Q6 Z a0 a0_ j1 i2 h0 n0 v U'.heap L ∧ FrameEnd U o U' L ({ frames := 1, cells := 0, slots := 0, locals := 12 } : Room).cells ({ frames := 1, cells := 0, slots := 0, locals := 12 } : Room).slots) := by
  refine own_body (Q := fun v h L => own_Q6 Z a0 a0_ j1 i2 h0 n0 v h L) (plainFor_of_name own_pn0) ?_
  intro p e s m below meth c s₁ hx hby hml hZ hown hnm hret hlk X0 e0
  replace hml : c.maxLocals = 4 := hml
  have N0 := Fr.nil n0
  have K0 : Keep h0 h0 [a0_] := Keep.refl _ _
  refine own_st (fun t k => castTop (own_ef6 m a0_ j1 i2) k) ?_
  show own_Run p e below s _ _ _ (s₁.setTop (mkF m 0 #[.val (.ref a0_), .val (.long j1), .second, .val (.int i2)] []))
  refine own_st (fun t k => XS.aloadN X0.here hx rfl (hb hby own_d6_0) rfl rfl k) ?_
  show own_Run p e below s _ _ _ (s₁.setTop (mkF m 1 #[.val (.ref a0_), .val (.long j1), .second, .val (.int i2)] [(.ref a0_)]))
  obtain ⟨T1, X1, e1, st1⟩ := initO X0 hx hZ hown (hw _ (List.mem_of_getElem? (i := 30) rfl)) (hw _ (List.mem_of_getElem? (i := 31) rfl)) (hw _ (List.mem_of_getElem? (i := 32) rfl)) e0 (g := (mkF m 1 #[.val (.ref a0_), .val (.long j1), .second, .val (.int i2)] [(.ref a0_)])) rfl (by rw [hml]; rfl) rfl (hb hby own_d6_1) (by decide) (W := 0) (by show 2 * 0 + _ ≤ _; exact Nat.le_of_eq rfl) (by decide)
  refine own_st st1 ?_
  show own_Run p e below s _ _ _ (T1.setTop (mkF m 4 #[.val (.ref a0_), .val (.long j1), .second, .val (.int i2)] []))
  refine own_st (fun t k => XS.aloadN X1.here hx rfl (hb hby own_d6_4) rfl rfl k) ?_
  show own_Run p e below s _ _ _ (T1.setTop (mkF m 5 #[.val (.ref a0_), .val (.long j1), .second, .val (.int i2)] [(.ref a0_)]))
  refine own_st (fun t k => XS.lloadN X1.here hx rfl (hb hby own_d6_5) rfl k) ?_
  show own_Run p e below s _ _ _ (T1.setTop (mkF m 6 #[.val (.ref a0_), .val (.long j1), .second, .val (.int i2)] [(.long j1), (.ref a0_)]))
  have F2 : Fld Z _ a0_ "java/time/Instant" "seconds" "J" (.long (0 : Int64)) := D0 (Or.inr (hw _ (List.mem_of_getElem? (i := 34) rfl))) (ty := .long) (by decide)
  obtain ⟨T3, h3, X3, e3, W3, st3⟩ := putF X1 hx hZ hown (host := "") (Or.inl (hw _ (List.mem_of_getElem? (i := 33) rfl))) Via.refl e1 F2 E0 (Or.inr ⟨(hw _ (List.mem_of_getElem? (i := 34) rfl)), rfl, hnm⟩) (hw _ (List.mem_of_getElem? (i := 25) rfl)) (ty := .long) (by decide) rfl rfl (g := (mkF m 6 #[.val (.ref a0_), .val (.long j1), .second, .val (.int i2)] [(.long j1), (.ref a0_)])) rfl rfl (hb hby own_d6_6)
  refine own_st st3 ?_
  have Fw3 := F2.same W3
  have N3 := Fr.snoc X3 N0 G0
  have K4 : Keep h0 h3 [a0_] := K0.wr W3 (Or.inl (List.mem_of_getElem? (i := 0) rfl))
  show own_Run p e below s _ _ _ (T3.setTop (mkF m 9 #[.val (.ref a0_), .val (.long j1), .second, .val (.int i2)] []))
  refine own_st (fun t k => XS.aloadN X3.here hx rfl (hb hby own_d6_9) rfl rfl k) ?_
  show own_Run p e below s _ _ _ (T3.setTop (mkF m 10 #[.val (.ref a0_), .val (.long j1), .second, .val (.int i2)] [(.ref a0_)]))
  refine own_st (fun t k => XS.iloadN X3.here hx rfl (hb hby own_d6_10) rfl k) ?_
  show own_Run p e below s _ _ _ (T3.setTop (mkF m 11 #[.val (.ref a0_), .val (.long j1), .second, .val (.int i2)] [(.int i2), (.ref a0_)]))
  have E6 := (E0.wr W3)
  have F7 : Fld Z _ a0_ "java/time/Instant" "nanos" "I" (.int (0 : Int32)) := D0 (Or.inr (hw _ (List.mem_of_getElem? (i := 36) rfl))) (ty := .int) (by decide)
  have F8 := (F7.other W3 (Or.inr (slot_ne (Or.inr (hw _ (List.mem_of_getElem? (i := 36) rfl))) (Or.inr (hw _ (List.mem_of_getElem? (i := 34) rfl))) (by decide) (t := .int) (t' := .long) (by decide) (by decide))))
  obtain ⟨T9, h9, X9, e9, W9, st9⟩ := putF X3 hx hZ hown (host := "") (Or.inl (hw _ (List.mem_of_getElem? (i := 35) rfl))) Via.refl e3 F8 E6 (Or.inr ⟨(hw _ (List.mem_of_getElem? (i := 36) rfl)), rfl, hnm⟩) (hw _ (List.mem_of_getElem? (i := 25) rfl)) (ty := .int) (by decide) rfl rfl (g := (mkF m 11 #[.val (.ref a0_), .val (.long j1), .second, .val (.int i2)] [(.int i2), (.ref a0_)])) rfl rfl (hb hby own_d6_11)
  refine own_st st9 ?_
  have Fw9 := F8.same W9
  have N9 := Fr.snoc X9 N3 G0
  have K10 : Keep h0 h9 [a0_] := K4.wr W9 (Or.inl (List.mem_of_getElem? (i := 0) rfl))
  show own_Run p e below s _ _ _ (T9.setTop (mkF m 14 #[.val (.ref a0_), .val (.long j1), .second, .val (.int i2)] []))
  have E12 := (E6.wr W9)
  have F13 := (Fw3.other W9 (Or.inr (slot_ne (Or.inr (hw _ (List.mem_of_getElem? (i := 34) rfl))) (Or.inr (hw _ (List.mem_of_getElem? (i := 36) rfl))) (by decide) (t := .long) (t' := .int) (by decide) (by decide))))
  exact own_retV X9 hx hlk hret (hb hby own_d6_14) (by decide) (by decide) (by show own_Q6 Z a0 a0_ j1 i2 h0 n0 _ T9.heap _; rw [e9]; exact ⟨rfl, N9, K10, E12, F13, Fw9⟩)
theorem own_d5_0 : decode jdk_2320_method_8_code 0 = .ok (.lload_n 0, 1) := by decide +kernel
theorem own_d5_1 : decode jdk_2320_method_8_code 1 = .ok (.iload_n 2, 1) := by decide +kernel
theorem own_d5_2 : decode jdk_2320_method_8_code 2 = .ok (.i2l, 1) := by decide +kernel
theorem own_d5_3 : decode jdk_2320_method_8_code 3 = .ok (.lor, 1) := by decide +kernel
theorem own_d5_4 : decode jdk_2320_method_8_code 4 = .ok (.lconst 0, 1) := by decide +kernel
theorem own_d5_5 : decode jdk_2320_method_8_code 5 = .ok (.lcmp, 1) := by decide +kernel
theorem own_d5_6 : decode jdk_2320_method_8_code 6 = .ok (.ifCond .ne 7, 3) := by decide +kernel
theorem own_d5_9 : decode jdk_2320_method_8_code 9 = .ok (.getstatic 121, 3) := by decide +kernel
theorem own_d5_12 : decode jdk_2320_method_8_code 12 = .ok (.areturn, 1) := by decide +kernel
theorem own_d5_13 : decode jdk_2320_method_8_code 13 = .ok (.lload_n 0, 1) := by decide +kernel
theorem own_d5_14 : decode jdk_2320_method_8_code 14 = .ok (.ldc2_w 125, 3) := by decide +kernel
theorem own_d5_17 : decode jdk_2320_method_8_code 17 = .ok (.lcmp, 1) := by decide +kernel
theorem own_d5_18 : decode jdk_2320_method_8_code 18 = .ok (.ifCond .lt 11, 3) := by decide +kernel
theorem own_d5_21 : decode jdk_2320_method_8_code 21 = .ok (.lload_n 0, 1) := by decide +kernel
theorem own_d5_22 : decode jdk_2320_method_8_code 22 = .ok (.ldc2_w 127, 3) := by decide +kernel
theorem own_d5_25 : decode jdk_2320_method_8_code 25 = .ok (.lcmp, 1) := by decide +kernel
theorem own_d5_26 : decode jdk_2320_method_8_code 26 = .ok (.ifCond .le 13, 3) := by decide +kernel
theorem own_d5_39 : decode jdk_2320_method_8_code 39 = .ok (.new 21, 3) := by decide +kernel
theorem own_d5_42 : decode jdk_2320_method_8_code 42 = .ok (.dup, 1) := by decide +kernel
theorem own_d5_43 : decode jdk_2320_method_8_code 43 = .ok (.lload_n 0, 1) := by decide +kernel
theorem own_d5_44 : decode jdk_2320_method_8_code 44 = .ok (.iload_n 2, 1) := by decide +kernel
theorem own_d5_45 : decode jdk_2320_method_8_code 45 = .ok (.invokespecial 134, 3) := by decide +kernel
theorem own_pd1 : parseMethodDescriptor "(JI)V" = some ⟨[.long, .int], none⟩ := by decide +kernel
theorem own_d5_48 : decode jdk_2320_method_8_code 48 = .ok (.areturn, 1) := by decide +kernel
set_option maxHeartbeats 4000000 in
theorem own_ef5 (m : MethodId) (x0 : Int64) (x1 : Int32) : entryFrame m #[(.long x0), (.int x1)] 3 = mkF m 0 #[.val (.long x0), .second, .val (.int x1)] [] := by first | (simp [entryFrame, mkF, argsToLocals, Value.category]; done) | rfl
def own_Q5 (Z : State) (a0 : Array Value) (j0 : Int64) (i1 : Int32) (t_E : Addr) (h0 : Heap) (n0 : Nat) (v : Option Value) (h : Heap) (L : List Loc) : Prop := ∃ bm : Addr, v = some (.ref bm) ∧ Fr n0 L ∧ Keep h0 h [] ∧ Exa Z h bm "java/time/Instant" ∧ Fld Z h bm "java/time/Instant" "seconds" "J" (.long j0) ∧ Fld Z h bm "java/time/Instant" "nanos" "I" (.int i1)
set_option maxRecDepth 65536 in
set_option maxHeartbeats 40000000 in
theorem own_rm5 (l : Launch) (Z : State) (a0 : Array Value) (hw : ∀ d ∈ tables_1, d.before a0 Z = true) (ws : List Jvm.Cond) (j0 : Int64) (i1 : Int32) (t_E : Addr) (h0 : Heap) (n0 : Nat) (Z0 : n0 ≤ h0.size) (O0 : Old Z n0 h0) (S_E : Sta Z Z.heap "java/time/Instant" "EPOCH" "Ljava/time/Instant;" (.ref t_E)) (X_E : Exa Z h0 t_E "java/time/Instant") (Fs_E : Fld Z h0 t_E "java/time/Instant" "seconds" "J" (.long (0 : Int64))) (Fn_E : Fld Z h0 t_E "java/time/Instant" "nanos" "I" (.int (0 : Int32))) (hbd : -31557014167219200 ≤ j0.toInt ∧ j0.toInt ≤ 31556889864403199) :
    MetFree l (⟨"java/time/Instant", "create", "(JI)Ljava/time/Instant;"⟩ : MethodName) (head1 (Jvm.Cond.code (⟨"java/time/Instant", "create", "(JI)Ljava/time/Instant;"⟩ : MethodName) jdk_2320_method_8_code 3 (some (.object "java/time/Instant")) :: ws) ({ frames := 2, cells := 1, slots := 2, locals := 28 } : Room)) (fun a U => a = #[(.long j0), (.int i1)] ∧ Z.Warmed39 U.vm ∧ U.heap = h0) (fun _ _ _ _ _ => True) (fun _ U o U' => ∃ v L, o = .returned v ∧ own_Q5 Z a0 j0 i1 t_E h0 n0 v U'.heap L ∧ FrameEnd U o U' L ({ frames := 2, cells := 1, slots := 2, locals := 28 } : Room).cells ({ frames := 2, cells := 1, slots := 2, locals := 28 } : Room).slots) := by
  refine own_body (Q := fun v h L => own_Q5 Z a0 j0 i1 t_E h0 n0 v h L) (plainFor_of_name own_pn0) ?_
  intro p e s m below meth c s₁ hx hby hml hZ hown hnm hret hlk X0 e0
  replace hml : c.maxLocals = 3 := hml
  have N0 := Fr.nil n0
  have K0 : Keep h0 h0 [] := Keep.refl _ _
  refine own_st (fun t k => castTop (own_ef5 m j0 i1) k) ?_
  show own_Run p e below s _ _ _ (s₁.setTop (mkF m 0 #[.val (.long j0), .second, .val (.int i1)] []))
  refine own_st (fun t k => XS.lloadN X0.here hx rfl (hb hby own_d5_0) rfl k) ?_
  show own_Run p e below s _ _ _ (s₁.setTop (mkF m 1 #[.val (.long j0), .second, .val (.int i1)] [(.long j0)]))
  refine own_st (fun t k => XS.iloadN X0.here hx rfl (hb hby own_d5_1) rfl k) ?_
  show own_Run p e below s _ _ _ (s₁.setTop (mkF m 2 #[.val (.long j0), .second, .val (.int i1)] [(.int i1), (.long j0)]))
  refine own_st (fun t k => XS.i2l X0.here hx rfl (hb hby own_d5_2) rfl k) ?_
  show own_Run p e below s _ _ _ (s₁.setTop (mkF m 3 #[.val (.long j0), .second, .val (.int i1)] [(.long (i1.toInt64)), (.long j0)]))
  refine own_st (fun t k => XS.lor X0.here hx rfl (hb hby own_d5_3) rfl k) ?_
  show own_Run p e below s _ _ _ (s₁.setTop (mkF m 4 #[.val (.long j0), .second, .val (.int i1)] [(.long (j0 ||| (i1.toInt64)))]))
  refine own_st (fun t k => XS.lconst X0.here hx rfl (hb hby own_d5_4) k) ?_
  show own_Run p e below s _ _ _ (s₁.setTop (mkF m 5 #[.val (.long j0), .second, .val (.int i1)] [(.long (0 : Int64)), (.long (j0 ||| (i1.toInt64)))]))
  refine own_st (fun t k => XS.lcmp X0.here hx rfl (hb hby own_d5_5) rfl k) ?_
  show own_Run p e below s _ _ _ (s₁.setTop (mkF m 6 #[.val (.long j0), .second, .val (.int i1)] [(.int (lcmpW (j0 ||| (i1.toInt64)) (0 : Int64)))]))
  by_cases hA : (j0 ||| i1.toInt64) = (0 : Int64)
  · skip
    have ez := own_orz hA
    refine own_st (fun t k => XS.ifNo X0.here hx rfl (hb hby own_d5_6) rfl ((if0 _ _).trans (teq ((lw_eq _ _).mpr hA : (lcmpW (j0 ||| (i1.toInt64)) (0 : Int64)) = (0 : Int32))).2) k) ?_
    show own_Run p e below s _ _ _ (s₁.setTop (mkF m 9 #[.val (.long j0), .second, .val (.int i1)] []))
    obtain ⟨T14, X14, e14, st14⟩ := getS2 X0 hx hZ hown (host := "") (Or.inl (hw _ (List.mem_of_getElem? (i := 81) rfl))) Via.refl e0 (S_E.ext O0.2) (g := (mkF m 9 #[.val (.long j0), .second, .val (.int i1)] [])) rfl (hb hby own_d5_9)
    refine own_st st14 ?_
    show own_Run p e below s _ _ _ (T14.setTop (mkF m 12 #[.val (.long j0), .second, .val (.int i1)] [(.ref t_E)]))
    have FE15 : Fld Z h0 t_E "java/time/Instant" "seconds" "J" (.long j0) := by rw [ez.1]; exact Fs_E
    have FE16 : Fld Z h0 t_E "java/time/Instant" "nanos" "I" (.int i1) := by rw [ez.2]; exact Fn_E
    exact own_ret X14 hx hlk (t := (.object "java/time/Instant")) hret rfl (Or.inr (Or.inr (Or.inr (Or.inr ⟨rfl, rfl, rfl⟩)))) (hb hby own_d5_12) (by decide) (by decide) (by show own_Q5 Z a0 j0 i1 t_E h0 n0 _ T14.heap _; rw [e14]; exact ⟨t_E, rfl, N0, K0, X_E, FE15, FE16⟩)
  · skip
    refine own_st (fun t k => XS.ifYes X0.here hx rfl (pc0 := 6) (pc' := 13) rfl (hb hby own_d5_6) rfl ((if0 _ _).trans (feq (fun z => hA ((lw_eq _ _).mp z) : ¬ ((lcmpW (j0 ||| (i1.toInt64)) (0 : Int64)) = (0 : Int32)))).2) (by decide) (by decide) k) ?_
    show own_Run p e below s _ _ _ (s₁.setTop (mkF m 13 #[.val (.long j0), .second, .val (.int i1)] []))
    refine own_st (fun t k => XS.lloadN X0.here hx rfl (hb hby own_d5_13) rfl k) ?_
    show own_Run p e below s _ _ _ (s₁.setTop (mkF m 14 #[.val (.long j0), .second, .val (.int i1)] [(.long j0)]))
    refine own_st (X0.ldc2Long hx hown (mvT hZ (hw _ (List.mem_of_getElem? (i := 22) rfl))) (g := (mkF m 14 #[.val (.long j0), .second, .val (.int i1)] [(.long j0)])) rfl (hb hby own_d5_14)) ?_
    show own_Run p e below s _ _ _ (s₁.setTop (mkF m 17 #[.val (.long j0), .second, .val (.int i1)] [(.long (-31557014167219200 : Int64)), (.long j0)]))
    refine own_st (fun t k => XS.lcmp X0.here hx rfl (hb hby own_d5_17) rfl k) ?_
    show own_Run p e below s _ _ _ (s₁.setTop (mkF m 18 #[.val (.long j0), .second, .val (.int i1)] [(.int (lcmpW j0 (-31557014167219200 : Int64)))]))
    refine own_st (fun t k => XS.ifNo X0.here hx rfl (hb hby own_d5_18) rfl ((if0 _ _).trans (flt (fun q => own_cr1 hbd ((lw_lt _ _).mp q) : ¬ ((lcmpW j0 (-31557014167219200 : Int64)) < (0 : Int32)))).1) k) ?_
    show own_Run p e below s _ _ _ (s₁.setTop (mkF m 21 #[.val (.long j0), .second, .val (.int i1)] []))
    refine own_st (fun t k => XS.lloadN X0.here hx rfl (hb hby own_d5_21) rfl k) ?_
    show own_Run p e below s _ _ _ (s₁.setTop (mkF m 22 #[.val (.long j0), .second, .val (.int i1)] [(.long j0)]))
    refine own_st (X0.ldc2Long hx hown (mvT hZ (hw _ (List.mem_of_getElem? (i := 23) rfl))) (g := (mkF m 22 #[.val (.long j0), .second, .val (.int i1)] [(.long j0)])) rfl (hb hby own_d5_22)) ?_
    show own_Run p e below s _ _ _ (s₁.setTop (mkF m 25 #[.val (.long j0), .second, .val (.int i1)] [(.long (31556889864403199 : Int64)), (.long j0)]))
    refine own_st (fun t k => XS.lcmp X0.here hx rfl (hb hby own_d5_25) rfl k) ?_
    show own_Run p e below s _ _ _ (s₁.setTop (mkF m 26 #[.val (.long j0), .second, .val (.int i1)] [(.int (lcmpW j0 (31556889864403199 : Int64)))]))
    refine own_st (fun t k => XS.ifYes X0.here hx rfl (pc0 := 26) (pc' := 39) rfl (hb hby own_d5_26) rfl ((if0 _ _).trans (flt (fun q => own_cr2 hbd ((lw_gt _ _).mp q) : ¬ ((0 : Int32) < (lcmpW j0 (31556889864403199 : Int64))))).2.2.2) (by decide) (by decide) k) ?_
    show own_Run p e below s _ _ _ (s₁.setTop (mkF m 39 #[.val (.long j0), .second, .val (.int i1)] []))
    obtain ⟨T17, h17, X17, e17, E17, A17, D17, -, st17⟩ := newO X0 hx hZ hown (hw _ (List.mem_of_getElem? (i := 24) rfl)) (hw _ (List.mem_of_getElem? (i := 25) rfl)) (hw _ (List.mem_of_getElem? (i := 6) rfl)) e0 (g := (mkF m 39 #[.val (.long j0), .second, .val (.int i1)] [])) rfl (hb hby own_d5_39) (by decide) (by decide)
    obtain ⟨b17, g17⟩ : ∃ z, z = h0.size := ⟨_, rfl⟩
    rw [← g17] at A17 D17 st17
    have sz18 : h0.size ≤ b17 := Nat.le_trans K0.1 (Nat.le_of_eq g17.symm)
    have ge19 : n0 ≤ b17 := Nat.le_trans Z0 sz18
    refine own_st st17 ?_
    have K20 : Keep h0 h17 [] := K0.ext E17
    have O21 := O0.ext E17
    show own_Run p e below s _ _ _ (T17.setTop (mkF m 42 #[.val (.long j0), .second, .val (.int i1)] [(.ref b17)]))
    refine own_st (fun t k => XS.dup X17.here hx rfl (hb hby own_d5_42) rfl rfl k) ?_
    show own_Run p e below s _ _ _ (T17.setTop (mkF m 43 #[.val (.long j0), .second, .val (.int i1)] [(.ref b17), (.ref b17)]))
    refine own_st (fun t k => XS.lloadN X17.here hx rfl (hb hby own_d5_43) rfl k) ?_
    show own_Run p e below s _ _ _ (T17.setTop (mkF m 44 #[.val (.long j0), .second, .val (.int i1)] [(.long j0), (.ref b17), (.ref b17)]))
    refine own_st (fun t k => XS.iloadN X17.here hx rfl (hb hby own_d5_44) rfl k) ?_
    show own_Run p e below s _ _ _ (T17.setTop (mkF m 45 #[.val (.long j0), .second, .val (.int i1)] [(.int i1), (.long j0), (.ref b17), (.ref b17)]))
    refine own_callI X17 hx hZ (y := (⟨"java/time/Instant", "<init>", "(JI)V"⟩ : MethodName)) rfl hown (hw _ (List.mem_of_getElem? (i := 26) rfl)) (hw _ (List.mem_of_getElem? (i := 27) rfl)) (hw _ (List.mem_of_getElem? (i := 29) rfl)) (hw _ (List.mem_of_getElem? (i := 6) rfl)) (by decide) e17 (a := b17) (argsL := [(.long j0), (.int i1)]) (rest := [(.ref b17)]) (W := 1) (own_rm6 l Z a0 hw [] b17 j0 i1 h17 n0 (Nat.le_trans Z0 K20.1) A17 D17 ge19) (by decide) (by decide) (by rw [hml]; rfl) (lenOf own_pd1 rfl) rfl (by exact Nat.le_of_eq rfl) (hb hby own_d5_45) (by decide) (by decide) ?_
    intro T22 v22 L22 X22 hq22
    obtain ⟨rfl, N22q, K22q, Q23, Q24, Q25⟩ := hq22
    have K26 : Keep h0 T22.heap [] := K20.trans K22q (allS (Or.inr sz18) all0)
    have O27 := O21.keep K22q (allS ge19 all0)
    have N22 := Fr.app N0 N22q
    show own_Run p e below s _ _ _ (T22.setTop (mkF m 48 #[.val (.long j0), .second, .val (.int i1)] [(.ref b17)]))
    exact own_ret X22 hx hlk (t := (.object "java/time/Instant")) hret rfl (Or.inr (Or.inr (Or.inr (Or.inr ⟨rfl, rfl, rfl⟩)))) (hb hby own_d5_48) (by decide) (by decide) ⟨b17, rfl, N22, K26, Q23, Q24, Q25⟩
theorem own_d13_0 : decode jdk_2320_method_3_code 0 = .ok (.lload_n 0, 1) := by decide +kernel
theorem own_d13_1 : decode jdk_2320_method_3_code 1 = .ok (.iconst 0, 1) := by decide +kernel
theorem own_d13_2 : decode jdk_2320_method_3_code 2 = .ok (.invokestatic 20, 3) := by decide +kernel
theorem own_pd2 : parseMethodDescriptor "(JI)Ljava/time/Instant;" = some ⟨[.long, .int], some (.object "java/time/Instant")⟩ := by decide +kernel
theorem own_d13_5 : decode jdk_2320_method_3_code 5 = .ok (.areturn, 1) := by decide +kernel
set_option maxHeartbeats 4000000 in
theorem own_ef13 (m : MethodId) (x0 : Int64) : entryFrame m #[(.long x0)] 2 = mkF m 0 #[.val (.long x0), .second] [] := by first | (simp [entryFrame, mkF, argsToLocals, Value.category]; done) | rfl
def own_Q13 (Z : State) (a0 : Array Value) (j0 : Int64) (t_E : Addr) (h0 : Heap) (n0 : Nat) (v : Option Value) (h : Heap) (L : List Loc) : Prop := ∃ bm : Addr, v = some (.ref bm) ∧ Fr n0 L ∧ Keep h0 h [] ∧ Exa Z h bm "java/time/Instant" ∧ Fld Z h bm "java/time/Instant" "seconds" "J" (.long j0) ∧ Fld Z h bm "java/time/Instant" "nanos" "I" (.int (0 : Int32))
set_option maxRecDepth 65536 in
set_option maxHeartbeats 40000000 in
theorem own_rm13 (l : Launch) (Z : State) (a0 : Array Value) (hw : ∀ d ∈ tables_1, d.before a0 Z = true) (ws : List Jvm.Cond) (j0 : Int64) (t_E : Addr) (h0 : Heap) (n0 : Nat) (Z0 : n0 ≤ h0.size) (O0 : Old Z n0 h0) (S_E : Sta Z Z.heap "java/time/Instant" "EPOCH" "Ljava/time/Instant;" (.ref t_E)) (X_E : Exa Z h0 t_E "java/time/Instant") (Fs_E : Fld Z h0 t_E "java/time/Instant" "seconds" "J" (.long (0 : Int64))) (Fn_E : Fld Z h0 t_E "java/time/Instant" "nanos" "I" (.int (0 : Int32))) (hbd : -31557014167219200 ≤ j0.toInt ∧ j0.toInt ≤ 31556889864403199) :
    MetFree l (⟨"java/time/Instant", "ofEpochSecond", "(J)Ljava/time/Instant;"⟩ : MethodName) (head1 (Jvm.Cond.code (⟨"java/time/Instant", "ofEpochSecond", "(J)Ljava/time/Instant;"⟩ : MethodName) jdk_2320_method_3_code 2 (some (.object "java/time/Instant")) :: ws) ({ frames := 3, cells := 1, slots := 2, locals := 42 } : Room)) (fun a U => a = #[(.long j0)] ∧ Z.Warmed39 U.vm ∧ U.heap = h0) (fun _ _ _ _ _ => True) (fun _ U o U' => ∃ v L, o = .returned v ∧ own_Q13 Z a0 j0 t_E h0 n0 v U'.heap L ∧ FrameEnd U o U' L ({ frames := 3, cells := 1, slots := 2, locals := 42 } : Room).cells ({ frames := 3, cells := 1, slots := 2, locals := 42 } : Room).slots) := by
  refine own_body (Q := fun v h L => own_Q13 Z a0 j0 t_E h0 n0 v h L) (plainFor_of_name own_pn0) ?_
  intro p e s m below meth c s₁ hx hby hml hZ hown hnm hret hlk X0 e0
  replace hml : c.maxLocals = 2 := hml
  have N0 := Fr.nil n0
  have K0 : Keep h0 h0 [] := Keep.refl _ _
  refine own_st (fun t k => castTop (own_ef13 m j0) k) ?_
  show own_Run p e below s _ _ _ (s₁.setTop (mkF m 0 #[.val (.long j0), .second] []))
  refine own_st (fun t k => XS.lloadN X0.here hx rfl (hb hby own_d13_0) rfl k) ?_
  show own_Run p e below s _ _ _ (s₁.setTop (mkF m 1 #[.val (.long j0), .second] [(.long j0)]))
  refine own_st (fun t k => XS.iconst X0.here hx rfl (hb hby own_d13_1) k) ?_
  show own_Run p e below s _ _ _ (s₁.setTop (mkF m 2 #[.val (.long j0), .second] [(.int (0 : Int32)), (.long j0)]))
  refine own_callS X0 hx hZ (y := (⟨"java/time/Instant", "create", "(JI)Ljava/time/Instant;"⟩ : MethodName)) hown (hw _ (List.mem_of_getElem? (i := 19) rfl)) (hw _ (List.mem_of_getElem? (i := 20) rfl)) (hw _ (List.mem_of_getElem? (i := 21) rfl)) (hw _ (List.mem_of_getElem? (i := 6) rfl)) (by decide) e0 (argsL := [(.long j0), (.int (0 : Int32))]) (rest := []) (W := 0) (own_rm5 l Z a0 hw [] j0 (0 : Int32) t_E h0 n0 (Nat.le_trans Z0 K0.1) O0 S_E X_E Fs_E Fn_E (hbd)) (by decide) (by decide) (by rw [hml]; rfl) (lenOf own_pd2 rfl) rfl (by exact Nat.le_of_eq rfl) (hb hby own_d13_2) (by decide) (by decide) ?_
  intro T28 v28 L28 X28 hq28
  obtain ⟨b28, rfl, N28q, K28q, Q29, Q30, Q31⟩ := hq28
  have K32 : Keep h0 T28.heap [] := K0.trans K28q all0
  have O33 := O0.keep K28q all0
  have N28 := Fr.app N0 N28q
  show own_Run p e below s _ _ _ (T28.setTop (mkF m 5 #[.val (.long j0), .second] [(.ref b28)]))
  exact own_ret X28 hx hlk (t := (.object "java/time/Instant")) hret rfl (Or.inr (Or.inr (Or.inr (Or.inr ⟨rfl, rfl, rfl⟩)))) (hb hby own_d13_5) (by decide) (by decide) ⟨b28, rfl, N28, K32, Q29, Q30, Q31⟩
theorem own_d2_0 : decode jdk_29_method_49_code 0 = .ok (.lload_n 0, 1) := by decide +kernel
theorem own_d2_1 : decode jdk_29_method_49_code 1 = .ok (.lload_n 2, 1) := by decide +kernel
theorem own_d2_2 : decode jdk_29_method_49_code 2 = .ok (.ldiv, 1) := by decide +kernel
theorem own_d2_3 : decode jdk_29_method_49_code 3 = .ok (.lstore 4, 2) := by decide +kernel
theorem own_d2_5 : decode jdk_29_method_49_code 5 = .ok (.lload_n 0, 1) := by decide +kernel
theorem own_d2_6 : decode jdk_29_method_49_code 6 = .ok (.lload_n 2, 1) := by decide +kernel
theorem own_d2_7 : decode jdk_29_method_49_code 7 = .ok (.lxor, 1) := by decide +kernel
theorem own_d2_8 : decode jdk_29_method_49_code 8 = .ok (.lconst 0, 1) := by decide +kernel
theorem own_d2_9 : decode jdk_29_method_49_code 9 = .ok (.lcmp, 1) := by decide +kernel
theorem own_d2_10 : decode jdk_29_method_49_code 10 = .ok (.ifCond .ge 17, 3) := by decide +kernel
theorem own_d2_27 : decode jdk_29_method_49_code 27 = .ok (.lload 4, 2) := by decide +kernel
theorem own_d2_29 : decode jdk_29_method_49_code 29 = .ok (.lreturn, 1) := by decide +kernel
set_option maxHeartbeats 4000000 in
theorem own_ef2 (m : MethodId) (x0 : Int64) (x1 : Int64) : entryFrame m #[(.long x0), (.long x1)] 6 = mkF m 0 #[.val (.long x0), .second, .val (.long x1), .second, .unset, .unset] [] := by first | (simp [entryFrame, mkF, argsToLocals, Value.category]; done) | rfl
def own_Q2 (Z : State) (a0 : Array Value) (j0 : Int64) (h0 : Heap) (n0 : Nat) (v : Option Value) (h : Heap) (L : List Loc) : Prop := v = some (.long (0 : Int64)) ∧ Fr n0 L ∧ h = h0
set_option maxRecDepth 65536 in
set_option maxHeartbeats 40000000 in
theorem own_rm2 (l : Launch) (Z : State) (a0 : Array Value) (hw : ∀ d ∈ tables_1, d.before a0 Z = true) (ws : List Jvm.Cond) (j0 : Int64) (h0 : Heap) (n0 : Nat) (Z0 : n0 ≤ h0.size) (hn : 0 ≤ j0.toInt ∧ j0.toInt ≤ 999999999) :
    MetFree l (⟨"java/lang/Math", "floorDiv", "(JJ)J"⟩ : MethodName) (head1 (Jvm.Cond.code (⟨"java/lang/Math", "floorDiv", "(JJ)J"⟩ : MethodName) jdk_29_method_49_code 6 (some .long) :: ws) ({ frames := 0, cells := 0, slots := 0, locals := 0 } : Room)) (fun a U => a = #[(.long j0), (.long (1000000000 : Int64))] ∧ Z.Warmed39 U.vm ∧ U.heap = h0) (fun _ _ _ _ _ => True) (fun _ U o U' => ∃ v L, o = .returned v ∧ own_Q2 Z a0 j0 h0 n0 v U'.heap L ∧ FrameEnd U o U' L ({ frames := 0, cells := 0, slots := 0, locals := 0 } : Room).cells ({ frames := 0, cells := 0, slots := 0, locals := 0 } : Room).slots) := by
  refine own_body (Q := fun v h L => own_Q2 Z a0 j0 h0 n0 v h L) (Jvm.Free.JP.mathPlain rfl (by decide +kernel)) ?_
  intro p e s m below meth c s₁ hx hby hml hZ hown hnm hret hlk X0 e0
  replace hml : c.maxLocals = 6 := hml
  have N0 := Fr.nil n0
  have K0 : Keep h0 h0 [] := Keep.refl _ _
  refine own_st (fun t k => castTop (own_ef2 m j0 (1000000000 : Int64)) k) ?_
  show own_Run p e below s _ _ _ (s₁.setTop (mkF m 0 #[.val (.long j0), .second, .val (.long (1000000000 : Int64)), .second, .unset, .unset] []))
  refine own_st (fun t k => XS.lloadN X0.here hx rfl (hb hby own_d2_0) rfl k) ?_
  show own_Run p e below s _ _ _ (s₁.setTop (mkF m 1 #[.val (.long j0), .second, .val (.long (1000000000 : Int64)), .second, .unset, .unset] [(.long j0)]))
  refine own_st (fun t k => XS.lloadN X0.here hx rfl (hb hby own_d2_1) rfl k) ?_
  show own_Run p e below s _ _ _ (s₁.setTop (mkF m 2 #[.val (.long j0), .second, .val (.long (1000000000 : Int64)), .second, .unset, .unset] [(.long (1000000000 : Int64)), (.long j0)]))
  refine own_st (fun t k => XS.ldiv X0.here hx rfl (hb hby own_d2_2) rfl (by decide) k) ?_
  show own_Run p e below s _ _ _ (s₁.setTop (mkF m 3 #[.val (.long j0), .second, .val (.long (1000000000 : Int64)), .second, .unset, .unset] [(.long (j0 / (1000000000 : Int64)))]))
  refine own_topJ (own_fdz hn) ?_
  show own_Run p e below s _ _ _ (s₁.setTop (mkF m 3 #[.val (.long j0), .second, .val (.long (1000000000 : Int64)), .second, .unset, .unset] [(.long (0 : Int64))]))
  refine own_st (fun t k => XS.lstore X0.here hx rfl (hb hby own_d2_3) rfl (l' := #[.val (.long j0), .second, .val (.long (1000000000 : Int64)), .second, .val (.long (0 : Int64)), .second]) rfl k) ?_
  show own_Run p e below s _ _ _ (s₁.setTop (mkF m 5 #[.val (.long j0), .second, .val (.long (1000000000 : Int64)), .second, .val (.long (0 : Int64)), .second] []))
  refine own_st (fun t k => XS.lloadN X0.here hx rfl (hb hby own_d2_5) rfl k) ?_
  show own_Run p e below s _ _ _ (s₁.setTop (mkF m 6 #[.val (.long j0), .second, .val (.long (1000000000 : Int64)), .second, .val (.long (0 : Int64)), .second] [(.long j0)]))
  refine own_st (fun t k => XS.lloadN X0.here hx rfl (hb hby own_d2_6) rfl k) ?_
  show own_Run p e below s _ _ _ (s₁.setTop (mkF m 7 #[.val (.long j0), .second, .val (.long (1000000000 : Int64)), .second, .val (.long (0 : Int64)), .second] [(.long (1000000000 : Int64)), (.long j0)]))
  refine own_st (fun t k => XS.lxor X0.here hx rfl (hb hby own_d2_7) rfl k) ?_
  show own_Run p e below s _ _ _ (s₁.setTop (mkF m 8 #[.val (.long j0), .second, .val (.long (1000000000 : Int64)), .second, .val (.long (0 : Int64)), .second] [(.long (j0 ^^^ (1000000000 : Int64)))]))
  refine own_st (fun t k => XS.lconst X0.here hx rfl (hb hby own_d2_8) k) ?_
  show own_Run p e below s _ _ _ (s₁.setTop (mkF m 9 #[.val (.long j0), .second, .val (.long (1000000000 : Int64)), .second, .val (.long (0 : Int64)), .second] [(.long (0 : Int64)), (.long (j0 ^^^ (1000000000 : Int64)))]))
  refine own_st (fun t k => XS.lcmp X0.here hx rfl (hb hby own_d2_9) rfl k) ?_
  show own_Run p e below s _ _ _ (s₁.setTop (mkF m 10 #[.val (.long j0), .second, .val (.long (1000000000 : Int64)), .second, .val (.long (0 : Int64)), .second] [(.int (lcmpW (j0 ^^^ (1000000000 : Int64)) (0 : Int64)))]))
  refine own_st (fun t k => XS.ifYes X0.here hx rfl (pc0 := 10) (pc' := 27) rfl (hb hby own_d2_10) rfl ((if0 _ _).trans (flt (fun q => own_xg hn ((lw_lt _ _).mp q) : ¬ ((lcmpW (j0 ^^^ (1000000000 : Int64)) (0 : Int64)) < (0 : Int32)))).2.1) (by decide) (by decide) k) ?_
  show own_Run p e below s _ _ _ (s₁.setTop (mkF m 27 #[.val (.long j0), .second, .val (.long (1000000000 : Int64)), .second, .val (.long (0 : Int64)), .second] []))
  refine own_st (fun t k => XS.lload X0.here hx rfl (hb hby own_d2_27) rfl k) ?_
  show own_Run p e below s _ _ _ (s₁.setTop (mkF m 29 #[.val (.long j0), .second, .val (.long (1000000000 : Int64)), .second, .val (.long (0 : Int64)), .second] [(.long (0 : Int64))]))
  exact own_ret X0 hx hlk (t := .long) hret rfl (Or.inr (Or.inl ⟨rfl, rfl, _, rfl⟩)) (hb hby own_d2_29) (by decide) (by decide) ⟨rfl, N0, e0⟩
theorem own_d3_0 : decode jdk_29_method_25_code 0 = .ok (.lload_n 0, 1) := by decide +kernel
theorem own_d3_1 : decode jdk_29_method_25_code 1 = .ok (.lload_n 2, 1) := by decide +kernel
theorem own_d3_2 : decode jdk_29_method_25_code 2 = .ok (.ladd, 1) := by decide +kernel
theorem own_d3_3 : decode jdk_29_method_25_code 3 = .ok (.lstore 4, 2) := by decide +kernel
theorem own_d3_5 : decode jdk_29_method_25_code 5 = .ok (.lload_n 0, 1) := by decide +kernel
theorem own_d3_6 : decode jdk_29_method_25_code 6 = .ok (.lload 4, 2) := by decide +kernel
theorem own_d3_8 : decode jdk_29_method_25_code 8 = .ok (.lxor, 1) := by decide +kernel
theorem own_d3_9 : decode jdk_29_method_25_code 9 = .ok (.lload_n 2, 1) := by decide +kernel
theorem own_d3_10 : decode jdk_29_method_25_code 10 = .ok (.lload 4, 2) := by decide +kernel
theorem own_d3_12 : decode jdk_29_method_25_code 12 = .ok (.lxor, 1) := by decide +kernel
theorem own_d3_13 : decode jdk_29_method_25_code 13 = .ok (.land, 1) := by decide +kernel
theorem own_d3_14 : decode jdk_29_method_25_code 14 = .ok (.lconst 0, 1) := by decide +kernel
theorem own_d3_15 : decode jdk_29_method_25_code 15 = .ok (.lcmp, 1) := by decide +kernel
theorem own_d3_16 : decode jdk_29_method_25_code 16 = .ok (.ifCond .ge 13, 3) := by decide +kernel
theorem own_d3_29 : decode jdk_29_method_25_code 29 = .ok (.lload 4, 2) := by decide +kernel
theorem own_d3_31 : decode jdk_29_method_25_code 31 = .ok (.lreturn, 1) := by decide +kernel
set_option maxHeartbeats 4000000 in
theorem own_ef3 (m : MethodId) (x0 : Int64) (x1 : Int64) : entryFrame m #[(.long x0), (.long x1)] 6 = mkF m 0 #[.val (.long x0), .second, .val (.long x1), .second, .unset, .unset] [] := by first | (simp [entryFrame, mkF, argsToLocals, Value.category]; done) | rfl
def own_Q3 (Z : State) (a0 : Array Value) (j0 : Int64) (h0 : Heap) (n0 : Nat) (v : Option Value) (h : Heap) (L : List Loc) : Prop := v = some (.long j0) ∧ Fr n0 L ∧ h = h0
set_option maxRecDepth 65536 in
set_option maxHeartbeats 40000000 in
theorem own_rm3 (l : Launch) (Z : State) (a0 : Array Value) (hw : ∀ d ∈ tables_1, d.before a0 Z = true) (ws : List Jvm.Cond) (j0 : Int64) (h0 : Heap) (n0 : Nat) (Z0 : n0 ≤ h0.size) :
    MetFree l (⟨"java/lang/Math", "addExact", "(JJ)J"⟩ : MethodName) (head1 (Jvm.Cond.code (⟨"java/lang/Math", "addExact", "(JJ)J"⟩ : MethodName) jdk_29_method_25_code 6 (some .long) :: ws) ({ frames := 0, cells := 0, slots := 0, locals := 0 } : Room)) (fun a U => a = #[(.long j0), (.long (0 : Int64))] ∧ Z.Warmed39 U.vm ∧ U.heap = h0) (fun _ _ _ _ _ => True) (fun _ U o U' => ∃ v L, o = .returned v ∧ own_Q3 Z a0 j0 h0 n0 v U'.heap L ∧ FrameEnd U o U' L ({ frames := 0, cells := 0, slots := 0, locals := 0 } : Room).cells ({ frames := 0, cells := 0, slots := 0, locals := 0 } : Room).slots) := by
  refine own_body (Q := fun v h L => own_Q3 Z a0 j0 h0 n0 v h L) (Jvm.Free.JP.mathPlain rfl (by decide +kernel)) ?_
  intro p e s m below meth c s₁ hx hby hml hZ hown hnm hret hlk X0 e0
  replace hml : c.maxLocals = 6 := hml
  have N0 := Fr.nil n0
  have K0 : Keep h0 h0 [] := Keep.refl _ _
  refine own_st (fun t k => castTop (own_ef3 m j0 (0 : Int64)) k) ?_
  show own_Run p e below s _ _ _ (s₁.setTop (mkF m 0 #[.val (.long j0), .second, .val (.long (0 : Int64)), .second, .unset, .unset] []))
  refine own_st (fun t k => XS.lloadN X0.here hx rfl (hb hby own_d3_0) rfl k) ?_
  show own_Run p e below s _ _ _ (s₁.setTop (mkF m 1 #[.val (.long j0), .second, .val (.long (0 : Int64)), .second, .unset, .unset] [(.long j0)]))
  refine own_st (fun t k => XS.lloadN X0.here hx rfl (hb hby own_d3_1) rfl k) ?_
  show own_Run p e below s _ _ _ (s₁.setTop (mkF m 2 #[.val (.long j0), .second, .val (.long (0 : Int64)), .second, .unset, .unset] [(.long (0 : Int64)), (.long j0)]))
  refine own_st (fun t k => XS.ladd X0.here hx rfl (hb hby own_d3_2) rfl k) ?_
  show own_Run p e below s _ _ _ (s₁.setTop (mkF m 3 #[.val (.long j0), .second, .val (.long (0 : Int64)), .second, .unset, .unset] [(.long (j0 + (0 : Int64)))]))
  refine own_topJ (Int64.add_zero _) ?_
  show own_Run p e below s _ _ _ (s₁.setTop (mkF m 3 #[.val (.long j0), .second, .val (.long (0 : Int64)), .second, .unset, .unset] [(.long j0)]))
  refine own_st (fun t k => XS.lstore X0.here hx rfl (hb hby own_d3_3) rfl (l' := #[.val (.long j0), .second, .val (.long (0 : Int64)), .second, .val (.long j0), .second]) rfl k) ?_
  show own_Run p e below s _ _ _ (s₁.setTop (mkF m 5 #[.val (.long j0), .second, .val (.long (0 : Int64)), .second, .val (.long j0), .second] []))
  refine own_st (fun t k => XS.lloadN X0.here hx rfl (hb hby own_d3_5) rfl k) ?_
  show own_Run p e below s _ _ _ (s₁.setTop (mkF m 6 #[.val (.long j0), .second, .val (.long (0 : Int64)), .second, .val (.long j0), .second] [(.long j0)]))
  refine own_st (fun t k => XS.lload X0.here hx rfl (hb hby own_d3_6) rfl k) ?_
  show own_Run p e below s _ _ _ (s₁.setTop (mkF m 8 #[.val (.long j0), .second, .val (.long (0 : Int64)), .second, .val (.long j0), .second] [(.long j0), (.long j0)]))
  refine own_st (fun t k => XS.lxor X0.here hx rfl (hb hby own_d3_8) rfl k) ?_
  show own_Run p e below s _ _ _ (s₁.setTop (mkF m 9 #[.val (.long j0), .second, .val (.long (0 : Int64)), .second, .val (.long j0), .second] [(.long (j0 ^^^ j0))]))
  refine own_topJ (Int64.xor_self) ?_
  show own_Run p e below s _ _ _ (s₁.setTop (mkF m 9 #[.val (.long j0), .second, .val (.long (0 : Int64)), .second, .val (.long j0), .second] [(.long (0 : Int64))]))
  refine own_st (fun t k => XS.lloadN X0.here hx rfl (hb hby own_d3_9) rfl k) ?_
  show own_Run p e below s _ _ _ (s₁.setTop (mkF m 10 #[.val (.long j0), .second, .val (.long (0 : Int64)), .second, .val (.long j0), .second] [(.long (0 : Int64)), (.long (0 : Int64))]))
  refine own_st (fun t k => XS.lload X0.here hx rfl (hb hby own_d3_10) rfl k) ?_
  show own_Run p e below s _ _ _ (s₁.setTop (mkF m 12 #[.val (.long j0), .second, .val (.long (0 : Int64)), .second, .val (.long j0), .second] [(.long j0), (.long (0 : Int64)), (.long (0 : Int64))]))
  refine own_st (fun t k => XS.lxor X0.here hx rfl (hb hby own_d3_12) rfl k) ?_
  show own_Run p e below s _ _ _ (s₁.setTop (mkF m 13 #[.val (.long j0), .second, .val (.long (0 : Int64)), .second, .val (.long j0), .second] [(.long ((0 : Int64) ^^^ j0)), (.long (0 : Int64))]))
  refine own_st (fun t k => XS.land X0.here hx rfl (hb hby own_d3_13) rfl k) ?_
  show own_Run p e below s _ _ _ (s₁.setTop (mkF m 14 #[.val (.long j0), .second, .val (.long (0 : Int64)), .second, .val (.long j0), .second] [(.long ((0 : Int64) &&& ((0 : Int64) ^^^ j0)))]))
  refine own_topJ (Int64.zero_and) ?_
  show own_Run p e below s _ _ _ (s₁.setTop (mkF m 14 #[.val (.long j0), .second, .val (.long (0 : Int64)), .second, .val (.long j0), .second] [(.long (0 : Int64))]))
  refine own_st (fun t k => XS.lconst X0.here hx rfl (hb hby own_d3_14) k) ?_
  show own_Run p e below s _ _ _ (s₁.setTop (mkF m 15 #[.val (.long j0), .second, .val (.long (0 : Int64)), .second, .val (.long j0), .second] [(.long (0 : Int64)), (.long (0 : Int64))]))
  refine own_st (fun t k => XS.lcmp X0.here hx rfl (hb hby own_d3_15) rfl k) ?_
  show own_Run p e below s _ _ _ (s₁.setTop (mkF m 16 #[.val (.long j0), .second, .val (.long (0 : Int64)), .second, .val (.long j0), .second] [(.int (lcmpW (0 : Int64) (0 : Int64)))]))
  refine own_topI (show lcmpW (0 : Int64) (0 : Int64) = (0 : Int32) by decide) ?_
  show own_Run p e below s _ _ _ (s₁.setTop (mkF m 16 #[.val (.long j0), .second, .val (.long (0 : Int64)), .second, .val (.long j0), .second] [(.int (0 : Int32))]))
  refine own_st (fun t k => XS.ifYes X0.here hx rfl (pc0 := 16) (pc' := 29) rfl (hb hby own_d3_16) rfl ((if0 _ _).trans (flt (by decide : ¬ ((0 : Int32) < (0 : Int32)))).2.1) (by decide) (by decide) k) ?_
  show own_Run p e below s _ _ _ (s₁.setTop (mkF m 29 #[.val (.long j0), .second, .val (.long (0 : Int64)), .second, .val (.long j0), .second] []))
  refine own_st (fun t k => XS.lload X0.here hx rfl (hb hby own_d3_29) rfl k) ?_
  show own_Run p e below s _ _ _ (s₁.setTop (mkF m 31 #[.val (.long j0), .second, .val (.long (0 : Int64)), .second, .val (.long j0), .second] [(.long j0)]))
  exact own_ret X0 hx hlk (t := .long) hret rfl (Or.inr (Or.inl ⟨rfl, rfl, _, rfl⟩)) (hb hby own_d3_31) (by decide) (by decide) ⟨rfl, N0, e0⟩
theorem own_d4_0 : decode jdk_29_method_52_code 0 = .ok (.lload_n 0, 1) := by decide +kernel
theorem own_d4_1 : decode jdk_29_method_52_code 1 = .ok (.lload_n 2, 1) := by decide +kernel
theorem own_d4_2 : decode jdk_29_method_52_code 2 = .ok (.lrem, 1) := by decide +kernel
theorem own_d4_3 : decode jdk_29_method_52_code 3 = .ok (.lstore 4, 2) := by decide +kernel
theorem own_d4_5 : decode jdk_29_method_52_code 5 = .ok (.lload_n 0, 1) := by decide +kernel
theorem own_d4_6 : decode jdk_29_method_52_code 6 = .ok (.lload_n 2, 1) := by decide +kernel
theorem own_d4_7 : decode jdk_29_method_52_code 7 = .ok (.lxor, 1) := by decide +kernel
theorem own_d4_8 : decode jdk_29_method_52_code 8 = .ok (.lconst 0, 1) := by decide +kernel
theorem own_d4_9 : decode jdk_29_method_52_code 9 = .ok (.lcmp, 1) := by decide +kernel
theorem own_d4_10 : decode jdk_29_method_52_code 10 = .ok (.ifCond .ge 15, 3) := by decide +kernel
theorem own_d4_25 : decode jdk_29_method_52_code 25 = .ok (.lload 4, 2) := by decide +kernel
theorem own_d4_27 : decode jdk_29_method_52_code 27 = .ok (.lreturn, 1) := by decide +kernel
set_option maxHeartbeats 4000000 in
theorem own_ef4 (m : MethodId) (x0 : Int64) (x1 : Int64) : entryFrame m #[(.long x0), (.long x1)] 6 = mkF m 0 #[.val (.long x0), .second, .val (.long x1), .second, .unset, .unset] [] := by first | (simp [entryFrame, mkF, argsToLocals, Value.category]; done) | rfl
def own_Q4 (Z : State) (a0 : Array Value) (j0 : Int64) (h0 : Heap) (n0 : Nat) (v : Option Value) (h : Heap) (L : List Loc) : Prop := v = some (.long j0) ∧ Fr n0 L ∧ h = h0
set_option maxRecDepth 65536 in
set_option maxHeartbeats 40000000 in
theorem own_rm4 (l : Launch) (Z : State) (a0 : Array Value) (hw : ∀ d ∈ tables_1, d.before a0 Z = true) (ws : List Jvm.Cond) (j0 : Int64) (h0 : Heap) (n0 : Nat) (Z0 : n0 ≤ h0.size) (hn : 0 ≤ j0.toInt ∧ j0.toInt ≤ 999999999) :
    MetFree l (⟨"java/lang/Math", "floorMod", "(JJ)J"⟩ : MethodName) (head1 (Jvm.Cond.code (⟨"java/lang/Math", "floorMod", "(JJ)J"⟩ : MethodName) jdk_29_method_52_code 6 (some .long) :: ws) ({ frames := 0, cells := 0, slots := 0, locals := 0 } : Room)) (fun a U => a = #[(.long j0), (.long (1000000000 : Int64))] ∧ Z.Warmed39 U.vm ∧ U.heap = h0) (fun _ _ _ _ _ => True) (fun _ U o U' => ∃ v L, o = .returned v ∧ own_Q4 Z a0 j0 h0 n0 v U'.heap L ∧ FrameEnd U o U' L ({ frames := 0, cells := 0, slots := 0, locals := 0 } : Room).cells ({ frames := 0, cells := 0, slots := 0, locals := 0 } : Room).slots) := by
  refine own_body (Q := fun v h L => own_Q4 Z a0 j0 h0 n0 v h L) (Jvm.Free.JP.mathPlain rfl (by decide +kernel)) ?_
  intro p e s m below meth c s₁ hx hby hml hZ hown hnm hret hlk X0 e0
  replace hml : c.maxLocals = 6 := hml
  have N0 := Fr.nil n0
  have K0 : Keep h0 h0 [] := Keep.refl _ _
  refine own_st (fun t k => castTop (own_ef4 m j0 (1000000000 : Int64)) k) ?_
  show own_Run p e below s _ _ _ (s₁.setTop (mkF m 0 #[.val (.long j0), .second, .val (.long (1000000000 : Int64)), .second, .unset, .unset] []))
  refine own_st (fun t k => XS.lloadN X0.here hx rfl (hb hby own_d4_0) rfl k) ?_
  show own_Run p e below s _ _ _ (s₁.setTop (mkF m 1 #[.val (.long j0), .second, .val (.long (1000000000 : Int64)), .second, .unset, .unset] [(.long j0)]))
  refine own_st (fun t k => XS.lloadN X0.here hx rfl (hb hby own_d4_1) rfl k) ?_
  show own_Run p e below s _ _ _ (s₁.setTop (mkF m 2 #[.val (.long j0), .second, .val (.long (1000000000 : Int64)), .second, .unset, .unset] [(.long (1000000000 : Int64)), (.long j0)]))
  refine own_st (fun t k => XS.lrem X0.here hx rfl (hb hby own_d4_2) rfl (by decide) k) ?_
  show own_Run p e below s _ _ _ (s₁.setTop (mkF m 3 #[.val (.long j0), .second, .val (.long (1000000000 : Int64)), .second, .unset, .unset] [(.long (j0 - (j0 / (1000000000 : Int64)) * (1000000000 : Int64)))]))
  refine own_topJ (lrem_mod _ _) ?_
  show own_Run p e below s _ _ _ (s₁.setTop (mkF m 3 #[.val (.long j0), .second, .val (.long (1000000000 : Int64)), .second, .unset, .unset] [(.long (j0 % (1000000000 : Int64)))]))
  refine own_topJ (own_fmz hn) ?_
  show own_Run p e below s _ _ _ (s₁.setTop (mkF m 3 #[.val (.long j0), .second, .val (.long (1000000000 : Int64)), .second, .unset, .unset] [(.long j0)]))
  refine own_st (fun t k => XS.lstore X0.here hx rfl (hb hby own_d4_3) rfl (l' := #[.val (.long j0), .second, .val (.long (1000000000 : Int64)), .second, .val (.long j0), .second]) rfl k) ?_
  show own_Run p e below s _ _ _ (s₁.setTop (mkF m 5 #[.val (.long j0), .second, .val (.long (1000000000 : Int64)), .second, .val (.long j0), .second] []))
  refine own_st (fun t k => XS.lloadN X0.here hx rfl (hb hby own_d4_5) rfl k) ?_
  show own_Run p e below s _ _ _ (s₁.setTop (mkF m 6 #[.val (.long j0), .second, .val (.long (1000000000 : Int64)), .second, .val (.long j0), .second] [(.long j0)]))
  refine own_st (fun t k => XS.lloadN X0.here hx rfl (hb hby own_d4_6) rfl k) ?_
  show own_Run p e below s _ _ _ (s₁.setTop (mkF m 7 #[.val (.long j0), .second, .val (.long (1000000000 : Int64)), .second, .val (.long j0), .second] [(.long (1000000000 : Int64)), (.long j0)]))
  refine own_st (fun t k => XS.lxor X0.here hx rfl (hb hby own_d4_7) rfl k) ?_
  show own_Run p e below s _ _ _ (s₁.setTop (mkF m 8 #[.val (.long j0), .second, .val (.long (1000000000 : Int64)), .second, .val (.long j0), .second] [(.long (j0 ^^^ (1000000000 : Int64)))]))
  refine own_st (fun t k => XS.lconst X0.here hx rfl (hb hby own_d4_8) k) ?_
  show own_Run p e below s _ _ _ (s₁.setTop (mkF m 9 #[.val (.long j0), .second, .val (.long (1000000000 : Int64)), .second, .val (.long j0), .second] [(.long (0 : Int64)), (.long (j0 ^^^ (1000000000 : Int64)))]))
  refine own_st (fun t k => XS.lcmp X0.here hx rfl (hb hby own_d4_9) rfl k) ?_
  show own_Run p e below s _ _ _ (s₁.setTop (mkF m 10 #[.val (.long j0), .second, .val (.long (1000000000 : Int64)), .second, .val (.long j0), .second] [(.int (lcmpW (j0 ^^^ (1000000000 : Int64)) (0 : Int64)))]))
  refine own_st (fun t k => XS.ifYes X0.here hx rfl (pc0 := 10) (pc' := 25) rfl (hb hby own_d4_10) rfl ((if0 _ _).trans (flt (fun q => own_xg hn ((lw_lt _ _).mp q) : ¬ ((lcmpW (j0 ^^^ (1000000000 : Int64)) (0 : Int64)) < (0 : Int32)))).2.1) (by decide) (by decide) k) ?_
  show own_Run p e below s _ _ _ (s₁.setTop (mkF m 25 #[.val (.long j0), .second, .val (.long (1000000000 : Int64)), .second, .val (.long j0), .second] []))
  refine own_st (fun t k => XS.lload X0.here hx rfl (hb hby own_d4_25) rfl k) ?_
  show own_Run p e below s _ _ _ (s₁.setTop (mkF m 27 #[.val (.long j0), .second, .val (.long (1000000000 : Int64)), .second, .val (.long j0), .second] [(.long j0)]))
  exact own_ret X0 hx hlk (t := .long) hret rfl (Or.inr (Or.inl ⟨rfl, rfl, _, rfl⟩)) (hb hby own_d4_27) (by decide) (by decide) ⟨rfl, N0, e0⟩
theorem own_d1_0 : decode jdk_2320_method_4_code 0 = .ok (.lload_n 0, 1) := by decide +kernel
theorem own_d1_1 : decode jdk_2320_method_4_code 1 = .ok (.lload_n 2, 1) := by decide +kernel
theorem own_d1_2 : decode jdk_2320_method_4_code 2 = .ok (.ldc2_w 26, 3) := by decide +kernel
theorem own_d1_5 : decode jdk_2320_method_4_code 5 = .ok (.invokestatic 28, 3) := by decide +kernel
theorem own_pd3 : parseMethodDescriptor "(JJ)J" = some ⟨[.long, .long], some .long⟩ := by decide +kernel
theorem own_d1_8 : decode jdk_2320_method_4_code 8 = .ok (.invokestatic 34, 3) := by decide +kernel
theorem own_d1_11 : decode jdk_2320_method_4_code 11 = .ok (.lstore 4, 2) := by decide +kernel
theorem own_d1_13 : decode jdk_2320_method_4_code 13 = .ok (.lload_n 2, 1) := by decide +kernel
theorem own_d1_14 : decode jdk_2320_method_4_code 14 = .ok (.ldc2_w 26, 3) := by decide +kernel
theorem own_d1_17 : decode jdk_2320_method_4_code 17 = .ok (.invokestatic 37, 3) := by decide +kernel
theorem own_d1_20 : decode jdk_2320_method_4_code 20 = .ok (.l2i, 1) := by decide +kernel
theorem own_d1_21 : decode jdk_2320_method_4_code 21 = .ok (.istore 6, 2) := by decide +kernel
theorem own_d1_23 : decode jdk_2320_method_4_code 23 = .ok (.lload 4, 2) := by decide +kernel
theorem own_d1_25 : decode jdk_2320_method_4_code 25 = .ok (.iload 6, 2) := by decide +kernel
theorem own_d1_27 : decode jdk_2320_method_4_code 27 = .ok (.invokestatic 20, 3) := by decide +kernel
theorem own_d1_30 : decode jdk_2320_method_4_code 30 = .ok (.areturn, 1) := by decide +kernel
set_option maxHeartbeats 4000000 in
theorem own_ef1 (m : MethodId) (x0 : Int64) (x1 : Int64) : entryFrame m #[(.long x0), (.long x1)] 7 = mkF m 0 #[.val (.long x0), .second, .val (.long x1), .second, .unset, .unset, .unset] [] := by first | (simp [entryFrame, mkF, argsToLocals, Value.category]; done) | rfl
def own_Q1 (Z : State) (a0 : Array Value) (j0 : Int64) (na0 : Int32) (t_E : Addr) (h0 : Heap) (n0 : Nat) (v : Option Value) (h : Heap) (L : List Loc) : Prop := ∃ bm : Addr, v = some (.ref bm) ∧ Fr n0 L ∧ Keep h0 h [] ∧ Exa Z h bm "java/time/Instant" ∧ Fld Z h bm "java/time/Instant" "seconds" "J" (.long j0) ∧ Fld Z h bm "java/time/Instant" "nanos" "I" (.int na0)
set_option maxRecDepth 65536 in
set_option maxHeartbeats 40000000 in
theorem own_rm1 (l : Launch) (Z : State) (a0 : Array Value) (hw : ∀ d ∈ tables_1, d.before a0 Z = true) (ws : List Jvm.Cond) (j0 : Int64) (na0 : Int32) (t_E : Addr) (h0 : Heap) (n0 : Nat) (Z0 : n0 ≤ h0.size) (O0 : Old Z n0 h0) (S_E : Sta Z Z.heap "java/time/Instant" "EPOCH" "Ljava/time/Instant;" (.ref t_E)) (X_E : Exa Z h0 t_E "java/time/Instant") (Fs_E : Fld Z h0 t_E "java/time/Instant" "seconds" "J" (.long (0 : Int64))) (Fn_E : Fld Z h0 t_E "java/time/Instant" "nanos" "I" (.int (0 : Int32))) (hbd : -31557014167219200 ≤ j0.toInt ∧ j0.toInt ≤ 31556889864403199) (hn : 0 ≤ na0.toInt ∧ na0.toInt ≤ 999999999) :
    MetFree l (⟨"java/time/Instant", "ofEpochSecond", "(JJ)Ljava/time/Instant;"⟩ : MethodName) (head1 (Jvm.Cond.code (⟨"java/time/Instant", "ofEpochSecond", "(JJ)Ljava/time/Instant;"⟩ : MethodName) jdk_2320_method_4_code 7 (some (.object "java/time/Instant")) :: ws) ({ frames := 3, cells := 1, slots := 2, locals := 42 } : Room)) (fun a U => a = #[(.long j0), (.long (na0.toInt64))] ∧ Z.Warmed39 U.vm ∧ U.heap = h0) (fun _ _ _ _ _ => True) (fun _ U o U' => ∃ v L, o = .returned v ∧ own_Q1 Z a0 j0 na0 t_E h0 n0 v U'.heap L ∧ FrameEnd U o U' L ({ frames := 3, cells := 1, slots := 2, locals := 42 } : Room).cells ({ frames := 3, cells := 1, slots := 2, locals := 42 } : Room).slots) := by
  refine own_body (Q := fun v h L => own_Q1 Z a0 j0 na0 t_E h0 n0 v h L) (plainFor_of_name own_pn0) ?_
  intro p e s m below meth c s₁ hx hby hml hZ hown hnm hret hlk X0 e0
  replace hml : c.maxLocals = 7 := hml
  have N0 := Fr.nil n0
  have K0 : Keep h0 h0 [] := Keep.refl _ _
  refine own_st (fun t k => castTop (own_ef1 m j0 (na0.toInt64)) k) ?_
  show own_Run p e below s _ _ _ (s₁.setTop (mkF m 0 #[.val (.long j0), .second, .val (.long (na0.toInt64)), .second, .unset, .unset, .unset] []))
  refine own_st (fun t k => XS.lloadN X0.here hx rfl (hb hby own_d1_0) rfl k) ?_
  show own_Run p e below s _ _ _ (s₁.setTop (mkF m 1 #[.val (.long j0), .second, .val (.long (na0.toInt64)), .second, .unset, .unset, .unset] [(.long j0)]))
  refine own_st (fun t k => XS.lloadN X0.here hx rfl (hb hby own_d1_1) rfl k) ?_
  show own_Run p e below s _ _ _ (s₁.setTop (mkF m 2 #[.val (.long j0), .second, .val (.long (na0.toInt64)), .second, .unset, .unset, .unset] [(.long (na0.toInt64)), (.long j0)]))
  refine own_st (X0.ldc2Long hx hown (mvT hZ (hw _ (List.mem_of_getElem? (i := 8) rfl))) (g := (mkF m 2 #[.val (.long j0), .second, .val (.long (na0.toInt64)), .second, .unset, .unset, .unset] [(.long (na0.toInt64)), (.long j0)])) rfl (hb hby own_d1_2)) ?_
  show own_Run p e below s _ _ _ (s₁.setTop (mkF m 5 #[.val (.long j0), .second, .val (.long (na0.toInt64)), .second, .unset, .unset, .unset] [(.long (1000000000 : Int64)), (.long (na0.toInt64)), (.long j0)]))
  refine own_callS X0 hx hZ (y := (⟨"java/lang/Math", "floorDiv", "(JJ)J"⟩ : MethodName)) hown (hw _ (List.mem_of_getElem? (i := 9) rfl)) (hw _ (List.mem_of_getElem? (i := 10) rfl)) (hw _ (List.mem_of_getElem? (i := 12) rfl)) (hw _ (List.mem_of_getElem? (i := 11) rfl)) (by decide) e0 (argsL := [(.long (na0.toInt64)), (.long (1000000000 : Int64))]) (rest := [(.long j0)]) (W := 2) (own_rm2 l Z a0 hw [] (na0.toInt64) h0 n0 (Nat.le_trans Z0 K0.1) (own_n64w hn)) (by decide) (by decide) (by rw [hml]; rfl) (lenOf own_pd3 rfl) rfl (by exact Nat.le_of_eq rfl) (hb hby own_d1_5) (by decide) (by decide) ?_
  intro T34 v34 L34 X34 hq34
  obtain ⟨rfl, N34q, hh34⟩ := hq34
  have N34 := Fr.app N0 N34q
  show own_Run p e below s _ _ _ (T34.setTop (mkF m 8 #[.val (.long j0), .second, .val (.long (na0.toInt64)), .second, .unset, .unset, .unset] [(.long (0 : Int64)), (.long j0)]))
  refine own_callS X34 hx hZ (y := (⟨"java/lang/Math", "addExact", "(JJ)J"⟩ : MethodName)) hown (hw _ (List.mem_of_getElem? (i := 13) rfl)) (hw _ (List.mem_of_getElem? (i := 14) rfl)) (hw _ (List.mem_of_getElem? (i := 15) rfl)) (hw _ (List.mem_of_getElem? (i := 11) rfl)) (by decide) hh34 (argsL := [(.long j0), (.long (0 : Int64))]) (rest := []) (W := 0) (own_rm3 l Z a0 hw [] j0 h0 n0 (Nat.le_trans Z0 K0.1) ) (by decide) (by decide) (by rw [hml]; rfl) (lenOf own_pd3 rfl) rfl (by exact Nat.le_of_eq rfl) (hb hby own_d1_8) (by decide) (by decide) ?_
  intro T35 v35 L35 X35 hq35
  obtain ⟨rfl, N35q, hh35⟩ := hq35
  have N35 := Fr.app N34 N35q
  show own_Run p e below s _ _ _ (T35.setTop (mkF m 11 #[.val (.long j0), .second, .val (.long (na0.toInt64)), .second, .unset, .unset, .unset] [(.long j0)]))
  refine own_st (fun t k => XS.lstore X35.here hx rfl (hb hby own_d1_11) rfl (l' := #[.val (.long j0), .second, .val (.long (na0.toInt64)), .second, .val (.long j0), .second, .unset]) rfl k) ?_
  show own_Run p e below s _ _ _ (T35.setTop (mkF m 13 #[.val (.long j0), .second, .val (.long (na0.toInt64)), .second, .val (.long j0), .second, .unset] []))
  refine own_st (fun t k => XS.lloadN X35.here hx rfl (hb hby own_d1_13) rfl k) ?_
  show own_Run p e below s _ _ _ (T35.setTop (mkF m 14 #[.val (.long j0), .second, .val (.long (na0.toInt64)), .second, .val (.long j0), .second, .unset] [(.long (na0.toInt64))]))
  refine own_st (X35.ldc2Long hx hown (mvT hZ (hw _ (List.mem_of_getElem? (i := 8) rfl))) (g := (mkF m 14 #[.val (.long j0), .second, .val (.long (na0.toInt64)), .second, .val (.long j0), .second, .unset] [(.long (na0.toInt64))])) rfl (hb hby own_d1_14)) ?_
  show own_Run p e below s _ _ _ (T35.setTop (mkF m 17 #[.val (.long j0), .second, .val (.long (na0.toInt64)), .second, .val (.long j0), .second, .unset] [(.long (1000000000 : Int64)), (.long (na0.toInt64))]))
  refine own_callS X35 hx hZ (y := (⟨"java/lang/Math", "floorMod", "(JJ)J"⟩ : MethodName)) hown (hw _ (List.mem_of_getElem? (i := 16) rfl)) (hw _ (List.mem_of_getElem? (i := 17) rfl)) (hw _ (List.mem_of_getElem? (i := 18) rfl)) (hw _ (List.mem_of_getElem? (i := 11) rfl)) (by decide) hh35 (argsL := [(.long (na0.toInt64)), (.long (1000000000 : Int64))]) (rest := []) (W := 0) (own_rm4 l Z a0 hw [] (na0.toInt64) h0 n0 (Nat.le_trans Z0 K0.1) (own_n64w hn)) (by decide) (by decide) (by rw [hml]; rfl) (lenOf own_pd3 rfl) rfl (by exact Nat.le_of_eq rfl) (hb hby own_d1_17) (by decide) (by decide) ?_
  intro T36 v36 L36 X36 hq36
  obtain ⟨rfl, N36q, hh36⟩ := hq36
  have N36 := Fr.app N35 N36q
  show own_Run p e below s _ _ _ (T36.setTop (mkF m 20 #[.val (.long j0), .second, .val (.long (na0.toInt64)), .second, .val (.long j0), .second, .unset] [(.long (na0.toInt64))]))
  refine own_st (fun t k => XS.l2i X36.here hx rfl (hb hby own_d1_20) rfl k) ?_
  show own_Run p e below s _ _ _ (T36.setTop (mkF m 21 #[.val (.long j0), .second, .val (.long (na0.toInt64)), .second, .val (.long j0), .second, .unset] [(.int ((na0.toInt64).toInt32))]))
  refine own_topI (own_l2i na0) ?_
  show own_Run p e below s _ _ _ (T36.setTop (mkF m 21 #[.val (.long j0), .second, .val (.long (na0.toInt64)), .second, .val (.long j0), .second, .unset] [(.int na0)]))
  refine own_st (fun t k => XS.istore X36.here hx rfl (hb hby own_d1_21) rfl (l' := #[.val (.long j0), .second, .val (.long (na0.toInt64)), .second, .val (.long j0), .second, .val (.int na0)]) rfl k) ?_
  show own_Run p e below s _ _ _ (T36.setTop (mkF m 23 #[.val (.long j0), .second, .val (.long (na0.toInt64)), .second, .val (.long j0), .second, .val (.int na0)] []))
  refine own_st (fun t k => XS.lload X36.here hx rfl (hb hby own_d1_23) rfl k) ?_
  show own_Run p e below s _ _ _ (T36.setTop (mkF m 25 #[.val (.long j0), .second, .val (.long (na0.toInt64)), .second, .val (.long j0), .second, .val (.int na0)] [(.long j0)]))
  refine own_st (fun t k => XS.iload X36.here hx rfl (hb hby own_d1_25) rfl k) ?_
  show own_Run p e below s _ _ _ (T36.setTop (mkF m 27 #[.val (.long j0), .second, .val (.long (na0.toInt64)), .second, .val (.long j0), .second, .val (.int na0)] [(.int na0), (.long j0)]))
  refine own_callS X36 hx hZ (y := (⟨"java/time/Instant", "create", "(JI)Ljava/time/Instant;"⟩ : MethodName)) hown (hw _ (List.mem_of_getElem? (i := 19) rfl)) (hw _ (List.mem_of_getElem? (i := 20) rfl)) (hw _ (List.mem_of_getElem? (i := 21) rfl)) (hw _ (List.mem_of_getElem? (i := 6) rfl)) (by decide) hh36 (argsL := [(.long j0), (.int na0)]) (rest := []) (W := 0) (own_rm5 l Z a0 hw [] j0 na0 t_E h0 n0 (Nat.le_trans Z0 K0.1) O0 S_E X_E Fs_E Fn_E (hbd)) (by decide) (by decide) (by rw [hml]; rfl) (lenOf own_pd2 rfl) rfl (by exact Nat.le_of_eq rfl) (hb hby own_d1_27) (by decide) (by decide) ?_
  intro T37 v37 L37 X37 hq37
  obtain ⟨b37, rfl, N37q, K37q, Q38, Q39, Q40⟩ := hq37
  have K41 : Keep h0 T37.heap [] := K0.trans K37q all0
  have O42 := O0.keep K37q all0
  have N37 := Fr.app N36 N37q
  show own_Run p e below s _ _ _ (T37.setTop (mkF m 30 #[.val (.long j0), .second, .val (.long (na0.toInt64)), .second, .val (.long j0), .second, .val (.int na0)] [(.ref b37)]))
  exact own_ret X37 hx hlk (t := (.object "java/time/Instant")) hret rfl (Or.inr (Or.inr (Or.inr (Or.inr ⟨rfl, rfl, rfl⟩)))) (hb hby own_d1_30) (by decide) (by decide) ⟨b37, rfl, N37, K41, Q38, Q39, Q40⟩
theorem own_d10_0 : decode jdk_2320_method_15_code 0 = .ok (.aload_n 0, 1) := by decide +kernel
theorem own_d10_1 : decode jdk_2320_method_15_code 1 = .ok (.getfield 140, 3) := by decide +kernel
theorem own_d10_4 : decode jdk_2320_method_15_code 4 = .ok (.lreturn, 1) := by decide +kernel
set_option maxHeartbeats 4000000 in
theorem own_ef10 (m : MethodId) (x0 : Addr) : entryFrame m #[(.ref x0)] 1 = mkF m 0 #[.val (.ref x0)] [] := by first | (simp [entryFrame, mkF, argsToLocals, Value.category]; done) | rfl
def own_Q10 (Z : State) (a0 : Array Value) (o0 : Addr) (es : Int64) (h0 : Heap) (n0 : Nat) (v : Option Value) (h : Heap) (L : List Loc) : Prop := v = some (.long es) ∧ Fr n0 L ∧ h = h0
set_option maxRecDepth 65536 in
set_option maxHeartbeats 40000000 in
theorem own_rm10 (l : Launch) (Z : State) (a0 : Array Value) (hw : ∀ d ∈ tables_1, d.before a0 Z = true) (ws : List Jvm.Cond) (o0 : Addr) (es : Int64) (h0 : Heap) (n0 : Nat) (Z0 : n0 ≤ h0.size) (F_s : Fld Z h0 o0 "java/time/Instant" "seconds" "J" (.long es)) :
    MetFree l (⟨"java/time/Instant", "getEpochSecond", "()J"⟩ : MethodName) (head1 (Jvm.Cond.code (⟨"java/time/Instant", "getEpochSecond", "()J"⟩ : MethodName) jdk_2320_method_15_code 1 (some .long) :: ws) ({ frames := 0, cells := 0, slots := 0, locals := 0 } : Room)) (fun a U => a = #[(.ref o0)] ∧ Z.Warmed39 U.vm ∧ U.heap = h0) (fun _ _ _ _ _ => True) (fun _ U o U' => ∃ v L, o = .returned v ∧ own_Q10 Z a0 o0 es h0 n0 v U'.heap L ∧ FrameEnd U o U' L ({ frames := 0, cells := 0, slots := 0, locals := 0 } : Room).cells ({ frames := 0, cells := 0, slots := 0, locals := 0 } : Room).slots) := by
  refine own_body (Q := fun v h L => own_Q10 Z a0 o0 es h0 n0 v h L) (plainFor_of_name own_pn0) ?_
  intro p e s m below meth c s₁ hx hby hml hZ hown hnm hret hlk X0 e0
  replace hml : c.maxLocals = 1 := hml
  have N0 := Fr.nil n0
  have K0 : Keep h0 h0 [] := Keep.refl _ _
  refine own_st (fun t k => castTop (own_ef10 m o0) k) ?_
  show own_Run p e below s _ _ _ (s₁.setTop (mkF m 0 #[.val (.ref o0)] []))
  refine own_st (fun t k => XS.aloadN X0.here hx rfl (hb hby own_d10_0) rfl rfl k) ?_
  show own_Run p e below s _ _ _ (s₁.setTop (mkF m 1 #[.val (.ref o0)] [(.ref o0)]))
  obtain ⟨T43, X43, e43, st43⟩ := getF X0 hx hZ hown (host := "") (Or.inl (hw _ (List.mem_of_getElem? (i := 33) rfl))) Via.refl e0 F_s (g := (mkF m 1 #[.val (.ref o0)] [(.ref o0)])) rfl rfl (hb hby own_d10_1)
  refine own_st st43 ?_
  show own_Run p e below s _ _ _ (T43.setTop (mkF m 4 #[.val (.ref o0)] [(.long es)]))
  exact own_ret X43 hx hlk (t := .long) hret rfl (Or.inr (Or.inl ⟨rfl, rfl, _, rfl⟩)) (hb hby own_d10_4) (by decide) (by decide) ⟨rfl, N0, e43⟩
theorem own_d11_0 : decode jdk_2320_method_16_code 0 = .ok (.aload_n 0, 1) := by decide +kernel
theorem own_d11_1 : decode jdk_2320_method_16_code 1 = .ok (.getfield 144, 3) := by decide +kernel
theorem own_d11_4 : decode jdk_2320_method_16_code 4 = .ok (.ireturn, 1) := by decide +kernel
set_option maxHeartbeats 4000000 in
theorem own_ef11 (m : MethodId) (x0 : Addr) : entryFrame m #[(.ref x0)] 1 = mkF m 0 #[.val (.ref x0)] [] := by first | (simp [entryFrame, mkF, argsToLocals, Value.category]; done) | rfl
def own_Q11 (Z : State) (a0 : Array Value) (o0 : Addr) (na : Int32) (h0 : Heap) (n0 : Nat) (v : Option Value) (h : Heap) (L : List Loc) : Prop := v = some (.int na) ∧ Fr n0 L ∧ h = h0
set_option maxRecDepth 65536 in
set_option maxHeartbeats 40000000 in
theorem own_rm11 (l : Launch) (Z : State) (a0 : Array Value) (hw : ∀ d ∈ tables_1, d.before a0 Z = true) (ws : List Jvm.Cond) (o0 : Addr) (na : Int32) (h0 : Heap) (n0 : Nat) (Z0 : n0 ≤ h0.size) (F_n : Fld Z h0 o0 "java/time/Instant" "nanos" "I" (.int na)) :
    MetFree l (⟨"java/time/Instant", "getNano", "()I"⟩ : MethodName) (head1 (Jvm.Cond.code (⟨"java/time/Instant", "getNano", "()I"⟩ : MethodName) jdk_2320_method_16_code 1 (some .int) :: ws) ({ frames := 0, cells := 0, slots := 0, locals := 0 } : Room)) (fun a U => a = #[(.ref o0)] ∧ Z.Warmed39 U.vm ∧ U.heap = h0) (fun _ _ _ _ _ => True) (fun _ U o U' => ∃ v L, o = .returned v ∧ own_Q11 Z a0 o0 na h0 n0 v U'.heap L ∧ FrameEnd U o U' L ({ frames := 0, cells := 0, slots := 0, locals := 0 } : Room).cells ({ frames := 0, cells := 0, slots := 0, locals := 0 } : Room).slots) := by
  refine own_body (Q := fun v h L => own_Q11 Z a0 o0 na h0 n0 v h L) (plainFor_of_name own_pn0) ?_
  intro p e s m below meth c s₁ hx hby hml hZ hown hnm hret hlk X0 e0
  replace hml : c.maxLocals = 1 := hml
  have N0 := Fr.nil n0
  have K0 : Keep h0 h0 [] := Keep.refl _ _
  refine own_st (fun t k => castTop (own_ef11 m o0) k) ?_
  show own_Run p e below s _ _ _ (s₁.setTop (mkF m 0 #[.val (.ref o0)] []))
  refine own_st (fun t k => XS.aloadN X0.here hx rfl (hb hby own_d11_0) rfl rfl k) ?_
  show own_Run p e below s _ _ _ (s₁.setTop (mkF m 1 #[.val (.ref o0)] [(.ref o0)]))
  obtain ⟨T44, X44, e44, st44⟩ := getF X0 hx hZ hown (host := "") (Or.inl (hw _ (List.mem_of_getElem? (i := 35) rfl))) Via.refl e0 F_n (g := (mkF m 1 #[.val (.ref o0)] [(.ref o0)])) rfl rfl (hb hby own_d11_1)
  refine own_st st44 ?_
  show own_Run p e below s _ _ _ (T44.setTop (mkF m 4 #[.val (.ref o0)] [(.int na)]))
  exact own_ret X44 hx hlk (t := .int) hret rfl (Or.inl ⟨rfl, by simp, _, rfl⟩) (hb hby own_d11_4) (by decide) (by decide) ⟨rfl, N0, e44⟩
theorem own_d9_0 : decode prog_44_method_4_code 0 = .ok (.aload_n 0, 1) := by decide +kernel
theorem own_d9_1 : decode prog_44_method_4_code 1 = .ok (.invokevirtual 37, 3) := by decide +kernel
theorem own_pd4 : parseMethodDescriptor "()J" = some ⟨[], some .long⟩ := by decide +kernel
theorem own_d9_4 : decode prog_44_method_4_code 4 = .ok (.ldc2_w 43, 3) := by decide +kernel
theorem own_d9_7 : decode prog_44_method_4_code 7 = .ok (.lsub, 1) := by decide +kernel
theorem own_d9_8 : decode prog_44_method_4_code 8 = .ok (.l2d, 1) := by decide +kernel
theorem own_d9_9 : decode prog_44_method_4_code 9 = .ok (.aload_n 0, 1) := by decide +kernel
theorem own_d9_10 : decode prog_44_method_4_code 10 = .ok (.invokevirtual 45, 3) := by decide +kernel
theorem own_pd5 : parseMethodDescriptor "()I" = some ⟨[], some .int⟩ := by decide +kernel
theorem own_d9_13 : decode prog_44_method_4_code 13 = .ok (.i2d, 1) := by decide +kernel
theorem own_d9_14 : decode prog_44_method_4_code 14 = .ok (.ldc2_w 49, 3) := by decide +kernel
theorem own_d9_17 : decode prog_44_method_4_code 17 = .ok (.ddiv, 1) := by decide +kernel
theorem own_d9_18 : decode prog_44_method_4_code 18 = .ok (.dadd, 1) := by decide +kernel
theorem own_d9_19 : decode prog_44_method_4_code 19 = .ok (.ldc2_w 27, 3) := by decide +kernel
theorem own_d9_22 : decode prog_44_method_4_code 22 = .ok (.ddiv, 1) := by decide +kernel
theorem own_d9_23 : decode prog_44_method_4_code 23 = .ok (.dreturn, 1) := by decide +kernel
set_option maxHeartbeats 4000000 in
theorem own_ef9 (m : MethodId) (x0 : Addr) : entryFrame m #[(.ref x0)] 1 = mkF m 0 #[.val (.ref x0)] [] := by first | (simp [entryFrame, mkF, argsToLocals, Value.category]; done) | rfl
theorem own_pn6 : plainName "com/example/swathplan/swathplan/orbit/Earth" = true := by first | (simp [plainName, overriddenIn]; done) | decide +kernel
def own_Q9 (Z : State) (a0 : Array Value) (o0 : Addr) (es : Int64) (na : Int32) (h0 : Heap) (n0 : Nat) (v : Option Value) (h : Heap) (L : List Loc) : Prop := v = some (.double (own_dd es na)) ∧ Fr n0 L ∧ h = h0
set_option maxRecDepth 65536 in
set_option maxHeartbeats 40000000 in
theorem own_rm9 (l : Launch) (Z : State) (a0 : Array Value) (hw : ∀ d ∈ tables_1, d.before a0 Z = true) (ws : List Jvm.Cond) (o0 : Addr) (es : Int64) (na : Int32) (h0 : Heap) (n0 : Nat) (Z0 : n0 ≤ h0.size) (X0_ : Exa Z h0 o0 "java/time/Instant") (F_s : Fld Z h0 o0 "java/time/Instant" "seconds" "J" (.long es)) (F_n : Fld Z h0 o0 "java/time/Instant" "nanos" "I" (.int na)) (y1 : Jvm.Free.Fl.NoNaN64 (own_dn na)) (y2 : Jvm.Free.Fl.NoNaN64 (own_ds es na)) (y3 : Jvm.Free.Fl.NoNaN64 (own_dd es na)) :
    MetFree l (⟨"com/example/swathplan/swathplan/orbit/Earth", "daysSinceJ2000", "(Ljava/time/Instant;)D"⟩ : MethodName) (head1 (Jvm.Cond.code (⟨"com/example/swathplan/swathplan/orbit/Earth", "daysSinceJ2000", "(Ljava/time/Instant;)D"⟩ : MethodName) prog_44_method_4_code 1 (some .double) :: ws) ({ frames := 1, cells := 0, slots := 0, locals := 14 } : Room)) (fun a U => a = #[(.ref o0)] ∧ Z.Warmed39 U.vm ∧ U.heap = h0) (fun _ _ _ _ _ => True) (fun _ U o U' => ∃ v L, o = .returned v ∧ own_Q9 Z a0 o0 es na h0 n0 v U'.heap L ∧ FrameEnd U o U' L ({ frames := 1, cells := 0, slots := 0, locals := 14 } : Room).cells ({ frames := 1, cells := 0, slots := 0, locals := 14 } : Room).slots) := by
  refine own_body (Q := fun v h L => own_Q9 Z a0 o0 es na h0 n0 v h L) (plainFor_of_name own_pn6) ?_
  intro p e s m below meth c s₁ hx hby hml hZ hown hnm hret hlk X0 e0
  replace hml : c.maxLocals = 1 := hml
  have N0 := Fr.nil n0
  have K0 : Keep h0 h0 [] := Keep.refl _ _
  refine own_st (fun t k => castTop (own_ef9 m o0) k) ?_
  show own_Run p e below s _ _ _ (s₁.setTop (mkF m 0 #[.val (.ref o0)] []))
  refine own_st (fun t k => XS.aloadN X0.here hx rfl (hb hby own_d9_0) rfl rfl k) ?_
  show own_Run p e below s _ _ _ (s₁.setTop (mkF m 1 #[.val (.ref o0)] [(.ref o0)]))
  refine own_callV X0 hx hZ (y := (⟨"java/time/Instant", "getEpochSecond", "()J"⟩ : MethodName)) (C := "java/time/Instant") hown (hw _ (List.mem_of_getElem? (i := 44) rfl)) (hw _ (List.mem_of_getElem? (i := 45) rfl)) (hw _ (List.mem_of_getElem? (i := 47) rfl)) (hw _ (List.mem_of_getElem? (i := 46) rfl)) (hw _ (List.mem_of_getElem? (i := 48) rfl)) (hw _ (List.mem_of_getElem? (i := 6) rfl)) (by decide) e0 (a := o0) X0_ (argsL := []) (rest := []) (W := 0) (own_rm10 l Z a0 hw [] o0 es h0 n0 (Nat.le_trans Z0 K0.1) F_s) (by decide) (by decide) (by rw [hml]; rfl) (lenOf own_pd4 rfl) rfl (by exact Nat.le_of_eq rfl) (hb hby own_d9_1) (by decide) (by decide) ?_
  intro T45 v45 L45 X45 hq45
  obtain ⟨rfl, N45q, hh45⟩ := hq45
  have N45 := Fr.app N0 N45q
  show own_Run p e below s _ _ _ (T45.setTop (mkF m 4 #[.val (.ref o0)] [(.long es)]))
  refine own_st (X45.ldc2Long hx hown (mvT hZ (hw _ (List.mem_of_getElem? (i := 49) rfl))) (g := (mkF m 4 #[.val (.ref o0)] [(.long es)])) rfl (hb hby own_d9_4)) ?_
  show own_Run p e below s _ _ _ (T45.setTop (mkF m 7 #[.val (.ref o0)] [(.long (946728000 : Int64)), (.long es)]))
  refine own_st (fun t k => XS.lsub X45.here hx rfl (hb hby own_d9_7) rfl k) ?_
  show own_Run p e below s _ _ _ (T45.setTop (mkF m 8 #[.val (.ref o0)] [(.long (es - (946728000 : Int64)))]))
  refine own_st (fun t k => XS.l2dS X45.here hx rfl (hb hby own_d9_8) rfl (v := (FP.l2d (es - (946728000 : Int64)))) (rfl) k) ?_
  show own_Run p e below s _ _ _ (T45.setTop (mkF m 9 #[.val (.ref o0)] [(.double (FP.l2d (es - (946728000 : Int64))))]))
  refine own_st (fun t k => XS.aloadN X45.here hx rfl (hb hby own_d9_9) rfl rfl k) ?_
  show own_Run p e below s _ _ _ (T45.setTop (mkF m 10 #[.val (.ref o0)] [(.ref o0), (.double (FP.l2d (es - (946728000 : Int64))))]))
  refine own_callV X45 hx hZ (y := (⟨"java/time/Instant", "getNano", "()I"⟩ : MethodName)) (C := "java/time/Instant") hown (hw _ (List.mem_of_getElem? (i := 50) rfl)) (hw _ (List.mem_of_getElem? (i := 51) rfl)) (hw _ (List.mem_of_getElem? (i := 53) rfl)) (hw _ (List.mem_of_getElem? (i := 52) rfl)) (hw _ (List.mem_of_getElem? (i := 54) rfl)) (hw _ (List.mem_of_getElem? (i := 6) rfl)) (by decide) hh45 (a := o0) X0_ (argsL := []) (rest := [(.double (FP.l2d (es - (946728000 : Int64))))]) (W := 2) (own_rm11 l Z a0 hw [] o0 na h0 n0 (Nat.le_trans Z0 K0.1) F_n) (by decide) (by decide) (by rw [hml]; rfl) (lenOf own_pd5 rfl) rfl (by exact Nat.le_of_eq rfl) (hb hby own_d9_10) (by decide) (by decide) ?_
  intro T46 v46 L46 X46 hq46
  obtain ⟨rfl, N46q, hh46⟩ := hq46
  have N46 := Fr.app N45 N46q
  show own_Run p e below s _ _ _ (T46.setTop (mkF m 13 #[.val (.ref o0)] [(.int na), (.double (FP.l2d (es - (946728000 : Int64))))]))
  refine own_st (fun t k => XS.i2dS X46.here hx rfl (hb hby own_d9_13) rfl (v := (FP.i2d na)) (rfl) k) ?_
  show own_Run p e below s _ _ _ (T46.setTop (mkF m 14 #[.val (.ref o0)] [(.double (FP.i2d na)), (.double (FP.l2d (es - (946728000 : Int64))))]))
  refine own_st (X46.ldc2DoubleC hx hown (mvT hZ (hw _ (List.mem_of_getElem? (i := 55) rfl))) (g := (mkF m 14 #[.val (.ref o0)] [(.double (FP.i2d na)), (.double (FP.l2d (es - (946728000 : Int64))))])) rfl (hb hby own_d9_14)) ?_
  show own_Run p e below s _ _ _ (T46.setTop (mkF m 17 #[.val (.ref o0)] [(.double (4741671816366391296 : UInt64)), (.double (FP.i2d na)), (.double (FP.l2d (es - (946728000 : Int64))))]))
  refine own_st (fun t k => XS.ddivS X46.here hx rfl (hb hby own_d9_17) rfl (y1) (v := (FP.ddiv (FP.i2d na) (4741671816366391296 : UInt64))) (rfl) k) ?_
  show own_Run p e below s _ _ _ (T46.setTop (mkF m 18 #[.val (.ref o0)] [(.double (FP.ddiv (FP.i2d na) (4741671816366391296 : UInt64))), (.double (FP.l2d (es - (946728000 : Int64))))]))
  refine own_st (fun t k => XS.daddS X46.here hx rfl (hb hby own_d9_18) rfl (y2) (v := (FP.dadd (FP.l2d (es - (946728000 : Int64))) (FP.ddiv (FP.i2d na) (4741671816366391296 : UInt64)))) (rfl) k) ?_
  show own_Run p e below s _ _ _ (T46.setTop (mkF m 19 #[.val (.ref o0)] [(.double (FP.dadd (FP.l2d (es - (946728000 : Int64))) (FP.ddiv (FP.i2d na) (4741671816366391296 : UInt64))))]))
  refine own_st (X46.ldc2DoubleC hx hown (mvT hZ (hw _ (List.mem_of_getElem? (i := 56) rfl))) (g := (mkF m 19 #[.val (.ref o0)] [(.double (FP.dadd (FP.l2d (es - (946728000 : Int64))) (FP.ddiv (FP.i2d na) (4741671816366391296 : UInt64))))])) rfl (hb hby own_d9_19)) ?_
  show own_Run p e below s _ _ _ (T46.setTop (mkF m 22 #[.val (.ref o0)] [(.double (4680673776000565248 : UInt64)), (.double (FP.dadd (FP.l2d (es - (946728000 : Int64))) (FP.ddiv (FP.i2d na) (4741671816366391296 : UInt64))))]))
  refine own_st (fun t k => XS.ddivS X46.here hx rfl (hb hby own_d9_22) rfl (y3) (v := (FP.ddiv (FP.dadd (FP.l2d (es - (946728000 : Int64))) (FP.ddiv (FP.i2d na) (4741671816366391296 : UInt64))) (4680673776000565248 : UInt64))) (rfl) k) ?_
  show own_Run p e below s _ _ _ (T46.setTop (mkF m 23 #[.val (.ref o0)] [(.double (FP.ddiv (FP.dadd (FP.l2d (es - (946728000 : Int64))) (FP.ddiv (FP.i2d na) (4741671816366391296 : UInt64))) (4680673776000565248 : UInt64)))]))
  exact own_ret X46 hx hlk (t := .double) hret rfl (Or.inr (Or.inr (Or.inl ⟨rfl, rfl, _, rfl⟩))) (hb hby own_d9_23) (by decide) (by decide) ⟨rfl, N46, hh46⟩
theorem own_d12_0 : decode prog_44_method_3_code 0 = .ok (.dload_n 0, 1) := by decide +kernel
theorem own_d12_1 : decode prog_44_method_3_code 1 = .ok (.ldc2_w 17, 3) := by decide +kernel
theorem own_d12_4 : decode prog_44_method_3_code 4 = .ok (.ddiv, 1) := by decide +kernel
theorem own_d12_5 : decode prog_44_method_3_code 5 = .ok (.dstore_n 2, 1) := by decide +kernel
theorem own_d12_6 : decode prog_44_method_3_code 6 = .ok (.ldc2_w 19, 3) := by decide +kernel
theorem own_d12_9 : decode prog_44_method_3_code 9 = .ok (.ldc2_w 21, 3) := by decide +kernel
theorem own_d12_12 : decode prog_44_method_3_code 12 = .ok (.dload_n 2, 1) := by decide +kernel
theorem own_d12_13 : decode prog_44_method_3_code 13 = .ok (.dmul, 1) := by decide +kernel
theorem own_d12_14 : decode prog_44_method_3_code 14 = .ok (.dadd, 1) := by decide +kernel
theorem own_d12_15 : decode prog_44_method_3_code 15 = .ok (.ldc2_w 23, 3) := by decide +kernel
theorem own_d12_18 : decode prog_44_method_3_code 18 = .ok (.ldc2_w 25, 3) := by decide +kernel
theorem own_d12_21 : decode prog_44_method_3_code 21 = .ok (.dload_n 2, 1) := by decide +kernel
theorem own_d12_22 : decode prog_44_method_3_code 22 = .ok (.dmul, 1) := by decide +kernel
theorem own_d12_23 : decode prog_44_method_3_code 23 = .ok (.dsub, 1) := by decide +kernel
theorem own_d12_24 : decode prog_44_method_3_code 24 = .ok (.dload_n 2, 1) := by decide +kernel
theorem own_d12_25 : decode prog_44_method_3_code 25 = .ok (.dmul, 1) := by decide +kernel
theorem own_d12_26 : decode prog_44_method_3_code 26 = .ok (.dload_n 2, 1) := by decide +kernel
theorem own_d12_27 : decode prog_44_method_3_code 27 = .ok (.dmul, 1) := by decide +kernel
theorem own_d12_28 : decode prog_44_method_3_code 28 = .ok (.dadd, 1) := by decide +kernel
theorem own_d12_29 : decode prog_44_method_3_code 29 = .ok (.dstore 4, 2) := by decide +kernel
theorem own_d12_31 : decode prog_44_method_3_code 31 = .ok (.dload 4, 2) := by decide +kernel
theorem own_d12_33 : decode prog_44_method_3_code 33 = .ok (.ldc2_w 27, 3) := by decide +kernel
theorem own_d12_36 : decode prog_44_method_3_code 36 = .ok (.drem, 1) := by decide +kernel
theorem own_d12_37 : decode prog_44_method_3_code 37 = .ok (.ldc2_w 27, 3) := by decide +kernel
theorem own_d12_40 : decode prog_44_method_3_code 40 = .ok (.ddiv, 1) := by decide +kernel
theorem own_d12_41 : decode prog_44_method_3_code 41 = .ok (.ldc2_w 29, 3) := by decide +kernel
theorem own_d12_44 : decode prog_44_method_3_code 44 = .ok (.dmul, 1) := by decide +kernel
theorem own_d12_45 : decode prog_44_method_3_code 45 = .ok (.ldc2_w 33, 3) := by decide +kernel
theorem own_d12_48 : decode prog_44_method_3_code 48 = .ok (.dmul, 1) := by decide +kernel
theorem own_d12_49 : decode prog_44_method_3_code 49 = .ok (.dstore 6, 2) := by decide +kernel
theorem own_d12_51 : decode prog_44_method_3_code 51 = .ok (.dload 6, 2) := by decide +kernel
theorem own_d12_53 : decode prog_44_method_3_code 53 = .ok (.dconst 0, 1) := by decide +kernel
theorem own_d12_54 : decode prog_44_method_3_code 54 = .ok (.dcmp .g, 1) := by decide +kernel
theorem own_d12_55 : decode prog_44_method_3_code 55 = .ok (.ifCond .ge 12, 3) := by decide +kernel
theorem own_d12_58 : decode prog_44_method_3_code 58 = .ok (.dload 6, 2) := by decide +kernel
theorem own_d12_60 : decode prog_44_method_3_code 60 = .ok (.ldc2_w 35, 3) := by decide +kernel
theorem own_d12_63 : decode prog_44_method_3_code 63 = .ok (.dadd, 1) := by decide +kernel
theorem own_d12_64 : decode prog_44_method_3_code 64 = .ok (.goto 5, 3) := by decide +kernel
theorem own_d12_69 : decode prog_44_method_3_code 69 = .ok (.dreturn, 1) := by decide +kernel
theorem own_d12_67 : decode prog_44_method_3_code 67 = .ok (.dload 6, 2) := by decide +kernel
set_option maxHeartbeats 4000000 in
theorem own_ef12 (m : MethodId) (x0 : UInt64) : entryFrame m #[(.double x0)] 8 = mkF m 0 #[.val (.double x0), .second, .unset, .unset, .unset, .unset, .unset, .unset] [] := by first | (simp [entryFrame, mkF, argsToLocals, Value.category]; done) | rfl
def own_Q12 (Z : State) (a0 : Array Value) (d0 : UInt64) (h0 : Heap) (n0 : Nat) (v : Option Value) (h : Heap) (L : List Loc) : Prop := v = some (.double (own_sid d0)) ∧ Fr n0 L ∧ h = h0
set_option maxRecDepth 65536 in
set_option maxHeartbeats 40000000 in
theorem own_rm12 (l : Launch) (Z : State) (a0 : Array Value) (hw : ∀ d ∈ tables_1, d.before a0 Z = true) (ws : List Jvm.Cond) (d0 : UInt64) (h0 : Heap) (n0 : Nat) (Z0 : n0 ≤ h0.size) (nc : own_nice d0) :
    MetFree l (⟨"com/example/swathplan/swathplan/orbit/Earth", "siderealAngleRad", "(D)D"⟩ : MethodName) (head1 (Jvm.Cond.code (⟨"com/example/swathplan/swathplan/orbit/Earth", "siderealAngleRad", "(D)D"⟩ : MethodName) prog_44_method_3_code 8 (some .double) :: ws) ({ frames := 0, cells := 0, slots := 0, locals := 0 } : Room)) (fun a U => a = #[(.double d0)] ∧ Z.Warmed39 U.vm ∧ U.heap = h0) (fun _ _ _ _ _ => True) (fun _ U o U' => ∃ v L, o = .returned v ∧ own_Q12 Z a0 d0 h0 n0 v U'.heap L ∧ FrameEnd U o U' L ({ frames := 0, cells := 0, slots := 0, locals := 0 } : Room).cells ({ frames := 0, cells := 0, slots := 0, locals := 0 } : Room).slots) := by
  refine own_body (Q := fun v h L => own_Q12 Z a0 d0 h0 n0 v h L) (plainFor_of_name own_pn6) ?_
  intro p e s m below meth c s₁ hx hby hml hZ hown hnm hret hlk X0 e0
  replace hml : c.maxLocals = 8 := hml
  have N0 := Fr.nil n0
  have K0 : Keep h0 h0 [] := Keep.refl _ _
  refine own_st (fun t k => castTop (own_ef12 m d0) k) ?_
  obtain ⟨y1, y2, y3, y4, y5, y6, y7, y8, y9, y10, y11, y12, y13⟩ := nc
  show own_Run p e below s _ _ _ (s₁.setTop (mkF m 0 #[.val (.double d0), .second, .unset, .unset, .unset, .unset, .unset, .unset] []))
  refine own_st (fun t k => XS.dloadN X0.here hx rfl (hb hby own_d12_0) rfl k) ?_
  show own_Run p e below s _ _ _ (s₁.setTop (mkF m 1 #[.val (.double d0), .second, .unset, .unset, .unset, .unset, .unset, .unset] [(.double d0)]))
  refine own_st (X0.ldc2DoubleC hx hown (mvT hZ (hw _ (List.mem_of_getElem? (i := 60) rfl))) (g := (mkF m 1 #[.val (.double d0), .second, .unset, .unset, .unset, .unset, .unset, .unset] [(.double d0)])) rfl (hb hby own_d12_1)) ?_
  show own_Run p e below s _ _ _ (s₁.setTop (mkF m 4 #[.val (.double d0), .second, .unset, .unset, .unset, .unset, .unset, .unset] [(.double (4675252771358769152 : UInt64)), (.double d0)]))
  refine own_st (fun t k => XS.ddivS X0.here hx rfl (hb hby own_d12_4) rfl (y1) (v := (FP.ddiv d0 (4675252771358769152 : UInt64))) (rfl) k) ?_
  show own_Run p e below s _ _ _ (s₁.setTop (mkF m 5 #[.val (.double d0), .second, .unset, .unset, .unset, .unset, .unset, .unset] [(.double (FP.ddiv d0 (4675252771358769152 : UInt64)))]))
  refine own_st (fun t k => XS.dstoreN X0.here hx rfl (hb hby own_d12_5) rfl (l' := #[.val (.double d0), .second, .val (.double (FP.ddiv d0 (4675252771358769152 : UInt64))), .second, .unset, .unset, .unset, .unset]) rfl k) ?_
  show own_Run p e below s _ _ _ (s₁.setTop (mkF m 6 #[.val (.double d0), .second, .val (.double (FP.ddiv d0 (4675252771358769152 : UInt64))), .second, .unset, .unset, .unset, .unset] []))
  refine own_st (X0.ldc2DoubleC hx hown (mvT hZ (hw _ (List.mem_of_getElem? (i := 61) rfl))) (g := (mkF m 6 #[.val (.double d0), .second, .val (.double (FP.ddiv d0 (4675252771358769152 : UInt64))), .second, .unset, .unset, .unset, .unset] [])) rfl (hb hby own_d12_6)) ?_
  show own_Run p e below s _ _ _ (s₁.setTop (mkF m 9 #[.val (.double d0), .second, .val (.double (FP.ddiv d0 (4675252771358769152 : UInt64))), .second, .unset, .unset, .unset, .unset] [(.double (4679361958876123245 : UInt64))]))
  refine own_st (X0.ldc2DoubleC hx hown (mvT hZ (hw _ (List.mem_of_getElem? (i := 62) rfl))) (g := (mkF m 9 #[.val (.double d0), .second, .val (.double (FP.ddiv d0 (4675252771358769152 : UInt64))), .second, .unset, .unset, .unset, .unset] [(.double (4679361958876123245 : UInt64))])) rfl (hb hby own_d12_9)) ?_
  show own_Run p e below s _ _ _ (s₁.setTop (mkF m 12 #[.val (.double d0), .second, .val (.double (FP.ddiv d0 (4675252771358769152 : UInt64))), .second, .unset, .unset, .unset, .unset] [(.double (4748926635797512960 : UInt64)), (.double (4679361958876123245 : UInt64))]))
  refine own_st (fun t k => XS.dloadN X0.here hx rfl (hb hby own_d12_12) rfl k) ?_
  show own_Run p e below s _ _ _ (s₁.setTop (mkF m 13 #[.val (.double d0), .second, .val (.double (FP.ddiv d0 (4675252771358769152 : UInt64))), .second, .unset, .unset, .unset, .unset] [(.double (FP.ddiv d0 (4675252771358769152 : UInt64))), (.double (4748926635797512960 : UInt64)), (.double (4679361958876123245 : UInt64))]))
  refine own_st (fun t k => XS.dmulS X0.here hx rfl (hb hby own_d12_13) rfl (y2) (v := (FP.dmul (4748926635797512960 : UInt64) (FP.ddiv d0 (4675252771358769152 : UInt64)))) (rfl) k) ?_
  show own_Run p e below s _ _ _ (s₁.setTop (mkF m 14 #[.val (.double d0), .second, .val (.double (FP.ddiv d0 (4675252771358769152 : UInt64))), .second, .unset, .unset, .unset, .unset] [(.double (FP.dmul (4748926635797512960 : UInt64) (FP.ddiv d0 (4675252771358769152 : UInt64)))), (.double (4679361958876123245 : UInt64))]))
  refine own_st (fun t k => XS.daddS X0.here hx rfl (hb hby own_d12_14) rfl (y3) (v := (FP.dadd (4679361958876123245 : UInt64) (FP.dmul (4748926635797512960 : UInt64) (FP.ddiv d0 (4675252771358769152 : UInt64))))) (rfl) k) ?_
  show own_Run p e below s _ _ _ (s₁.setTop (mkF m 15 #[.val (.double d0), .second, .val (.double (FP.ddiv d0 (4675252771358769152 : UInt64))), .second, .unset, .unset, .unset, .unset] [(.double (FP.dadd (4679361958876123245 : UInt64) (FP.dmul (4748926635797512960 : UInt64) (FP.ddiv d0 (4675252771358769152 : UInt64)))))]))
  refine own_st (X0.ldc2DoubleC hx hown (mvT hZ (hw _ (List.mem_of_getElem? (i := 63) rfl))) (g := (mkF m 15 #[.val (.double d0), .second, .val (.double (FP.ddiv d0 (4675252771358769152 : UInt64))), .second, .unset, .unset, .unset, .unset] [(.double (FP.dadd (4679361958876123245 : UInt64) (FP.dmul (4748926635797512960 : UInt64) (FP.ddiv d0 (4675252771358769152 : UInt64)))))])) rfl (hb hby own_d12_15)) ?_
  show own_Run p e below s _ _ _ (s₁.setTop (mkF m 18 #[.val (.double d0), .second, .val (.double (FP.ddiv d0 (4675252771358769152 : UInt64))), .second, .unset, .unset, .unset, .unset] [(.double (4591373270898472171 : UInt64)), (.double (FP.dadd (4679361958876123245 : UInt64) (FP.dmul (4748926635797512960 : UInt64) (FP.ddiv d0 (4675252771358769152 : UInt64)))))]))
  refine own_st (X0.ldc2DoubleC hx hown (mvT hZ (hw _ (List.mem_of_getElem? (i := 64) rfl))) (g := (mkF m 18 #[.val (.double d0), .second, .val (.double (FP.ddiv d0 (4675252771358769152 : UInt64))), .second, .unset, .unset, .unset, .unset] [(.double (4591373270898472171 : UInt64)), (.double (FP.dadd (4679361958876123245 : UInt64) (FP.dmul (4748926635797512960 : UInt64) (FP.ddiv d0 (4675252771358769152 : UInt64)))))])) rfl (hb hby own_d12_18)) ?_
  show own_Run p e below s _ _ _ (s₁.setTop (mkF m 21 #[.val (.double d0), .second, .val (.double (FP.ddiv d0 (4675252771358769152 : UInt64))), .second, .unset, .unset, .unset, .unset] [(.double (4528933693928425934 : UInt64)), (.double (4591373270898472171 : UInt64)), (.double (FP.dadd (4679361958876123245 : UInt64) (FP.dmul (4748926635797512960 : UInt64) (FP.ddiv d0 (4675252771358769152 : UInt64)))))]))
  refine own_st (fun t k => XS.dloadN X0.here hx rfl (hb hby own_d12_21) rfl k) ?_
  show own_Run p e below s _ _ _ (s₁.setTop (mkF m 22 #[.val (.double d0), .second, .val (.double (FP.ddiv d0 (4675252771358769152 : UInt64))), .second, .unset, .unset, .unset, .unset] [(.double (FP.ddiv d0 (4675252771358769152 : UInt64))), (.double (4528933693928425934 : UInt64)), (.double (4591373270898472171 : UInt64)), (.double (FP.dadd (4679361958876123245 : UInt64) (FP.dmul (4748926635797512960 : UInt64) (FP.ddiv d0 (4675252771358769152 : UInt64)))))]))
  refine own_st (fun t k => XS.dmulS X0.here hx rfl (hb hby own_d12_22) rfl (y4) (v := (FP.dmul (4528933693928425934 : UInt64) (FP.ddiv d0 (4675252771358769152 : UInt64)))) (rfl) k) ?_
  show own_Run p e below s _ _ _ (s₁.setTop (mkF m 23 #[.val (.double d0), .second, .val (.double (FP.ddiv d0 (4675252771358769152 : UInt64))), .second, .unset, .unset, .unset, .unset] [(.double (FP.dmul (4528933693928425934 : UInt64) (FP.ddiv d0 (4675252771358769152 : UInt64)))), (.double (4591373270898472171 : UInt64)), (.double (FP.dadd (4679361958876123245 : UInt64) (FP.dmul (4748926635797512960 : UInt64) (FP.ddiv d0 (4675252771358769152 : UInt64)))))]))
  refine own_st (fun t k => XS.dsubS X0.here hx rfl (hb hby own_d12_23) rfl (y5) (v := (FP.dsub (4591373270898472171 : UInt64) (FP.dmul (4528933693928425934 : UInt64) (FP.ddiv d0 (4675252771358769152 : UInt64))))) (rfl) k) ?_
  show own_Run p e below s _ _ _ (s₁.setTop (mkF m 24 #[.val (.double d0), .second, .val (.double (FP.ddiv d0 (4675252771358769152 : UInt64))), .second, .unset, .unset, .unset, .unset] [(.double (FP.dsub (4591373270898472171 : UInt64) (FP.dmul (4528933693928425934 : UInt64) (FP.ddiv d0 (4675252771358769152 : UInt64))))), (.double (FP.dadd (4679361958876123245 : UInt64) (FP.dmul (4748926635797512960 : UInt64) (FP.ddiv d0 (4675252771358769152 : UInt64)))))]))
  refine own_st (fun t k => XS.dloadN X0.here hx rfl (hb hby own_d12_24) rfl k) ?_
  show own_Run p e below s _ _ _ (s₁.setTop (mkF m 25 #[.val (.double d0), .second, .val (.double (FP.ddiv d0 (4675252771358769152 : UInt64))), .second, .unset, .unset, .unset, .unset] [(.double (FP.ddiv d0 (4675252771358769152 : UInt64))), (.double (FP.dsub (4591373270898472171 : UInt64) (FP.dmul (4528933693928425934 : UInt64) (FP.ddiv d0 (4675252771358769152 : UInt64))))), (.double (FP.dadd (4679361958876123245 : UInt64) (FP.dmul (4748926635797512960 : UInt64) (FP.ddiv d0 (4675252771358769152 : UInt64)))))]))
  refine own_st (fun t k => XS.dmulS X0.here hx rfl (hb hby own_d12_25) rfl (y6) (v := (FP.dmul (FP.dsub (4591373270898472171 : UInt64) (FP.dmul (4528933693928425934 : UInt64) (FP.ddiv d0 (4675252771358769152 : UInt64)))) (FP.ddiv d0 (4675252771358769152 : UInt64)))) (rfl) k) ?_
  show own_Run p e below s _ _ _ (s₁.setTop (mkF m 26 #[.val (.double d0), .second, .val (.double (FP.ddiv d0 (4675252771358769152 : UInt64))), .second, .unset, .unset, .unset, .unset] [(.double (FP.dmul (FP.dsub (4591373270898472171 : UInt64) (FP.dmul (4528933693928425934 : UInt64) (FP.ddiv d0 (4675252771358769152 : UInt64)))) (FP.ddiv d0 (4675252771358769152 : UInt64)))), (.double (FP.dadd (4679361958876123245 : UInt64) (FP.dmul (4748926635797512960 : UInt64) (FP.ddiv d0 (4675252771358769152 : UInt64)))))]))
  refine own_st (fun t k => XS.dloadN X0.here hx rfl (hb hby own_d12_26) rfl k) ?_
  show own_Run p e below s _ _ _ (s₁.setTop (mkF m 27 #[.val (.double d0), .second, .val (.double (FP.ddiv d0 (4675252771358769152 : UInt64))), .second, .unset, .unset, .unset, .unset] [(.double (FP.ddiv d0 (4675252771358769152 : UInt64))), (.double (FP.dmul (FP.dsub (4591373270898472171 : UInt64) (FP.dmul (4528933693928425934 : UInt64) (FP.ddiv d0 (4675252771358769152 : UInt64)))) (FP.ddiv d0 (4675252771358769152 : UInt64)))), (.double (FP.dadd (4679361958876123245 : UInt64) (FP.dmul (4748926635797512960 : UInt64) (FP.ddiv d0 (4675252771358769152 : UInt64)))))]))
  refine own_st (fun t k => XS.dmulS X0.here hx rfl (hb hby own_d12_27) rfl (y7) (v := (FP.dmul (FP.dmul (FP.dsub (4591373270898472171 : UInt64) (FP.dmul (4528933693928425934 : UInt64) (FP.ddiv d0 (4675252771358769152 : UInt64)))) (FP.ddiv d0 (4675252771358769152 : UInt64))) (FP.ddiv d0 (4675252771358769152 : UInt64)))) (rfl) k) ?_
  show own_Run p e below s _ _ _ (s₁.setTop (mkF m 28 #[.val (.double d0), .second, .val (.double (FP.ddiv d0 (4675252771358769152 : UInt64))), .second, .unset, .unset, .unset, .unset] [(.double (FP.dmul (FP.dmul (FP.dsub (4591373270898472171 : UInt64) (FP.dmul (4528933693928425934 : UInt64) (FP.ddiv d0 (4675252771358769152 : UInt64)))) (FP.ddiv d0 (4675252771358769152 : UInt64))) (FP.ddiv d0 (4675252771358769152 : UInt64)))), (.double (FP.dadd (4679361958876123245 : UInt64) (FP.dmul (4748926635797512960 : UInt64) (FP.ddiv d0 (4675252771358769152 : UInt64)))))]))
  refine own_st (fun t k => XS.daddS X0.here hx rfl (hb hby own_d12_28) rfl (y8) (v := (FP.dadd (FP.dadd (4679361958876123245 : UInt64) (FP.dmul (4748926635797512960 : UInt64) (FP.ddiv d0 (4675252771358769152 : UInt64)))) (FP.dmul (FP.dmul (FP.dsub (4591373270898472171 : UInt64) (FP.dmul (4528933693928425934 : UInt64) (FP.ddiv d0 (4675252771358769152 : UInt64)))) (FP.ddiv d0 (4675252771358769152 : UInt64))) (FP.ddiv d0 (4675252771358769152 : UInt64))))) (rfl) k) ?_
  show own_Run p e below s _ _ _ (s₁.setTop (mkF m 29 #[.val (.double d0), .second, .val (.double (FP.ddiv d0 (4675252771358769152 : UInt64))), .second, .unset, .unset, .unset, .unset] [(.double (FP.dadd (FP.dadd (4679361958876123245 : UInt64) (FP.dmul (4748926635797512960 : UInt64) (FP.ddiv d0 (4675252771358769152 : UInt64)))) (FP.dmul (FP.dmul (FP.dsub (4591373270898472171 : UInt64) (FP.dmul (4528933693928425934 : UInt64) (FP.ddiv d0 (4675252771358769152 : UInt64)))) (FP.ddiv d0 (4675252771358769152 : UInt64))) (FP.ddiv d0 (4675252771358769152 : UInt64)))))]))
  refine own_st (fun t k => XS.dstore X0.here hx rfl (hb hby own_d12_29) rfl (l' := #[.val (.double d0), .second, .val (.double (FP.ddiv d0 (4675252771358769152 : UInt64))), .second, .val (.double (FP.dadd (FP.dadd (4679361958876123245 : UInt64) (FP.dmul (4748926635797512960 : UInt64) (FP.ddiv d0 (4675252771358769152 : UInt64)))) (FP.dmul (FP.dmul (FP.dsub (4591373270898472171 : UInt64) (FP.dmul (4528933693928425934 : UInt64) (FP.ddiv d0 (4675252771358769152 : UInt64)))) (FP.ddiv d0 (4675252771358769152 : UInt64))) (FP.ddiv d0 (4675252771358769152 : UInt64))))), .second, .unset, .unset]) rfl k) ?_
  show own_Run p e below s _ _ _ (s₁.setTop (mkF m 31 #[.val (.double d0), .second, .val (.double (FP.ddiv d0 (4675252771358769152 : UInt64))), .second, .val (.double (FP.dadd (FP.dadd (4679361958876123245 : UInt64) (FP.dmul (4748926635797512960 : UInt64) (FP.ddiv d0 (4675252771358769152 : UInt64)))) (FP.dmul (FP.dmul (FP.dsub (4591373270898472171 : UInt64) (FP.dmul (4528933693928425934 : UInt64) (FP.ddiv d0 (4675252771358769152 : UInt64)))) (FP.ddiv d0 (4675252771358769152 : UInt64))) (FP.ddiv d0 (4675252771358769152 : UInt64))))), .second, .unset, .unset] []))
  refine own_st (fun t k => XS.dload X0.here hx rfl (hb hby own_d12_31) rfl k) ?_
  show own_Run p e below s _ _ _ (s₁.setTop (mkF m 33 #[.val (.double d0), .second, .val (.double (FP.ddiv d0 (4675252771358769152 : UInt64))), .second, .val (.double (FP.dadd (FP.dadd (4679361958876123245 : UInt64) (FP.dmul (4748926635797512960 : UInt64) (FP.ddiv d0 (4675252771358769152 : UInt64)))) (FP.dmul (FP.dmul (FP.dsub (4591373270898472171 : UInt64) (FP.dmul (4528933693928425934 : UInt64) (FP.ddiv d0 (4675252771358769152 : UInt64)))) (FP.ddiv d0 (4675252771358769152 : UInt64))) (FP.ddiv d0 (4675252771358769152 : UInt64))))), .second, .unset, .unset] [(.double (FP.dadd (FP.dadd (4679361958876123245 : UInt64) (FP.dmul (4748926635797512960 : UInt64) (FP.ddiv d0 (4675252771358769152 : UInt64)))) (FP.dmul (FP.dmul (FP.dsub (4591373270898472171 : UInt64) (FP.dmul (4528933693928425934 : UInt64) (FP.ddiv d0 (4675252771358769152 : UInt64)))) (FP.ddiv d0 (4675252771358769152 : UInt64))) (FP.ddiv d0 (4675252771358769152 : UInt64)))))]))
  refine own_st (X0.ldc2DoubleC hx hown (mvT hZ (hw _ (List.mem_of_getElem? (i := 56) rfl))) (g := (mkF m 33 #[.val (.double d0), .second, .val (.double (FP.ddiv d0 (4675252771358769152 : UInt64))), .second, .val (.double (FP.dadd (FP.dadd (4679361958876123245 : UInt64) (FP.dmul (4748926635797512960 : UInt64) (FP.ddiv d0 (4675252771358769152 : UInt64)))) (FP.dmul (FP.dmul (FP.dsub (4591373270898472171 : UInt64) (FP.dmul (4528933693928425934 : UInt64) (FP.ddiv d0 (4675252771358769152 : UInt64)))) (FP.ddiv d0 (4675252771358769152 : UInt64))) (FP.ddiv d0 (4675252771358769152 : UInt64))))), .second, .unset, .unset] [(.double (FP.dadd (FP.dadd (4679361958876123245 : UInt64) (FP.dmul (4748926635797512960 : UInt64) (FP.ddiv d0 (4675252771358769152 : UInt64)))) (FP.dmul (FP.dmul (FP.dsub (4591373270898472171 : UInt64) (FP.dmul (4528933693928425934 : UInt64) (FP.ddiv d0 (4675252771358769152 : UInt64)))) (FP.ddiv d0 (4675252771358769152 : UInt64))) (FP.ddiv d0 (4675252771358769152 : UInt64)))))])) rfl (hb hby own_d12_33)) ?_
  show own_Run p e below s _ _ _ (s₁.setTop (mkF m 36 #[.val (.double d0), .second, .val (.double (FP.ddiv d0 (4675252771358769152 : UInt64))), .second, .val (.double (FP.dadd (FP.dadd (4679361958876123245 : UInt64) (FP.dmul (4748926635797512960 : UInt64) (FP.ddiv d0 (4675252771358769152 : UInt64)))) (FP.dmul (FP.dmul (FP.dsub (4591373270898472171 : UInt64) (FP.dmul (4528933693928425934 : UInt64) (FP.ddiv d0 (4675252771358769152 : UInt64)))) (FP.ddiv d0 (4675252771358769152 : UInt64))) (FP.ddiv d0 (4675252771358769152 : UInt64))))), .second, .unset, .unset] [(.double (4680673776000565248 : UInt64)), (.double (FP.dadd (FP.dadd (4679361958876123245 : UInt64) (FP.dmul (4748926635797512960 : UInt64) (FP.ddiv d0 (4675252771358769152 : UInt64)))) (FP.dmul (FP.dmul (FP.dsub (4591373270898472171 : UInt64) (FP.dmul (4528933693928425934 : UInt64) (FP.ddiv d0 (4675252771358769152 : UInt64)))) (FP.ddiv d0 (4675252771358769152 : UInt64))) (FP.ddiv d0 (4675252771358769152 : UInt64)))))]))
  refine own_st (fun t k => own_dremS X0.here hx rfl (hb hby own_d12_36) rfl (y9) (v := (FP.drem (FP.dadd (FP.dadd (4679361958876123245 : UInt64) (FP.dmul (4748926635797512960 : UInt64) (FP.ddiv d0 (4675252771358769152 : UInt64)))) (FP.dmul (FP.dmul (FP.dsub (4591373270898472171 : UInt64) (FP.dmul (4528933693928425934 : UInt64) (FP.ddiv d0 (4675252771358769152 : UInt64)))) (FP.ddiv d0 (4675252771358769152 : UInt64))) (FP.ddiv d0 (4675252771358769152 : UInt64)))) (4680673776000565248 : UInt64))) (rfl) k) ?_
  show own_Run p e below s _ _ _ (s₁.setTop (mkF m 37 #[.val (.double d0), .second, .val (.double (FP.ddiv d0 (4675252771358769152 : UInt64))), .second, .val (.double (FP.dadd (FP.dadd (4679361958876123245 : UInt64) (FP.dmul (4748926635797512960 : UInt64) (FP.ddiv d0 (4675252771358769152 : UInt64)))) (FP.dmul (FP.dmul (FP.dsub (4591373270898472171 : UInt64) (FP.dmul (4528933693928425934 : UInt64) (FP.ddiv d0 (4675252771358769152 : UInt64)))) (FP.ddiv d0 (4675252771358769152 : UInt64))) (FP.ddiv d0 (4675252771358769152 : UInt64))))), .second, .unset, .unset] [(.double (FP.drem (FP.dadd (FP.dadd (4679361958876123245 : UInt64) (FP.dmul (4748926635797512960 : UInt64) (FP.ddiv d0 (4675252771358769152 : UInt64)))) (FP.dmul (FP.dmul (FP.dsub (4591373270898472171 : UInt64) (FP.dmul (4528933693928425934 : UInt64) (FP.ddiv d0 (4675252771358769152 : UInt64)))) (FP.ddiv d0 (4675252771358769152 : UInt64))) (FP.ddiv d0 (4675252771358769152 : UInt64)))) (4680673776000565248 : UInt64)))]))
  refine own_st (X0.ldc2DoubleC hx hown (mvT hZ (hw _ (List.mem_of_getElem? (i := 56) rfl))) (g := (mkF m 37 #[.val (.double d0), .second, .val (.double (FP.ddiv d0 (4675252771358769152 : UInt64))), .second, .val (.double (FP.dadd (FP.dadd (4679361958876123245 : UInt64) (FP.dmul (4748926635797512960 : UInt64) (FP.ddiv d0 (4675252771358769152 : UInt64)))) (FP.dmul (FP.dmul (FP.dsub (4591373270898472171 : UInt64) (FP.dmul (4528933693928425934 : UInt64) (FP.ddiv d0 (4675252771358769152 : UInt64)))) (FP.ddiv d0 (4675252771358769152 : UInt64))) (FP.ddiv d0 (4675252771358769152 : UInt64))))), .second, .unset, .unset] [(.double (FP.drem (FP.dadd (FP.dadd (4679361958876123245 : UInt64) (FP.dmul (4748926635797512960 : UInt64) (FP.ddiv d0 (4675252771358769152 : UInt64)))) (FP.dmul (FP.dmul (FP.dsub (4591373270898472171 : UInt64) (FP.dmul (4528933693928425934 : UInt64) (FP.ddiv d0 (4675252771358769152 : UInt64)))) (FP.ddiv d0 (4675252771358769152 : UInt64))) (FP.ddiv d0 (4675252771358769152 : UInt64)))) (4680673776000565248 : UInt64)))])) rfl (hb hby own_d12_37)) ?_
  show own_Run p e below s _ _ _ (s₁.setTop (mkF m 40 #[.val (.double d0), .second, .val (.double (FP.ddiv d0 (4675252771358769152 : UInt64))), .second, .val (.double (FP.dadd (FP.dadd (4679361958876123245 : UInt64) (FP.dmul (4748926635797512960 : UInt64) (FP.ddiv d0 (4675252771358769152 : UInt64)))) (FP.dmul (FP.dmul (FP.dsub (4591373270898472171 : UInt64) (FP.dmul (4528933693928425934 : UInt64) (FP.ddiv d0 (4675252771358769152 : UInt64)))) (FP.ddiv d0 (4675252771358769152 : UInt64))) (FP.ddiv d0 (4675252771358769152 : UInt64))))), .second, .unset, .unset] [(.double (4680673776000565248 : UInt64)), (.double (FP.drem (FP.dadd (FP.dadd (4679361958876123245 : UInt64) (FP.dmul (4748926635797512960 : UInt64) (FP.ddiv d0 (4675252771358769152 : UInt64)))) (FP.dmul (FP.dmul (FP.dsub (4591373270898472171 : UInt64) (FP.dmul (4528933693928425934 : UInt64) (FP.ddiv d0 (4675252771358769152 : UInt64)))) (FP.ddiv d0 (4675252771358769152 : UInt64))) (FP.ddiv d0 (4675252771358769152 : UInt64)))) (4680673776000565248 : UInt64)))]))
  refine own_st (fun t k => XS.ddivS X0.here hx rfl (hb hby own_d12_40) rfl (y10) (v := (FP.ddiv (FP.drem (FP.dadd (FP.dadd (4679361958876123245 : UInt64) (FP.dmul (4748926635797512960 : UInt64) (FP.ddiv d0 (4675252771358769152 : UInt64)))) (FP.dmul (FP.dmul (FP.dsub (4591373270898472171 : UInt64) (FP.dmul (4528933693928425934 : UInt64) (FP.ddiv d0 (4675252771358769152 : UInt64)))) (FP.ddiv d0 (4675252771358769152 : UInt64))) (FP.ddiv d0 (4675252771358769152 : UInt64)))) (4680673776000565248 : UInt64)) (4680673776000565248 : UInt64))) (rfl) k) ?_
  show own_Run p e below s _ _ _ (s₁.setTop (mkF m 41 #[.val (.double d0), .second, .val (.double (FP.ddiv d0 (4675252771358769152 : UInt64))), .second, .val (.double (FP.dadd (FP.dadd (4679361958876123245 : UInt64) (FP.dmul (4748926635797512960 : UInt64) (FP.ddiv d0 (4675252771358769152 : UInt64)))) (FP.dmul (FP.dmul (FP.dsub (4591373270898472171 : UInt64) (FP.dmul (4528933693928425934 : UInt64) (FP.ddiv d0 (4675252771358769152 : UInt64)))) (FP.ddiv d0 (4675252771358769152 : UInt64))) (FP.ddiv d0 (4675252771358769152 : UInt64))))), .second, .unset, .unset] [(.double (FP.ddiv (FP.drem (FP.dadd (FP.dadd (4679361958876123245 : UInt64) (FP.dmul (4748926635797512960 : UInt64) (FP.ddiv d0 (4675252771358769152 : UInt64)))) (FP.dmul (FP.dmul (FP.dsub (4591373270898472171 : UInt64) (FP.dmul (4528933693928425934 : UInt64) (FP.ddiv d0 (4675252771358769152 : UInt64)))) (FP.ddiv d0 (4675252771358769152 : UInt64))) (FP.ddiv d0 (4675252771358769152 : UInt64)))) (4680673776000565248 : UInt64)) (4680673776000565248 : UInt64)))]))
  refine own_st (X0.ldc2DoubleC hx hown (mvT hZ (hw _ (List.mem_of_getElem? (i := 65) rfl))) (g := (mkF m 41 #[.val (.double d0), .second, .val (.double (FP.ddiv d0 (4675252771358769152 : UInt64))), .second, .val (.double (FP.dadd (FP.dadd (4679361958876123245 : UInt64) (FP.dmul (4748926635797512960 : UInt64) (FP.ddiv d0 (4675252771358769152 : UInt64)))) (FP.dmul (FP.dmul (FP.dsub (4591373270898472171 : UInt64) (FP.dmul (4528933693928425934 : UInt64) (FP.ddiv d0 (4675252771358769152 : UInt64)))) (FP.ddiv d0 (4675252771358769152 : UInt64))) (FP.ddiv d0 (4675252771358769152 : UInt64))))), .second, .unset, .unset] [(.double (FP.ddiv (FP.drem (FP.dadd (FP.dadd (4679361958876123245 : UInt64) (FP.dmul (4748926635797512960 : UInt64) (FP.ddiv d0 (4675252771358769152 : UInt64)))) (FP.dmul (FP.dmul (FP.dsub (4591373270898472171 : UInt64) (FP.dmul (4528933693928425934 : UInt64) (FP.ddiv d0 (4675252771358769152 : UInt64)))) (FP.ddiv d0 (4675252771358769152 : UInt64))) (FP.ddiv d0 (4675252771358769152 : UInt64)))) (4680673776000565248 : UInt64)) (4680673776000565248 : UInt64)))])) rfl (hb hby own_d12_41)) ?_
  show own_Run p e below s _ _ _ (s₁.setTop (mkF m 44 #[.val (.double d0), .second, .val (.double (FP.ddiv d0 (4675252771358769152 : UInt64))), .second, .val (.double (FP.dadd (FP.dadd (4679361958876123245 : UInt64) (FP.dmul (4748926635797512960 : UInt64) (FP.ddiv d0 (4675252771358769152 : UInt64)))) (FP.dmul (FP.dmul (FP.dsub (4591373270898472171 : UInt64) (FP.dmul (4528933693928425934 : UInt64) (FP.ddiv d0 (4675252771358769152 : UInt64)))) (FP.ddiv d0 (4675252771358769152 : UInt64))) (FP.ddiv d0 (4675252771358769152 : UInt64))))), .second, .unset, .unset] [(.double (4611686018427387904 : UInt64)), (.double (FP.ddiv (FP.drem (FP.dadd (FP.dadd (4679361958876123245 : UInt64) (FP.dmul (4748926635797512960 : UInt64) (FP.ddiv d0 (4675252771358769152 : UInt64)))) (FP.dmul (FP.dmul (FP.dsub (4591373270898472171 : UInt64) (FP.dmul (4528933693928425934 : UInt64) (FP.ddiv d0 (4675252771358769152 : UInt64)))) (FP.ddiv d0 (4675252771358769152 : UInt64))) (FP.ddiv d0 (4675252771358769152 : UInt64)))) (4680673776000565248 : UInt64)) (4680673776000565248 : UInt64)))]))
  refine own_st (fun t k => XS.dmulS X0.here hx rfl (hb hby own_d12_44) rfl (y11) (v := (FP.dmul (FP.ddiv (FP.drem (FP.dadd (FP.dadd (4679361958876123245 : UInt64) (FP.dmul (4748926635797512960 : UInt64) (FP.ddiv d0 (4675252771358769152 : UInt64)))) (FP.dmul (FP.dmul (FP.dsub (4591373270898472171 : UInt64) (FP.dmul (4528933693928425934 : UInt64) (FP.ddiv d0 (4675252771358769152 : UInt64)))) (FP.ddiv d0 (4675252771358769152 : UInt64))) (FP.ddiv d0 (4675252771358769152 : UInt64)))) (4680673776000565248 : UInt64)) (4680673776000565248 : UInt64)) (4611686018427387904 : UInt64))) (rfl) k) ?_
  show own_Run p e below s _ _ _ (s₁.setTop (mkF m 45 #[.val (.double d0), .second, .val (.double (FP.ddiv d0 (4675252771358769152 : UInt64))), .second, .val (.double (FP.dadd (FP.dadd (4679361958876123245 : UInt64) (FP.dmul (4748926635797512960 : UInt64) (FP.ddiv d0 (4675252771358769152 : UInt64)))) (FP.dmul (FP.dmul (FP.dsub (4591373270898472171 : UInt64) (FP.dmul (4528933693928425934 : UInt64) (FP.ddiv d0 (4675252771358769152 : UInt64)))) (FP.ddiv d0 (4675252771358769152 : UInt64))) (FP.ddiv d0 (4675252771358769152 : UInt64))))), .second, .unset, .unset] [(.double (FP.dmul (FP.ddiv (FP.drem (FP.dadd (FP.dadd (4679361958876123245 : UInt64) (FP.dmul (4748926635797512960 : UInt64) (FP.ddiv d0 (4675252771358769152 : UInt64)))) (FP.dmul (FP.dmul (FP.dsub (4591373270898472171 : UInt64) (FP.dmul (4528933693928425934 : UInt64) (FP.ddiv d0 (4675252771358769152 : UInt64)))) (FP.ddiv d0 (4675252771358769152 : UInt64))) (FP.ddiv d0 (4675252771358769152 : UInt64)))) (4680673776000565248 : UInt64)) (4680673776000565248 : UInt64)) (4611686018427387904 : UInt64)))]))
  refine own_st (X0.ldc2DoubleC hx hown (mvT hZ (hw _ (List.mem_of_getElem? (i := 66) rfl))) (g := (mkF m 45 #[.val (.double d0), .second, .val (.double (FP.ddiv d0 (4675252771358769152 : UInt64))), .second, .val (.double (FP.dadd (FP.dadd (4679361958876123245 : UInt64) (FP.dmul (4748926635797512960 : UInt64) (FP.ddiv d0 (4675252771358769152 : UInt64)))) (FP.dmul (FP.dmul (FP.dsub (4591373270898472171 : UInt64) (FP.dmul (4528933693928425934 : UInt64) (FP.ddiv d0 (4675252771358769152 : UInt64)))) (FP.ddiv d0 (4675252771358769152 : UInt64))) (FP.ddiv d0 (4675252771358769152 : UInt64))))), .second, .unset, .unset] [(.double (FP.dmul (FP.ddiv (FP.drem (FP.dadd (FP.dadd (4679361958876123245 : UInt64) (FP.dmul (4748926635797512960 : UInt64) (FP.ddiv d0 (4675252771358769152 : UInt64)))) (FP.dmul (FP.dmul (FP.dsub (4591373270898472171 : UInt64) (FP.dmul (4528933693928425934 : UInt64) (FP.ddiv d0 (4675252771358769152 : UInt64)))) (FP.ddiv d0 (4675252771358769152 : UInt64))) (FP.ddiv d0 (4675252771358769152 : UInt64)))) (4680673776000565248 : UInt64)) (4680673776000565248 : UInt64)) (4611686018427387904 : UInt64)))])) rfl (hb hby own_d12_45)) ?_
  show own_Run p e below s _ _ _ (s₁.setTop (mkF m 48 #[.val (.double d0), .second, .val (.double (FP.ddiv d0 (4675252771358769152 : UInt64))), .second, .val (.double (FP.dadd (FP.dadd (4679361958876123245 : UInt64) (FP.dmul (4748926635797512960 : UInt64) (FP.ddiv d0 (4675252771358769152 : UInt64)))) (FP.dmul (FP.dmul (FP.dsub (4591373270898472171 : UInt64) (FP.dmul (4528933693928425934 : UInt64) (FP.ddiv d0 (4675252771358769152 : UInt64)))) (FP.ddiv d0 (4675252771358769152 : UInt64))) (FP.ddiv d0 (4675252771358769152 : UInt64))))), .second, .unset, .unset] [(.double (4614256656552045848 : UInt64)), (.double (FP.dmul (FP.ddiv (FP.drem (FP.dadd (FP.dadd (4679361958876123245 : UInt64) (FP.dmul (4748926635797512960 : UInt64) (FP.ddiv d0 (4675252771358769152 : UInt64)))) (FP.dmul (FP.dmul (FP.dsub (4591373270898472171 : UInt64) (FP.dmul (4528933693928425934 : UInt64) (FP.ddiv d0 (4675252771358769152 : UInt64)))) (FP.ddiv d0 (4675252771358769152 : UInt64))) (FP.ddiv d0 (4675252771358769152 : UInt64)))) (4680673776000565248 : UInt64)) (4680673776000565248 : UInt64)) (4611686018427387904 : UInt64)))]))
  refine own_st (fun t k => XS.dmulS X0.here hx rfl (hb hby own_d12_48) rfl (y12) (v := (FP.dmul (FP.dmul (FP.ddiv (FP.drem (FP.dadd (FP.dadd (4679361958876123245 : UInt64) (FP.dmul (4748926635797512960 : UInt64) (FP.ddiv d0 (4675252771358769152 : UInt64)))) (FP.dmul (FP.dmul (FP.dsub (4591373270898472171 : UInt64) (FP.dmul (4528933693928425934 : UInt64) (FP.ddiv d0 (4675252771358769152 : UInt64)))) (FP.ddiv d0 (4675252771358769152 : UInt64))) (FP.ddiv d0 (4675252771358769152 : UInt64)))) (4680673776000565248 : UInt64)) (4680673776000565248 : UInt64)) (4611686018427387904 : UInt64)) (4614256656552045848 : UInt64))) (rfl) k) ?_
  show own_Run p e below s _ _ _ (s₁.setTop (mkF m 49 #[.val (.double d0), .second, .val (.double (FP.ddiv d0 (4675252771358769152 : UInt64))), .second, .val (.double (FP.dadd (FP.dadd (4679361958876123245 : UInt64) (FP.dmul (4748926635797512960 : UInt64) (FP.ddiv d0 (4675252771358769152 : UInt64)))) (FP.dmul (FP.dmul (FP.dsub (4591373270898472171 : UInt64) (FP.dmul (4528933693928425934 : UInt64) (FP.ddiv d0 (4675252771358769152 : UInt64)))) (FP.ddiv d0 (4675252771358769152 : UInt64))) (FP.ddiv d0 (4675252771358769152 : UInt64))))), .second, .unset, .unset] [(.double (FP.dmul (FP.dmul (FP.ddiv (FP.drem (FP.dadd (FP.dadd (4679361958876123245 : UInt64) (FP.dmul (4748926635797512960 : UInt64) (FP.ddiv d0 (4675252771358769152 : UInt64)))) (FP.dmul (FP.dmul (FP.dsub (4591373270898472171 : UInt64) (FP.dmul (4528933693928425934 : UInt64) (FP.ddiv d0 (4675252771358769152 : UInt64)))) (FP.ddiv d0 (4675252771358769152 : UInt64))) (FP.ddiv d0 (4675252771358769152 : UInt64)))) (4680673776000565248 : UInt64)) (4680673776000565248 : UInt64)) (4611686018427387904 : UInt64)) (4614256656552045848 : UInt64)))]))
  refine own_st (fun t k => XS.dstore X0.here hx rfl (hb hby own_d12_49) rfl (l' := #[.val (.double d0), .second, .val (.double (FP.ddiv d0 (4675252771358769152 : UInt64))), .second, .val (.double (FP.dadd (FP.dadd (4679361958876123245 : UInt64) (FP.dmul (4748926635797512960 : UInt64) (FP.ddiv d0 (4675252771358769152 : UInt64)))) (FP.dmul (FP.dmul (FP.dsub (4591373270898472171 : UInt64) (FP.dmul (4528933693928425934 : UInt64) (FP.ddiv d0 (4675252771358769152 : UInt64)))) (FP.ddiv d0 (4675252771358769152 : UInt64))) (FP.ddiv d0 (4675252771358769152 : UInt64))))), .second, .val (.double (FP.dmul (FP.dmul (FP.ddiv (FP.drem (FP.dadd (FP.dadd (4679361958876123245 : UInt64) (FP.dmul (4748926635797512960 : UInt64) (FP.ddiv d0 (4675252771358769152 : UInt64)))) (FP.dmul (FP.dmul (FP.dsub (4591373270898472171 : UInt64) (FP.dmul (4528933693928425934 : UInt64) (FP.ddiv d0 (4675252771358769152 : UInt64)))) (FP.ddiv d0 (4675252771358769152 : UInt64))) (FP.ddiv d0 (4675252771358769152 : UInt64)))) (4680673776000565248 : UInt64)) (4680673776000565248 : UInt64)) (4611686018427387904 : UInt64)) (4614256656552045848 : UInt64))), .second]) rfl k) ?_
  show own_Run p e below s _ _ _ (s₁.setTop (mkF m 51 #[.val (.double d0), .second, .val (.double (FP.ddiv d0 (4675252771358769152 : UInt64))), .second, .val (.double (FP.dadd (FP.dadd (4679361958876123245 : UInt64) (FP.dmul (4748926635797512960 : UInt64) (FP.ddiv d0 (4675252771358769152 : UInt64)))) (FP.dmul (FP.dmul (FP.dsub (4591373270898472171 : UInt64) (FP.dmul (4528933693928425934 : UInt64) (FP.ddiv d0 (4675252771358769152 : UInt64)))) (FP.ddiv d0 (4675252771358769152 : UInt64))) (FP.ddiv d0 (4675252771358769152 : UInt64))))), .second, .val (.double (FP.dmul (FP.dmul (FP.ddiv (FP.drem (FP.dadd (FP.dadd (4679361958876123245 : UInt64) (FP.dmul (4748926635797512960 : UInt64) (FP.ddiv d0 (4675252771358769152 : UInt64)))) (FP.dmul (FP.dmul (FP.dsub (4591373270898472171 : UInt64) (FP.dmul (4528933693928425934 : UInt64) (FP.ddiv d0 (4675252771358769152 : UInt64)))) (FP.ddiv d0 (4675252771358769152 : UInt64))) (FP.ddiv d0 (4675252771358769152 : UInt64)))) (4680673776000565248 : UInt64)) (4680673776000565248 : UInt64)) (4611686018427387904 : UInt64)) (4614256656552045848 : UInt64))), .second] []))
  refine own_st (fun t k => XS.dload X0.here hx rfl (hb hby own_d12_51) rfl k) ?_
  show own_Run p e below s _ _ _ (s₁.setTop (mkF m 53 #[.val (.double d0), .second, .val (.double (FP.ddiv d0 (4675252771358769152 : UInt64))), .second, .val (.double (FP.dadd (FP.dadd (4679361958876123245 : UInt64) (FP.dmul (4748926635797512960 : UInt64) (FP.ddiv d0 (4675252771358769152 : UInt64)))) (FP.dmul (FP.dmul (FP.dsub (4591373270898472171 : UInt64) (FP.dmul (4528933693928425934 : UInt64) (FP.ddiv d0 (4675252771358769152 : UInt64)))) (FP.ddiv d0 (4675252771358769152 : UInt64))) (FP.ddiv d0 (4675252771358769152 : UInt64))))), .second, .val (.double (FP.dmul (FP.dmul (FP.ddiv (FP.drem (FP.dadd (FP.dadd (4679361958876123245 : UInt64) (FP.dmul (4748926635797512960 : UInt64) (FP.ddiv d0 (4675252771358769152 : UInt64)))) (FP.dmul (FP.dmul (FP.dsub (4591373270898472171 : UInt64) (FP.dmul (4528933693928425934 : UInt64) (FP.ddiv d0 (4675252771358769152 : UInt64)))) (FP.ddiv d0 (4675252771358769152 : UInt64))) (FP.ddiv d0 (4675252771358769152 : UInt64)))) (4680673776000565248 : UInt64)) (4680673776000565248 : UInt64)) (4611686018427387904 : UInt64)) (4614256656552045848 : UInt64))), .second] [(.double (FP.dmul (FP.dmul (FP.ddiv (FP.drem (FP.dadd (FP.dadd (4679361958876123245 : UInt64) (FP.dmul (4748926635797512960 : UInt64) (FP.ddiv d0 (4675252771358769152 : UInt64)))) (FP.dmul (FP.dmul (FP.dsub (4591373270898472171 : UInt64) (FP.dmul (4528933693928425934 : UInt64) (FP.ddiv d0 (4675252771358769152 : UInt64)))) (FP.ddiv d0 (4675252771358769152 : UInt64))) (FP.ddiv d0 (4675252771358769152 : UInt64)))) (4680673776000565248 : UInt64)) (4680673776000565248 : UInt64)) (4611686018427387904 : UInt64)) (4614256656552045848 : UInt64)))]))
  refine own_st (fun t k => XS.dconst0 X0.here hx rfl (hb hby own_d12_53) (v := 0) rfl k) ?_
  show own_Run p e below s _ _ _ (s₁.setTop (mkF m 54 #[.val (.double d0), .second, .val (.double (FP.ddiv d0 (4675252771358769152 : UInt64))), .second, .val (.double (FP.dadd (FP.dadd (4679361958876123245 : UInt64) (FP.dmul (4748926635797512960 : UInt64) (FP.ddiv d0 (4675252771358769152 : UInt64)))) (FP.dmul (FP.dmul (FP.dsub (4591373270898472171 : UInt64) (FP.dmul (4528933693928425934 : UInt64) (FP.ddiv d0 (4675252771358769152 : UInt64)))) (FP.ddiv d0 (4675252771358769152 : UInt64))) (FP.ddiv d0 (4675252771358769152 : UInt64))))), .second, .val (.double (FP.dmul (FP.dmul (FP.ddiv (FP.drem (FP.dadd (FP.dadd (4679361958876123245 : UInt64) (FP.dmul (4748926635797512960 : UInt64) (FP.ddiv d0 (4675252771358769152 : UInt64)))) (FP.dmul (FP.dmul (FP.dsub (4591373270898472171 : UInt64) (FP.dmul (4528933693928425934 : UInt64) (FP.ddiv d0 (4675252771358769152 : UInt64)))) (FP.ddiv d0 (4675252771358769152 : UInt64))) (FP.ddiv d0 (4675252771358769152 : UInt64)))) (4680673776000565248 : UInt64)) (4680673776000565248 : UInt64)) (4611686018427387904 : UInt64)) (4614256656552045848 : UInt64))), .second] [(.double (0 : UInt64)), (.double (FP.dmul (FP.dmul (FP.ddiv (FP.drem (FP.dadd (FP.dadd (4679361958876123245 : UInt64) (FP.dmul (4748926635797512960 : UInt64) (FP.ddiv d0 (4675252771358769152 : UInt64)))) (FP.dmul (FP.dmul (FP.dsub (4591373270898472171 : UInt64) (FP.dmul (4528933693928425934 : UInt64) (FP.ddiv d0 (4675252771358769152 : UInt64)))) (FP.ddiv d0 (4675252771358769152 : UInt64))) (FP.ddiv d0 (4675252771358769152 : UInt64)))) (4680673776000565248 : UInt64)) (4680673776000565248 : UInt64)) (4611686018427387904 : UInt64)) (4614256656552045848 : UInt64)))]))
  refine own_st (fun t k => XS.dcmpS X0.here hx rfl (hb hby own_d12_54) rfl (v := (cmpValue (FP.dcmp (FP.dmul (FP.dmul (FP.ddiv (FP.drem (FP.dadd (FP.dadd (4679361958876123245 : UInt64) (FP.dmul (4748926635797512960 : UInt64) (FP.ddiv d0 (4675252771358769152 : UInt64)))) (FP.dmul (FP.dmul (FP.dsub (4591373270898472171 : UInt64) (FP.dmul (4528933693928425934 : UInt64) (FP.ddiv d0 (4675252771358769152 : UInt64)))) (FP.ddiv d0 (4675252771358769152 : UInt64))) (FP.ddiv d0 (4675252771358769152 : UInt64)))) (4680673776000565248 : UInt64)) (4680673776000565248 : UInt64)) (4611686018427387904 : UInt64)) (4614256656552045848 : UInt64)) (0 : UInt64)) .g)) (rfl) k) ?_
  show own_Run p e below s _ _ _ (s₁.setTop (mkF m 55 #[.val (.double d0), .second, .val (.double (FP.ddiv d0 (4675252771358769152 : UInt64))), .second, .val (.double (FP.dadd (FP.dadd (4679361958876123245 : UInt64) (FP.dmul (4748926635797512960 : UInt64) (FP.ddiv d0 (4675252771358769152 : UInt64)))) (FP.dmul (FP.dmul (FP.dsub (4591373270898472171 : UInt64) (FP.dmul (4528933693928425934 : UInt64) (FP.ddiv d0 (4675252771358769152 : UInt64)))) (FP.ddiv d0 (4675252771358769152 : UInt64))) (FP.ddiv d0 (4675252771358769152 : UInt64))))), .second, .val (.double (FP.dmul (FP.dmul (FP.ddiv (FP.drem (FP.dadd (FP.dadd (4679361958876123245 : UInt64) (FP.dmul (4748926635797512960 : UInt64) (FP.ddiv d0 (4675252771358769152 : UInt64)))) (FP.dmul (FP.dmul (FP.dsub (4591373270898472171 : UInt64) (FP.dmul (4528933693928425934 : UInt64) (FP.ddiv d0 (4675252771358769152 : UInt64)))) (FP.ddiv d0 (4675252771358769152 : UInt64))) (FP.ddiv d0 (4675252771358769152 : UInt64)))) (4680673776000565248 : UInt64)) (4680673776000565248 : UInt64)) (4611686018427387904 : UInt64)) (4614256656552045848 : UInt64))), .second] [(.int (cmpValue (FP.dcmp (FP.dmul (FP.dmul (FP.ddiv (FP.drem (FP.dadd (FP.dadd (4679361958876123245 : UInt64) (FP.dmul (4748926635797512960 : UInt64) (FP.ddiv d0 (4675252771358769152 : UInt64)))) (FP.dmul (FP.dmul (FP.dsub (4591373270898472171 : UInt64) (FP.dmul (4528933693928425934 : UInt64) (FP.ddiv d0 (4675252771358769152 : UInt64)))) (FP.ddiv d0 (4675252771358769152 : UInt64))) (FP.ddiv d0 (4675252771358769152 : UInt64)))) (4680673776000565248 : UInt64)) (4680673776000565248 : UInt64)) (4611686018427387904 : UInt64)) (4614256656552045848 : UInt64)) (0 : UInt64)) .g))]))
  by_cases hA : (cmpValue (FP.dcmp (FP.dmul (FP.dmul (FP.ddiv (FP.drem (FP.dadd (FP.dadd (4679361958876123245 : UInt64) (FP.dmul (4748926635797512960 : UInt64) (FP.ddiv d0 (4675252771358769152 : UInt64)))) (FP.dmul (FP.dmul (FP.dsub (4591373270898472171 : UInt64) (FP.dmul (4528933693928425934 : UInt64) (FP.ddiv d0 (4675252771358769152 : UInt64)))) (FP.ddiv d0 (4675252771358769152 : UInt64))) (FP.ddiv d0 (4675252771358769152 : UInt64)))) (4680673776000565248 : UInt64)) (4680673776000565248 : UInt64)) (4611686018427387904 : UInt64)) (4614256656552045848 : UInt64)) (0 : UInt64)) .g) < (0 : Int32)
  · skip
    refine own_st (fun t k => XS.ifNo X0.here hx rfl (hb hby own_d12_55) rfl ((if0 _ _).trans (tlt (hA : (cmpValue (FP.dcmp (FP.dmul (FP.dmul (FP.ddiv (FP.drem (FP.dadd (FP.dadd (4679361958876123245 : UInt64) (FP.dmul (4748926635797512960 : UInt64) (FP.ddiv d0 (4675252771358769152 : UInt64)))) (FP.dmul (FP.dmul (FP.dsub (4591373270898472171 : UInt64) (FP.dmul (4528933693928425934 : UInt64) (FP.ddiv d0 (4675252771358769152 : UInt64)))) (FP.ddiv d0 (4675252771358769152 : UInt64))) (FP.ddiv d0 (4675252771358769152 : UInt64)))) (4680673776000565248 : UInt64)) (4680673776000565248 : UInt64)) (4611686018427387904 : UInt64)) (4614256656552045848 : UInt64)) (0 : UInt64)) .g) < (0 : Int32))).2.1) k) ?_
    show own_Run p e below s _ _ _ (s₁.setTop (mkF m 58 #[.val (.double d0), .second, .val (.double (FP.ddiv d0 (4675252771358769152 : UInt64))), .second, .val (.double (FP.dadd (FP.dadd (4679361958876123245 : UInt64) (FP.dmul (4748926635797512960 : UInt64) (FP.ddiv d0 (4675252771358769152 : UInt64)))) (FP.dmul (FP.dmul (FP.dsub (4591373270898472171 : UInt64) (FP.dmul (4528933693928425934 : UInt64) (FP.ddiv d0 (4675252771358769152 : UInt64)))) (FP.ddiv d0 (4675252771358769152 : UInt64))) (FP.ddiv d0 (4675252771358769152 : UInt64))))), .second, .val (.double (FP.dmul (FP.dmul (FP.ddiv (FP.drem (FP.dadd (FP.dadd (4679361958876123245 : UInt64) (FP.dmul (4748926635797512960 : UInt64) (FP.ddiv d0 (4675252771358769152 : UInt64)))) (FP.dmul (FP.dmul (FP.dsub (4591373270898472171 : UInt64) (FP.dmul (4528933693928425934 : UInt64) (FP.ddiv d0 (4675252771358769152 : UInt64)))) (FP.ddiv d0 (4675252771358769152 : UInt64))) (FP.ddiv d0 (4675252771358769152 : UInt64)))) (4680673776000565248 : UInt64)) (4680673776000565248 : UInt64)) (4611686018427387904 : UInt64)) (4614256656552045848 : UInt64))), .second] []))
    refine own_st (fun t k => XS.dload X0.here hx rfl (hb hby own_d12_58) rfl k) ?_
    show own_Run p e below s _ _ _ (s₁.setTop (mkF m 60 #[.val (.double d0), .second, .val (.double (FP.ddiv d0 (4675252771358769152 : UInt64))), .second, .val (.double (FP.dadd (FP.dadd (4679361958876123245 : UInt64) (FP.dmul (4748926635797512960 : UInt64) (FP.ddiv d0 (4675252771358769152 : UInt64)))) (FP.dmul (FP.dmul (FP.dsub (4591373270898472171 : UInt64) (FP.dmul (4528933693928425934 : UInt64) (FP.ddiv d0 (4675252771358769152 : UInt64)))) (FP.ddiv d0 (4675252771358769152 : UInt64))) (FP.ddiv d0 (4675252771358769152 : UInt64))))), .second, .val (.double (FP.dmul (FP.dmul (FP.ddiv (FP.drem (FP.dadd (FP.dadd (4679361958876123245 : UInt64) (FP.dmul (4748926635797512960 : UInt64) (FP.ddiv d0 (4675252771358769152 : UInt64)))) (FP.dmul (FP.dmul (FP.dsub (4591373270898472171 : UInt64) (FP.dmul (4528933693928425934 : UInt64) (FP.ddiv d0 (4675252771358769152 : UInt64)))) (FP.ddiv d0 (4675252771358769152 : UInt64))) (FP.ddiv d0 (4675252771358769152 : UInt64)))) (4680673776000565248 : UInt64)) (4680673776000565248 : UInt64)) (4611686018427387904 : UInt64)) (4614256656552045848 : UInt64))), .second] [(.double (FP.dmul (FP.dmul (FP.ddiv (FP.drem (FP.dadd (FP.dadd (4679361958876123245 : UInt64) (FP.dmul (4748926635797512960 : UInt64) (FP.ddiv d0 (4675252771358769152 : UInt64)))) (FP.dmul (FP.dmul (FP.dsub (4591373270898472171 : UInt64) (FP.dmul (4528933693928425934 : UInt64) (FP.ddiv d0 (4675252771358769152 : UInt64)))) (FP.ddiv d0 (4675252771358769152 : UInt64))) (FP.ddiv d0 (4675252771358769152 : UInt64)))) (4680673776000565248 : UInt64)) (4680673776000565248 : UInt64)) (4611686018427387904 : UInt64)) (4614256656552045848 : UInt64)))]))
    refine own_st (X0.ldc2DoubleC hx hown (mvT hZ (hw _ (List.mem_of_getElem? (i := 67) rfl))) (g := (mkF m 60 #[.val (.double d0), .second, .val (.double (FP.ddiv d0 (4675252771358769152 : UInt64))), .second, .val (.double (FP.dadd (FP.dadd (4679361958876123245 : UInt64) (FP.dmul (4748926635797512960 : UInt64) (FP.ddiv d0 (4675252771358769152 : UInt64)))) (FP.dmul (FP.dmul (FP.dsub (4591373270898472171 : UInt64) (FP.dmul (4528933693928425934 : UInt64) (FP.ddiv d0 (4675252771358769152 : UInt64)))) (FP.ddiv d0 (4675252771358769152 : UInt64))) (FP.ddiv d0 (4675252771358769152 : UInt64))))), .second, .val (.double (FP.dmul (FP.dmul (FP.ddiv (FP.drem (FP.dadd (FP.dadd (4679361958876123245 : UInt64) (FP.dmul (4748926635797512960 : UInt64) (FP.ddiv d0 (4675252771358769152 : UInt64)))) (FP.dmul (FP.dmul (FP.dsub (4591373270898472171 : UInt64) (FP.dmul (4528933693928425934 : UInt64) (FP.ddiv d0 (4675252771358769152 : UInt64)))) (FP.ddiv d0 (4675252771358769152 : UInt64))) (FP.ddiv d0 (4675252771358769152 : UInt64)))) (4680673776000565248 : UInt64)) (4680673776000565248 : UInt64)) (4611686018427387904 : UInt64)) (4614256656552045848 : UInt64))), .second] [(.double (FP.dmul (FP.dmul (FP.ddiv (FP.drem (FP.dadd (FP.dadd (4679361958876123245 : UInt64) (FP.dmul (4748926635797512960 : UInt64) (FP.ddiv d0 (4675252771358769152 : UInt64)))) (FP.dmul (FP.dmul (FP.dsub (4591373270898472171 : UInt64) (FP.dmul (4528933693928425934 : UInt64) (FP.ddiv d0 (4675252771358769152 : UInt64)))) (FP.ddiv d0 (4675252771358769152 : UInt64))) (FP.ddiv d0 (4675252771358769152 : UInt64)))) (4680673776000565248 : UInt64)) (4680673776000565248 : UInt64)) (4611686018427387904 : UInt64)) (4614256656552045848 : UInt64)))])) rfl (hb hby own_d12_60)) ?_
    show own_Run p e below s _ _ _ (s₁.setTop (mkF m 63 #[.val (.double d0), .second, .val (.double (FP.ddiv d0 (4675252771358769152 : UInt64))), .second, .val (.double (FP.dadd (FP.dadd (4679361958876123245 : UInt64) (FP.dmul (4748926635797512960 : UInt64) (FP.ddiv d0 (4675252771358769152 : UInt64)))) (FP.dmul (FP.dmul (FP.dsub (4591373270898472171 : UInt64) (FP.dmul (4528933693928425934 : UInt64) (FP.ddiv d0 (4675252771358769152 : UInt64)))) (FP.ddiv d0 (4675252771358769152 : UInt64))) (FP.ddiv d0 (4675252771358769152 : UInt64))))), .second, .val (.double (FP.dmul (FP.dmul (FP.ddiv (FP.drem (FP.dadd (FP.dadd (4679361958876123245 : UInt64) (FP.dmul (4748926635797512960 : UInt64) (FP.ddiv d0 (4675252771358769152 : UInt64)))) (FP.dmul (FP.dmul (FP.dsub (4591373270898472171 : UInt64) (FP.dmul (4528933693928425934 : UInt64) (FP.ddiv d0 (4675252771358769152 : UInt64)))) (FP.ddiv d0 (4675252771358769152 : UInt64))) (FP.ddiv d0 (4675252771358769152 : UInt64)))) (4680673776000565248 : UInt64)) (4680673776000565248 : UInt64)) (4611686018427387904 : UInt64)) (4614256656552045848 : UInt64))), .second] [(.double (4618760256179416344 : UInt64)), (.double (FP.dmul (FP.dmul (FP.ddiv (FP.drem (FP.dadd (FP.dadd (4679361958876123245 : UInt64) (FP.dmul (4748926635797512960 : UInt64) (FP.ddiv d0 (4675252771358769152 : UInt64)))) (FP.dmul (FP.dmul (FP.dsub (4591373270898472171 : UInt64) (FP.dmul (4528933693928425934 : UInt64) (FP.ddiv d0 (4675252771358769152 : UInt64)))) (FP.ddiv d0 (4675252771358769152 : UInt64))) (FP.ddiv d0 (4675252771358769152 : UInt64)))) (4680673776000565248 : UInt64)) (4680673776000565248 : UInt64)) (4611686018427387904 : UInt64)) (4614256656552045848 : UInt64)))]))
    refine own_st (fun t k => XS.daddS X0.here hx rfl (hb hby own_d12_63) rfl (y13) (v := (FP.dadd (FP.dmul (FP.dmul (FP.ddiv (FP.drem (FP.dadd (FP.dadd (4679361958876123245 : UInt64) (FP.dmul (4748926635797512960 : UInt64) (FP.ddiv d0 (4675252771358769152 : UInt64)))) (FP.dmul (FP.dmul (FP.dsub (4591373270898472171 : UInt64) (FP.dmul (4528933693928425934 : UInt64) (FP.ddiv d0 (4675252771358769152 : UInt64)))) (FP.ddiv d0 (4675252771358769152 : UInt64))) (FP.ddiv d0 (4675252771358769152 : UInt64)))) (4680673776000565248 : UInt64)) (4680673776000565248 : UInt64)) (4611686018427387904 : UInt64)) (4614256656552045848 : UInt64)) (4618760256179416344 : UInt64))) (rfl) k) ?_
    show own_Run p e below s _ _ _ (s₁.setTop (mkF m 64 #[.val (.double d0), .second, .val (.double (FP.ddiv d0 (4675252771358769152 : UInt64))), .second, .val (.double (FP.dadd (FP.dadd (4679361958876123245 : UInt64) (FP.dmul (4748926635797512960 : UInt64) (FP.ddiv d0 (4675252771358769152 : UInt64)))) (FP.dmul (FP.dmul (FP.dsub (4591373270898472171 : UInt64) (FP.dmul (4528933693928425934 : UInt64) (FP.ddiv d0 (4675252771358769152 : UInt64)))) (FP.ddiv d0 (4675252771358769152 : UInt64))) (FP.ddiv d0 (4675252771358769152 : UInt64))))), .second, .val (.double (FP.dmul (FP.dmul (FP.ddiv (FP.drem (FP.dadd (FP.dadd (4679361958876123245 : UInt64) (FP.dmul (4748926635797512960 : UInt64) (FP.ddiv d0 (4675252771358769152 : UInt64)))) (FP.dmul (FP.dmul (FP.dsub (4591373270898472171 : UInt64) (FP.dmul (4528933693928425934 : UInt64) (FP.ddiv d0 (4675252771358769152 : UInt64)))) (FP.ddiv d0 (4675252771358769152 : UInt64))) (FP.ddiv d0 (4675252771358769152 : UInt64)))) (4680673776000565248 : UInt64)) (4680673776000565248 : UInt64)) (4611686018427387904 : UInt64)) (4614256656552045848 : UInt64))), .second] [(.double (FP.dadd (FP.dmul (FP.dmul (FP.ddiv (FP.drem (FP.dadd (FP.dadd (4679361958876123245 : UInt64) (FP.dmul (4748926635797512960 : UInt64) (FP.ddiv d0 (4675252771358769152 : UInt64)))) (FP.dmul (FP.dmul (FP.dsub (4591373270898472171 : UInt64) (FP.dmul (4528933693928425934 : UInt64) (FP.ddiv d0 (4675252771358769152 : UInt64)))) (FP.ddiv d0 (4675252771358769152 : UInt64))) (FP.ddiv d0 (4675252771358769152 : UInt64)))) (4680673776000565248 : UInt64)) (4680673776000565248 : UInt64)) (4611686018427387904 : UInt64)) (4614256656552045848 : UInt64)) (4618760256179416344 : UInt64)))]))
    refine own_st (fun t k => XS.goto X0.here hx rfl (pc0 := 64) (pc' := 69) rfl (hb hby own_d12_64) (by decide) (by decide) k) ?_
    show own_Run p e below s _ _ _ (s₁.setTop (mkF m 69 #[.val (.double d0), .second, .val (.double (FP.ddiv d0 (4675252771358769152 : UInt64))), .second, .val (.double (FP.dadd (FP.dadd (4679361958876123245 : UInt64) (FP.dmul (4748926635797512960 : UInt64) (FP.ddiv d0 (4675252771358769152 : UInt64)))) (FP.dmul (FP.dmul (FP.dsub (4591373270898472171 : UInt64) (FP.dmul (4528933693928425934 : UInt64) (FP.ddiv d0 (4675252771358769152 : UInt64)))) (FP.ddiv d0 (4675252771358769152 : UInt64))) (FP.ddiv d0 (4675252771358769152 : UInt64))))), .second, .val (.double (FP.dmul (FP.dmul (FP.ddiv (FP.drem (FP.dadd (FP.dadd (4679361958876123245 : UInt64) (FP.dmul (4748926635797512960 : UInt64) (FP.ddiv d0 (4675252771358769152 : UInt64)))) (FP.dmul (FP.dmul (FP.dsub (4591373270898472171 : UInt64) (FP.dmul (4528933693928425934 : UInt64) (FP.ddiv d0 (4675252771358769152 : UInt64)))) (FP.ddiv d0 (4675252771358769152 : UInt64))) (FP.ddiv d0 (4675252771358769152 : UInt64)))) (4680673776000565248 : UInt64)) (4680673776000565248 : UInt64)) (4611686018427387904 : UInt64)) (4614256656552045848 : UInt64))), .second] [(.double (FP.dadd (FP.dmul (FP.dmul (FP.ddiv (FP.drem (FP.dadd (FP.dadd (4679361958876123245 : UInt64) (FP.dmul (4748926635797512960 : UInt64) (FP.ddiv d0 (4675252771358769152 : UInt64)))) (FP.dmul (FP.dmul (FP.dsub (4591373270898472171 : UInt64) (FP.dmul (4528933693928425934 : UInt64) (FP.ddiv d0 (4675252771358769152 : UInt64)))) (FP.ddiv d0 (4675252771358769152 : UInt64))) (FP.ddiv d0 (4675252771358769152 : UInt64)))) (4680673776000565248 : UInt64)) (4680673776000565248 : UInt64)) (4611686018427387904 : UInt64)) (4614256656552045848 : UInt64)) (4618760256179416344 : UInt64)))]))
    exact own_ret X0 hx hlk (t := .double) hret rfl (Or.inr (Or.inr (Or.inl ⟨rfl, rfl, _, rfl⟩))) (hb hby own_d12_69) (by decide) (by decide) ⟨(by unfold own_sid; exact congrArg (fun z => some (Value.double z)) (if_pos hA).symm), N0, e0⟩
  · skip
    refine own_st (fun t k => XS.ifYes X0.here hx rfl (pc0 := 55) (pc' := 67) rfl (hb hby own_d12_55) rfl ((if0 _ _).trans (flt (hA : ¬ ((cmpValue (FP.dcmp (FP.dmul (FP.dmul (FP.ddiv (FP.drem (FP.dadd (FP.dadd (4679361958876123245 : UInt64) (FP.dmul (4748926635797512960 : UInt64) (FP.ddiv d0 (4675252771358769152 : UInt64)))) (FP.dmul (FP.dmul (FP.dsub (4591373270898472171 : UInt64) (FP.dmul (4528933693928425934 : UInt64) (FP.ddiv d0 (4675252771358769152 : UInt64)))) (FP.ddiv d0 (4675252771358769152 : UInt64))) (FP.ddiv d0 (4675252771358769152 : UInt64)))) (4680673776000565248 : UInt64)) (4680673776000565248 : UInt64)) (4611686018427387904 : UInt64)) (4614256656552045848 : UInt64)) (0 : UInt64)) .g) < (0 : Int32)))).2.1) (by decide) (by decide) k) ?_
    show own_Run p e below s _ _ _ (s₁.setTop (mkF m 67 #[.val (.double d0), .second, .val (.double (FP.ddiv d0 (4675252771358769152 : UInt64))), .second, .val (.double (FP.dadd (FP.dadd (4679361958876123245 : UInt64) (FP.dmul (4748926635797512960 : UInt64) (FP.ddiv d0 (4675252771358769152 : UInt64)))) (FP.dmul (FP.dmul (FP.dsub (4591373270898472171 : UInt64) (FP.dmul (4528933693928425934 : UInt64) (FP.ddiv d0 (4675252771358769152 : UInt64)))) (FP.ddiv d0 (4675252771358769152 : UInt64))) (FP.ddiv d0 (4675252771358769152 : UInt64))))), .second, .val (.double (FP.dmul (FP.dmul (FP.ddiv (FP.drem (FP.dadd (FP.dadd (4679361958876123245 : UInt64) (FP.dmul (4748926635797512960 : UInt64) (FP.ddiv d0 (4675252771358769152 : UInt64)))) (FP.dmul (FP.dmul (FP.dsub (4591373270898472171 : UInt64) (FP.dmul (4528933693928425934 : UInt64) (FP.ddiv d0 (4675252771358769152 : UInt64)))) (FP.ddiv d0 (4675252771358769152 : UInt64))) (FP.ddiv d0 (4675252771358769152 : UInt64)))) (4680673776000565248 : UInt64)) (4680673776000565248 : UInt64)) (4611686018427387904 : UInt64)) (4614256656552045848 : UInt64))), .second] []))
    refine own_st (fun t k => XS.dload X0.here hx rfl (hb hby own_d12_67) rfl k) ?_
    show own_Run p e below s _ _ _ (s₁.setTop (mkF m 69 #[.val (.double d0), .second, .val (.double (FP.ddiv d0 (4675252771358769152 : UInt64))), .second, .val (.double (FP.dadd (FP.dadd (4679361958876123245 : UInt64) (FP.dmul (4748926635797512960 : UInt64) (FP.ddiv d0 (4675252771358769152 : UInt64)))) (FP.dmul (FP.dmul (FP.dsub (4591373270898472171 : UInt64) (FP.dmul (4528933693928425934 : UInt64) (FP.ddiv d0 (4675252771358769152 : UInt64)))) (FP.ddiv d0 (4675252771358769152 : UInt64))) (FP.ddiv d0 (4675252771358769152 : UInt64))))), .second, .val (.double (FP.dmul (FP.dmul (FP.ddiv (FP.drem (FP.dadd (FP.dadd (4679361958876123245 : UInt64) (FP.dmul (4748926635797512960 : UInt64) (FP.ddiv d0 (4675252771358769152 : UInt64)))) (FP.dmul (FP.dmul (FP.dsub (4591373270898472171 : UInt64) (FP.dmul (4528933693928425934 : UInt64) (FP.ddiv d0 (4675252771358769152 : UInt64)))) (FP.ddiv d0 (4675252771358769152 : UInt64))) (FP.ddiv d0 (4675252771358769152 : UInt64)))) (4680673776000565248 : UInt64)) (4680673776000565248 : UInt64)) (4611686018427387904 : UInt64)) (4614256656552045848 : UInt64))), .second] [(.double (FP.dmul (FP.dmul (FP.ddiv (FP.drem (FP.dadd (FP.dadd (4679361958876123245 : UInt64) (FP.dmul (4748926635797512960 : UInt64) (FP.ddiv d0 (4675252771358769152 : UInt64)))) (FP.dmul (FP.dmul (FP.dsub (4591373270898472171 : UInt64) (FP.dmul (4528933693928425934 : UInt64) (FP.ddiv d0 (4675252771358769152 : UInt64)))) (FP.ddiv d0 (4675252771358769152 : UInt64))) (FP.ddiv d0 (4675252771358769152 : UInt64)))) (4680673776000565248 : UInt64)) (4680673776000565248 : UInt64)) (4611686018427387904 : UInt64)) (4614256656552045848 : UInt64)))]))
    exact own_ret X0 hx hlk (t := .double) hret rfl (Or.inr (Or.inr (Or.inl ⟨rfl, rfl, _, rfl⟩))) (hb hby own_d12_69) (by decide) (by decide) ⟨(by unfold own_sid; exact congrArg (fun z => some (Value.double z)) (if_neg hA).symm), N0, e0⟩
theorem own_d8_0 : decode prog_44_method_2_code 0 = .ok (.aload_n 0, 1) := by decide +kernel
theorem own_d8_1 : decode prog_44_method_2_code 1 = .ok (.invokestatic 9, 3) := by decide +kernel
theorem own_pd7 : parseMethodDescriptor "(Ljava/time/Instant;)D" = some ⟨[(.object "java/time/Instant")], some .double⟩ := by decide +kernel
theorem own_d8_4 : decode prog_44_method_2_code 4 = .ok (.invokestatic 13, 3) := by decide +kernel
theorem own_pd8 : parseMethodDescriptor "(D)D" = some ⟨[.double], some .double⟩ := by decide +kernel
theorem own_d8_7 : decode prog_44_method_2_code 7 = .ok (.dreturn, 1) := by decide +kernel
set_option maxHeartbeats 4000000 in
theorem own_ef8 (m : MethodId) (x0 : Addr) : entryFrame m #[(.ref x0)] 1 = mkF m 0 #[.val (.ref x0)] [] := by first | (simp [entryFrame, mkF, argsToLocals, Value.category]; done) | rfl
def own_Q8 (Z : State) (a0 : Array Value) (o0 : Addr) (es : Int64) (na : Int32) (h0 : Heap) (n0 : Nat) (v : Option Value) (h : Heap) (L : List Loc) : Prop := v = some (.double (own_sid (own_dd es na))) ∧ Fr n0 L ∧ h = h0
set_option maxRecDepth 65536 in
set_option maxHeartbeats 40000000 in
theorem own_rm8 (l : Launch) (Z : State) (a0 : Array Value) (hw : ∀ d ∈ tables_1, d.before a0 Z = true) (ws : List Jvm.Cond) (o0 : Addr) (es : Int64) (na : Int32) (h0 : Heap) (n0 : Nat) (Z0 : n0 ≤ h0.size) (X0_ : Exa Z h0 o0 "java/time/Instant") (F_s : Fld Z h0 o0 "java/time/Instant" "seconds" "J" (.long es)) (F_n : Fld Z h0 o0 "java/time/Instant" "nanos" "I" (.int na)) (y1 : Jvm.Free.Fl.NoNaN64 (own_dn na)) (y2 : Jvm.Free.Fl.NoNaN64 (own_ds es na)) (y3 : Jvm.Free.Fl.NoNaN64 (own_dd es na)) (nc : own_nice (own_dd es na)) :
    MetFree l (⟨"com/example/swathplan/swathplan/orbit/Earth", "siderealAngleRad", "(Ljava/time/Instant;)D"⟩ : MethodName) (head1 (Jvm.Cond.code (⟨"com/example/swathplan/swathplan/orbit/Earth", "siderealAngleRad", "(Ljava/time/Instant;)D"⟩ : MethodName) prog_44_method_2_code 1 (some .double) :: ws) ({ frames := 2, cells := 0, slots := 0, locals := 26 } : Room)) (fun a U => a = #[(.ref o0)] ∧ Z.Warmed39 U.vm ∧ U.heap = h0) (fun _ _ _ _ _ => True) (fun _ U o U' => ∃ v L, o = .returned v ∧ own_Q8 Z a0 o0 es na h0 n0 v U'.heap L ∧ FrameEnd U o U' L ({ frames := 2, cells := 0, slots := 0, locals := 26 } : Room).cells ({ frames := 2, cells := 0, slots := 0, locals := 26 } : Room).slots) := by
  refine own_body (Q := fun v h L => own_Q8 Z a0 o0 es na h0 n0 v h L) (plainFor_of_name own_pn6) ?_
  intro p e s m below meth c s₁ hx hby hml hZ hown hnm hret hlk X0 e0
  replace hml : c.maxLocals = 1 := hml
  have N0 := Fr.nil n0
  have K0 : Keep h0 h0 [] := Keep.refl _ _
  refine own_st (fun t k => castTop (own_ef8 m o0) k) ?_
  show own_Run p e below s _ _ _ (s₁.setTop (mkF m 0 #[.val (.ref o0)] []))
  refine own_st (fun t k => XS.aloadN X0.here hx rfl (hb hby own_d8_0) rfl rfl k) ?_
  show own_Run p e below s _ _ _ (s₁.setTop (mkF m 1 #[.val (.ref o0)] [(.ref o0)]))
  refine own_callS X0 hx hZ (y := (⟨"com/example/swathplan/swathplan/orbit/Earth", "daysSinceJ2000", "(Ljava/time/Instant;)D"⟩ : MethodName)) hown (hw _ (List.mem_of_getElem? (i := 41) rfl)) (hw _ (List.mem_of_getElem? (i := 42) rfl)) (hw _ (List.mem_of_getElem? (i := 43) rfl)) (hw _ (List.mem_of_getElem? (i := 39) rfl)) (by decide) e0 (argsL := [(.ref o0)]) (rest := []) (W := 0) (own_rm9 l Z a0 hw [] o0 es na h0 n0 (Nat.le_trans Z0 K0.1) X0_ F_s F_n (y1) (y2) (y3)) (by decide) (by decide) (by rw [hml]; rfl) (lenOf own_pd7 rfl) rfl (by exact Nat.le_of_eq rfl) (hb hby own_d8_1) (by decide) (by decide) ?_
  intro T47 v47 L47 X47 hq47
  obtain ⟨rfl, N47q, hh47⟩ := hq47
  have N47 := Fr.app N0 N47q
  show own_Run p e below s _ _ _ (T47.setTop (mkF m 4 #[.val (.ref o0)] [(.double (own_dd es na))]))
  refine own_callS X47 hx hZ (y := (⟨"com/example/swathplan/swathplan/orbit/Earth", "siderealAngleRad", "(D)D"⟩ : MethodName)) hown (hw _ (List.mem_of_getElem? (i := 57) rfl)) (hw _ (List.mem_of_getElem? (i := 58) rfl)) (hw _ (List.mem_of_getElem? (i := 59) rfl)) (hw _ (List.mem_of_getElem? (i := 39) rfl)) (by decide) hh47 (argsL := [(.double (own_dd es na))]) (rest := []) (W := 0) (own_rm12 l Z a0 hw [] (own_dd es na) h0 n0 (Nat.le_trans Z0 K0.1) (nc)) (by decide) (by decide) (by rw [hml]; rfl) (lenOf own_pd8 rfl) rfl (by exact Nat.le_of_eq rfl) (hb hby own_d8_4) (by decide) (by decide) ?_
  intro T48 v48 L48 X48 hq48
  obtain ⟨rfl, N48q, hh48⟩ := hq48
  have N48 := Fr.app N47 N48q
  show own_Run p e below s _ _ _ (T48.setTop (mkF m 7 #[.val (.ref o0)] [(.double (own_sid (own_dd es na)))]))
  exact own_ret X48 hx hlk (t := .double) hret rfl (Or.inr (Or.inr (Or.inl ⟨rfl, rfl, _, rfl⟩))) (hb hby own_d8_7) (by decide) (by decide) ⟨rfl, N48, hh48⟩
theorem own_pd9 : parseMethodDescriptor "(JJ)Ljava/time/Instant;" = some ⟨[.long, .long], some (.object "java/time/Instant")⟩ := by decide +kernel
theorem own_pd10 : parseMethodDescriptor "(J)Ljava/time/Instant;" = some ⟨[.long], some (.object "java/time/Instant")⟩ := by decide +kernel
set_option maxHeartbeats 4000000 in
theorem own_ef0 (m : MethodId) (x0 : Int64) (x1 : Int32) (x2 : Int32) (x3 : Int32) : entryFrame m #[(.long x0), (.int x1), (.int x2), (.int x3)] maxLocals = mkF m 0 #[.val (.long x0), .second, .val (.int x1), .val (.int x2), .val (.int x3), .unset, .unset, .unset, .unset, .unset, .unset, .unset, .unset, .unset, .unset, .unset, .unset, .unset, .unset, .unset, .unset, .unset, .unset, .unset, .unset, .unset, .unset, .unset, .unset, .unset, .unset, .unset, .unset] [] := by first | (simp [entryFrame, mkF, argsToLocals, Value.category, maxLocals]; done) | rfl
theorem own_pn11 : plainName "com/example/swathplan/swathplan/orbit/EarthSiderealAngleRadPinLaw" = true := by first | (simp [plainName, overriddenIn]; done) | decide +kernel
def own_Q0 (Z : State) (a0 : Array Value) (j0 : Int64) (i1 : Int32) (i2 : Int32) (i3 : Int32) (t_E : Addr) (h0 : Heap) (n0 : Nat) (v : Option Value) (h : Heap) (L : List Loc) : Prop := v = some (.int 1) ∧ Fr n0 L
set_option maxRecDepth 65536 in
set_option maxHeartbeats 40000000 in
theorem own_rm0 (l : Launch) (Z : State) (a0 : Array Value) (hw : ∀ d ∈ tables_1, d.before a0 Z = true) (ws : List Jvm.Cond) (j0 : Int64) (i1 : Int32) (i2 : Int32) (i3 : Int32) (t_E : Addr) (h0 : Heap) (n0 : Nat) (Z0 : n0 ≤ h0.size) (O0 : Old Z n0 h0) (S_E : Sta Z Z.heap "java/time/Instant" "EPOCH" "Ljava/time/Instant;" (.ref t_E)) (X_E : Exa Z h0 t_E "java/time/Instant") (Fs_E : Fld Z h0 t_E "java/time/Instant" "seconds" "J" (.long (0 : Int64))) (Fn_E : Fld Z h0 t_E "java/time/Instant" "nanos" "I" (.int (0 : Int32))) :
    MetFree l x (head1 (Jvm.Cond.code x code maxLocals ret :: ws) room_1) (fun a U => a = #[(.long j0), (.int i1), (.int i2), (.int i3)] ∧ Z.Warmed39 U.vm ∧ U.heap = h0) (fun _ _ _ _ _ => True) (fun _ U o U' => ∃ v L, o = .returned v ∧ own_Q0 Z a0 j0 i1 i2 i3 t_E h0 n0 v U'.heap L ∧ FrameEnd U o U' L room_1.cells room_1.slots) := by
  refine own_body (Q := fun v h L => own_Q0 Z a0 j0 i1 i2 i3 t_E h0 n0 v h L) (plainFor_of_name own_pn11) ?_
  intro p e s m below meth c s₁ hx hby hml hZ hown hnm hret hlk X0 e0
  replace hml : c.maxLocals = 33 := hml
  replace hown : s.vm.findClass "com/example/swathplan/swathplan/orbit/EarthSiderealAngleRadPinLaw" = some m.cls := hown
  have N0 := Fr.nil n0
  have K0 : Keep h0 h0 [] := Keep.refl _ _
  refine own_st (fun t k => castTop (own_ef0 m j0 i1 i2 i3) k) ?_
  show own_Run p e below s _ _ _ (s₁.setTop (mkF m 0 #[.val (.long j0), .second, .val (.int i1), .val (.int i2), .val (.int i3), .unset, .unset, .unset, .unset, .unset, .unset, .unset, .unset, .unset, .unset, .unset, .unset, .unset, .unset, .unset, .unset, .unset, .unset, .unset, .unset, .unset, .unset, .unset, .unset, .unset, .unset, .unset, .unset] []))
  refine own_st (X0.ldc2DoubleC hx hown (mvT hZ (hw _ (List.mem_of_getElem? (i := 0) rfl))) (g := (mkF m 0 #[.val (.long j0), .second, .val (.int i1), .val (.int i2), .val (.int i3), .unset, .unset, .unset, .unset, .unset, .unset, .unset, .unset, .unset, .unset, .unset, .unset, .unset, .unset, .unset, .unset, .unset, .unset, .unset, .unset, .unset, .unset, .unset, .unset, .unset, .unset, .unset, .unset] [])) rfl (hb hby at_0)) ?_
  show own_Run p e below s _ _ _ (s₁.setTop (mkF m 3 #[.val (.long j0), .second, .val (.int i1), .val (.int i2), .val (.int i3), .unset, .unset, .unset, .unset, .unset, .unset, .unset, .unset, .unset, .unset, .unset, .unset, .unset, .unset, .unset, .unset, .unset, .unset, .unset, .unset, .unset, .unset, .unset, .unset, .unset, .unset, .unset, .unset] [(.double (4618760256179416344 : UInt64))]))
  refine own_st (fun t k => XS.dstore X0.here hx rfl (hb hby at_3) rfl (l' := #[.val (.long j0), .second, .val (.int i1), .val (.int i2), .val (.int i3), .val (.double (4618760256179416344 : UInt64)), .second, .unset, .unset, .unset, .unset, .unset, .unset, .unset, .unset, .unset, .unset, .unset, .unset, .unset, .unset, .unset, .unset, .unset, .unset, .unset, .unset, .unset, .unset, .unset, .unset, .unset, .unset]) rfl k) ?_
  show own_Run p e below s _ _ _ (s₁.setTop (mkF m 5 #[.val (.long j0), .second, .val (.int i1), .val (.int i2), .val (.int i3), .val (.double (4618760256179416344 : UInt64)), .second, .unset, .unset, .unset, .unset, .unset, .unset, .unset, .unset, .unset, .unset, .unset, .unset, .unset, .unset, .unset, .unset, .unset, .unset, .unset, .unset, .unset, .unset, .unset, .unset, .unset, .unset] []))
  refine own_st (fun t k => XS.lloadN X0.here hx rfl (hb hby at_5) rfl k) ?_
  show own_Run p e below s _ _ _ (s₁.setTop (mkF m 6 #[.val (.long j0), .second, .val (.int i1), .val (.int i2), .val (.int i3), .val (.double (4618760256179416344 : UInt64)), .second, .unset, .unset, .unset, .unset, .unset, .unset, .unset, .unset, .unset, .unset, .unset, .unset, .unset, .unset, .unset, .unset, .unset, .unset, .unset, .unset, .unset, .unset, .unset, .unset, .unset, .unset] [(.long j0)]))
  refine own_st (X0.ldc2Long hx hown (mvT hZ (hw _ (List.mem_of_getElem? (i := 1) rfl))) (g := (mkF m 6 #[.val (.long j0), .second, .val (.int i1), .val (.int i2), .val (.int i3), .val (.double (4618760256179416344 : UInt64)), .second, .unset, .unset, .unset, .unset, .unset, .unset, .unset, .unset, .unset, .unset, .unset, .unset, .unset, .unset, .unset, .unset, .unset, .unset, .unset, .unset, .unset, .unset, .unset, .unset, .unset, .unset] [(.long j0)])) rfl (hb hby at_6)) ?_
  show own_Run p e below s _ _ _ (s₁.setTop (mkF m 9 #[.val (.long j0), .second, .val (.int i1), .val (.int i2), .val (.int i3), .val (.double (4618760256179416344 : UInt64)), .second, .unset, .unset, .unset, .unset, .unset, .unset, .unset, .unset, .unset, .unset, .unset, .unset, .unset, .unset, .unset, .unset, .unset, .unset, .unset, .unset, .unset, .unset, .unset, .unset, .unset, .unset] [(.long (31556889864403200 : Int64)), (.long j0)]))
  refine own_st (fun t k => XS.lrem X0.here hx rfl (hb hby at_9) rfl (by decide) k) ?_
  show own_Run p e below s _ _ _ (s₁.setTop (mkF m 10 #[.val (.long j0), .second, .val (.int i1), .val (.int i2), .val (.int i3), .val (.double (4618760256179416344 : UInt64)), .second, .unset, .unset, .unset, .unset, .unset, .unset, .unset, .unset, .unset, .unset, .unset, .unset, .unset, .unset, .unset, .unset, .unset, .unset, .unset, .unset, .unset, .unset, .unset, .unset, .unset, .unset] [(.long (j0 - (j0 / (31556889864403200 : Int64)) * (31556889864403200 : Int64)))]))
  refine own_topJ (lrem_mod _ _) ?_
  show own_Run p e below s _ _ _ (s₁.setTop (mkF m 10 #[.val (.long j0), .second, .val (.int i1), .val (.int i2), .val (.int i3), .val (.double (4618760256179416344 : UInt64)), .second, .unset, .unset, .unset, .unset, .unset, .unset, .unset, .unset, .unset, .unset, .unset, .unset, .unset, .unset, .unset, .unset, .unset, .unset, .unset, .unset, .unset, .unset, .unset, .unset, .unset, .unset] [(.long (j0 % (31556889864403200 : Int64)))]))
  obtain ⟨sc, h_sc⟩ : ∃ z, ((j0 % (31556889864403200 : Int64)) : Int64) = z := ⟨_, rfl⟩
  refine own_topJ h_sc ?_
  show own_Run p e below s _ _ _ (s₁.setTop (mkF m 10 #[.val (.long j0), .second, .val (.int i1), .val (.int i2), .val (.int i3), .val (.double (4618760256179416344 : UInt64)), .second, .unset, .unset, .unset, .unset, .unset, .unset, .unset, .unset, .unset, .unset, .unset, .unset, .unset, .unset, .unset, .unset, .unset, .unset, .unset, .unset, .unset, .unset, .unset, .unset, .unset, .unset] [(.long sc)]))
  have r_sc := own_sec h_sc
  refine own_st (fun t k => XS.lstore X0.here hx rfl (hb hby at_10) rfl (l' := #[.val (.long j0), .second, .val (.int i1), .val (.int i2), .val (.int i3), .val (.double (4618760256179416344 : UInt64)), .second, .val (.long sc), .second, .unset, .unset, .unset, .unset, .unset, .unset, .unset, .unset, .unset, .unset, .unset, .unset, .unset, .unset, .unset, .unset, .unset, .unset, .unset, .unset, .unset, .unset, .unset, .unset]) rfl k) ?_
  show own_Run p e below s _ _ _ (s₁.setTop (mkF m 12 #[.val (.long j0), .second, .val (.int i1), .val (.int i2), .val (.int i3), .val (.double (4618760256179416344 : UInt64)), .second, .val (.long sc), .second, .unset, .unset, .unset, .unset, .unset, .unset, .unset, .unset, .unset, .unset, .unset, .unset, .unset, .unset, .unset, .unset, .unset, .unset, .unset, .unset, .unset, .unset, .unset, .unset] []))
  refine own_st (fun t k => XS.iloadN X0.here hx rfl (hb hby at_12) rfl k) ?_
  show own_Run p e below s _ _ _ (s₁.setTop (mkF m 13 #[.val (.long j0), .second, .val (.int i1), .val (.int i2), .val (.int i3), .val (.double (4618760256179416344 : UInt64)), .second, .val (.long sc), .second, .unset, .unset, .unset, .unset, .unset, .unset, .unset, .unset, .unset, .unset, .unset, .unset, .unset, .unset, .unset, .unset, .unset, .unset, .unset, .unset, .unset, .unset, .unset, .unset] [(.int i1)]))
  refine own_st (X0.ldcInt hx hown (mvT hZ (hw _ (List.mem_of_getElem? (i := 2) rfl))) (g := (mkF m 13 #[.val (.long j0), .second, .val (.int i1), .val (.int i2), .val (.int i3), .val (.double (4618760256179416344 : UInt64)), .second, .val (.long sc), .second, .unset, .unset, .unset, .unset, .unset, .unset, .unset, .unset, .unset, .unset, .unset, .unset, .unset, .unset, .unset, .unset, .unset, .unset, .unset, .unset, .unset, .unset, .unset, .unset] [(.int i1)])) rfl (hb hby at_13)) ?_
  show own_Run p e below s _ _ _ (s₁.setTop (mkF m 15 #[.val (.long j0), .second, .val (.int i1), .val (.int i2), .val (.int i3), .val (.double (4618760256179416344 : UInt64)), .second, .val (.long sc), .second, .unset, .unset, .unset, .unset, .unset, .unset, .unset, .unset, .unset, .unset, .unset, .unset, .unset, .unset, .unset, .unset, .unset, .unset, .unset, .unset, .unset, .unset, .unset, .unset] [(.int (2147483647 : Int32)), (.int i1)]))
  refine own_st (fun t k => XS.iand X0.here hx rfl (hb hby at_15) rfl k) ?_
  show own_Run p e below s _ _ _ (s₁.setTop (mkF m 16 #[.val (.long j0), .second, .val (.int i1), .val (.int i2), .val (.int i3), .val (.double (4618760256179416344 : UInt64)), .second, .val (.long sc), .second, .unset, .unset, .unset, .unset, .unset, .unset, .unset, .unset, .unset, .unset, .unset, .unset, .unset, .unset, .unset, .unset, .unset, .unset, .unset, .unset, .unset, .unset, .unset, .unset] [(.int (i1 &&& (2147483647 : Int32)))]))
  refine own_st (X0.ldcInt hx hown (mvT hZ (hw _ (List.mem_of_getElem? (i := 3) rfl))) (g := (mkF m 16 #[.val (.long j0), .second, .val (.int i1), .val (.int i2), .val (.int i3), .val (.double (4618760256179416344 : UInt64)), .second, .val (.long sc), .second, .unset, .unset, .unset, .unset, .unset, .unset, .unset, .unset, .unset, .unset, .unset, .unset, .unset, .unset, .unset, .unset, .unset, .unset, .unset, .unset, .unset, .unset, .unset, .unset] [(.int (i1 &&& (2147483647 : Int32)))])) rfl (hb hby at_16)) ?_
  show own_Run p e below s _ _ _ (s₁.setTop (mkF m 18 #[.val (.long j0), .second, .val (.int i1), .val (.int i2), .val (.int i3), .val (.double (4618760256179416344 : UInt64)), .second, .val (.long sc), .second, .unset, .unset, .unset, .unset, .unset, .unset, .unset, .unset, .unset, .unset, .unset, .unset, .unset, .unset, .unset, .unset, .unset, .unset, .unset, .unset, .unset, .unset, .unset, .unset] [(.int (1000000000 : Int32)), (.int (i1 &&& (2147483647 : Int32)))]))
  refine own_st (fun t k => iremM X0 hx rfl (hb hby at_18) rfl (by decide) k) ?_
  show own_Run p e below s _ _ _ (s₁.setTop (mkF m 19 #[.val (.long j0), .second, .val (.int i1), .val (.int i2), .val (.int i3), .val (.double (4618760256179416344 : UInt64)), .second, .val (.long sc), .second, .unset, .unset, .unset, .unset, .unset, .unset, .unset, .unset, .unset, .unset, .unset, .unset, .unset, .unset, .unset, .unset, .unset, .unset, .unset, .unset, .unset, .unset, .unset, .unset] [(.int ((i1 &&& (2147483647 : Int32)) % (1000000000 : Int32)))]))
  obtain ⟨nv, h_nv⟩ : ∃ z, (((i1 &&& (2147483647 : Int32)) % (1000000000 : Int32)) : Int32) = z := ⟨_, rfl⟩
  refine own_topI h_nv ?_
  show own_Run p e below s _ _ _ (s₁.setTop (mkF m 19 #[.val (.long j0), .second, .val (.int i1), .val (.int i2), .val (.int i3), .val (.double (4618760256179416344 : UInt64)), .second, .val (.long sc), .second, .unset, .unset, .unset, .unset, .unset, .unset, .unset, .unset, .unset, .unset, .unset, .unset, .unset, .unset, .unset, .unset, .unset, .unset, .unset, .unset, .unset, .unset, .unset, .unset] [(.int nv)]))
  have r_nv := own_nv h_nv
  have g_a := own_day r_sc r_nv
  have k_a := own_sidok g_a.2.2.2.1 g_a.2.2.2.2.1 g_a.2.2.2.2.2
  refine own_st (fun t k => XS.istore X0.here hx rfl (hb hby at_19) rfl (l' := #[.val (.long j0), .second, .val (.int i1), .val (.int i2), .val (.int i3), .val (.double (4618760256179416344 : UInt64)), .second, .val (.long sc), .second, .val (.int nv), .unset, .unset, .unset, .unset, .unset, .unset, .unset, .unset, .unset, .unset, .unset, .unset, .unset, .unset, .unset, .unset, .unset, .unset, .unset, .unset, .unset, .unset, .unset]) rfl k) ?_
  show own_Run p e below s _ _ _ (s₁.setTop (mkF m 21 #[.val (.long j0), .second, .val (.int i1), .val (.int i2), .val (.int i3), .val (.double (4618760256179416344 : UInt64)), .second, .val (.long sc), .second, .val (.int nv), .unset, .unset, .unset, .unset, .unset, .unset, .unset, .unset, .unset, .unset, .unset, .unset, .unset, .unset, .unset, .unset, .unset, .unset, .unset, .unset, .unset, .unset, .unset] []))
  refine own_st (fun t k => XS.lload X0.here hx rfl (hb hby at_21) rfl k) ?_
  show own_Run p e below s _ _ _ (s₁.setTop (mkF m 23 #[.val (.long j0), .second, .val (.int i1), .val (.int i2), .val (.int i3), .val (.double (4618760256179416344 : UInt64)), .second, .val (.long sc), .second, .val (.int nv), .unset, .unset, .unset, .unset, .unset, .unset, .unset, .unset, .unset, .unset, .unset, .unset, .unset, .unset, .unset, .unset, .unset, .unset, .unset, .unset, .unset, .unset, .unset] [(.long sc)]))
  refine own_st (fun t k => XS.iload X0.here hx rfl (hb hby at_23) rfl k) ?_
  show own_Run p e below s _ _ _ (s₁.setTop (mkF m 25 #[.val (.long j0), .second, .val (.int i1), .val (.int i2), .val (.int i3), .val (.double (4618760256179416344 : UInt64)), .second, .val (.long sc), .second, .val (.int nv), .unset, .unset, .unset, .unset, .unset, .unset, .unset, .unset, .unset, .unset, .unset, .unset, .unset, .unset, .unset, .unset, .unset, .unset, .unset, .unset, .unset, .unset, .unset] [(.int nv), (.long sc)]))
  refine own_st (fun t k => XS.i2l X0.here hx rfl (hb hby at_25) rfl k) ?_
  show own_Run p e below s _ _ _ (s₁.setTop (mkF m 26 #[.val (.long j0), .second, .val (.int i1), .val (.int i2), .val (.int i3), .val (.double (4618760256179416344 : UInt64)), .second, .val (.long sc), .second, .val (.int nv), .unset, .unset, .unset, .unset, .unset, .unset, .unset, .unset, .unset, .unset, .unset, .unset, .unset, .unset, .unset, .unset, .unset, .unset, .unset, .unset, .unset, .unset, .unset] [(.long (nv.toInt64)), (.long sc)]))
  refine own_callS X0 hx hZ (y := (⟨"java/time/Instant", "ofEpochSecond", "(JJ)Ljava/time/Instant;"⟩ : MethodName)) hown (hw _ (List.mem_of_getElem? (i := 4) rfl)) (hw _ (List.mem_of_getElem? (i := 5) rfl)) (hw _ (List.mem_of_getElem? (i := 7) rfl)) (hw _ (List.mem_of_getElem? (i := 6) rfl)) (by decide) e0 (argsL := [(.long sc), (.long (nv.toInt64))]) (rest := []) (W := 0) (own_rm1 l Z a0 hw [] sc nv t_E h0 n0 (Nat.le_trans Z0 K0.1) O0 S_E X_E Fs_E Fn_E (⟨by omega, by omega⟩) (r_nv)) (by decide) (by decide) (by rw [hml]; rfl) (lenOf own_pd9 rfl) rfl (by exact Nat.le_of_eq rfl) (hb hby at_26) (by decide) (by decide) ?_
  intro T49 v49 L49 X49 hq49
  obtain ⟨b49, rfl, N49q, K49q, Q50, Q51, Q52⟩ := hq49
  have K53 : Keep h0 T49.heap [] := K0.trans K49q all0
  have O54 := O0.keep K49q all0
  have N49 := Fr.app N0 N49q
  show own_Run p e below s _ _ _ (T49.setTop (mkF m 29 #[.val (.long j0), .second, .val (.int i1), .val (.int i2), .val (.int i3), .val (.double (4618760256179416344 : UInt64)), .second, .val (.long sc), .second, .val (.int nv), .unset, .unset, .unset, .unset, .unset, .unset, .unset, .unset, .unset, .unset, .unset, .unset, .unset, .unset, .unset, .unset, .unset, .unset, .unset, .unset, .unset, .unset, .unset] [(.ref b49)]))
  refine own_callS X49 hx hZ (y := (⟨"com/example/swathplan/swathplan/orbit/Earth", "siderealAngleRad", "(Ljava/time/Instant;)D"⟩ : MethodName)) hown (hw _ (List.mem_of_getElem? (i := 37) rfl)) (hw _ (List.mem_of_getElem? (i := 38) rfl)) (hw _ (List.mem_of_getElem? (i := 40) rfl)) (hw _ (List.mem_of_getElem? (i := 39) rfl)) (by decide) rfl (argsL := [(.ref b49)]) (rest := []) (W := 0) (own_rm8 l Z a0 hw [] b49 sc nv T49.heap n0 (Nat.le_trans Z0 K53.1) Q50 Q51 Q52 (g_a.1) (g_a.2.1) (g_a.2.2.1) ((own_sidok g_a.2.2.2.1 g_a.2.2.2.2.1 g_a.2.2.2.2.2).1)) (by decide) (by decide) (by rw [hml]; rfl) (lenOf own_pd7 rfl) rfl (by exact Nat.le_of_eq rfl) (hb hby at_29) (by decide) (by decide) ?_
  intro T55 v55 L55 X55 hq55
  obtain ⟨rfl, N55q, hh55⟩ := hq55
  have N55 := Fr.app N49 N55q
  show own_Run p e below s _ _ _ (T55.setTop (mkF m 32 #[.val (.long j0), .second, .val (.int i1), .val (.int i2), .val (.int i3), .val (.double (4618760256179416344 : UInt64)), .second, .val (.long sc), .second, .val (.int nv), .unset, .unset, .unset, .unset, .unset, .unset, .unset, .unset, .unset, .unset, .unset, .unset, .unset, .unset, .unset, .unset, .unset, .unset, .unset, .unset, .unset, .unset, .unset] [(.double (own_sid (own_dd sc nv)))]))
  refine own_st (fun t k => XS.dstore X55.here hx rfl (hb hby at_32) rfl (l' := #[.val (.long j0), .second, .val (.int i1), .val (.int i2), .val (.int i3), .val (.double (4618760256179416344 : UInt64)), .second, .val (.long sc), .second, .val (.int nv), .val (.double (own_sid (own_dd sc nv))), .second, .unset, .unset, .unset, .unset, .unset, .unset, .unset, .unset, .unset, .unset, .unset, .unset, .unset, .unset, .unset, .unset, .unset, .unset, .unset, .unset, .unset]) rfl k) ?_
  show own_Run p e below s _ _ _ (T55.setTop (mkF m 34 #[.val (.long j0), .second, .val (.int i1), .val (.int i2), .val (.int i3), .val (.double (4618760256179416344 : UInt64)), .second, .val (.long sc), .second, .val (.int nv), .val (.double (own_sid (own_dd sc nv))), .second, .unset, .unset, .unset, .unset, .unset, .unset, .unset, .unset, .unset, .unset, .unset, .unset, .unset, .unset, .unset, .unset, .unset, .unset, .unset, .unset, .unset] []))
  refine own_st (fun t k => XS.dconst0 X55.here hx rfl (hb hby at_34) (v := 0) rfl k) ?_
  show own_Run p e below s _ _ _ (T55.setTop (mkF m 35 #[.val (.long j0), .second, .val (.int i1), .val (.int i2), .val (.int i3), .val (.double (4618760256179416344 : UInt64)), .second, .val (.long sc), .second, .val (.int nv), .val (.double (own_sid (own_dd sc nv))), .second, .unset, .unset, .unset, .unset, .unset, .unset, .unset, .unset, .unset, .unset, .unset, .unset, .unset, .unset, .unset, .unset, .unset, .unset, .unset, .unset, .unset] [(.double (0 : UInt64))]))
  refine own_st (fun t k => XS.dload X55.here hx rfl (hb hby at_35) rfl k) ?_
  show own_Run p e below s _ _ _ (T55.setTop (mkF m 37 #[.val (.long j0), .second, .val (.int i1), .val (.int i2), .val (.int i3), .val (.double (4618760256179416344 : UInt64)), .second, .val (.long sc), .second, .val (.int nv), .val (.double (own_sid (own_dd sc nv))), .second, .unset, .unset, .unset, .unset, .unset, .unset, .unset, .unset, .unset, .unset, .unset, .unset, .unset, .unset, .unset, .unset, .unset, .unset, .unset, .unset, .unset] [(.double (own_sid (own_dd sc nv))), (.double (0 : UInt64))]))
  refine own_st (fun t k => XS.dcmpS X55.here hx rfl (hb hby at_37) rfl (v := (cmpValue (FP.dcmp (0 : UInt64) (own_sid (own_dd sc nv))) .g)) (rfl) k) ?_
  show own_Run p e below s _ _ _ (T55.setTop (mkF m 38 #[.val (.long j0), .second, .val (.int i1), .val (.int i2), .val (.int i3), .val (.double (4618760256179416344 : UInt64)), .second, .val (.long sc), .second, .val (.int nv), .val (.double (own_sid (own_dd sc nv))), .second, .unset, .unset, .unset, .unset, .unset, .unset, .unset, .unset, .unset, .unset, .unset, .unset, .unset, .unset, .unset, .unset, .unset, .unset, .unset, .unset, .unset] [(.int (cmpValue (FP.dcmp (0 : UInt64) (own_sid (own_dd sc nv))) .g))]))
  refine own_st (fun t k => XS.ifNo X55.here hx rfl (hb hby at_38) rfl ((if0 _ _).trans (flt (own_leg k0.1 k_a.2.1 (by rw [k0.2]; omega) : ¬ ((0 : Int32) < (cmpValue (FP.dcmp (0 : UInt64) (own_sid (own_dd sc nv))) .g)))).2.2.1) k) ?_
  show own_Run p e below s _ _ _ (T55.setTop (mkF m 41 #[.val (.long j0), .second, .val (.int i1), .val (.int i2), .val (.int i3), .val (.double (4618760256179416344 : UInt64)), .second, .val (.long sc), .second, .val (.int nv), .val (.double (own_sid (own_dd sc nv))), .second, .unset, .unset, .unset, .unset, .unset, .unset, .unset, .unset, .unset, .unset, .unset, .unset, .unset, .unset, .unset, .unset, .unset, .unset, .unset, .unset, .unset] []))
  refine own_st (fun t k => XS.dload X55.here hx rfl (hb hby at_41) rfl k) ?_
  show own_Run p e below s _ _ _ (T55.setTop (mkF m 43 #[.val (.long j0), .second, .val (.int i1), .val (.int i2), .val (.int i3), .val (.double (4618760256179416344 : UInt64)), .second, .val (.long sc), .second, .val (.int nv), .val (.double (own_sid (own_dd sc nv))), .second, .unset, .unset, .unset, .unset, .unset, .unset, .unset, .unset, .unset, .unset, .unset, .unset, .unset, .unset, .unset, .unset, .unset, .unset, .unset, .unset, .unset] [(.double (own_sid (own_dd sc nv)))]))
  refine own_st (fun t k => XS.dload X55.here hx rfl (hb hby at_43) rfl k) ?_
  show own_Run p e below s _ _ _ (T55.setTop (mkF m 45 #[.val (.long j0), .second, .val (.int i1), .val (.int i2), .val (.int i3), .val (.double (4618760256179416344 : UInt64)), .second, .val (.long sc), .second, .val (.int nv), .val (.double (own_sid (own_dd sc nv))), .second, .unset, .unset, .unset, .unset, .unset, .unset, .unset, .unset, .unset, .unset, .unset, .unset, .unset, .unset, .unset, .unset, .unset, .unset, .unset, .unset, .unset] [(.double (4618760256179416344 : UInt64)), (.double (own_sid (own_dd sc nv)))]))
  refine own_st (fun t k => XS.dcmpS X55.here hx rfl (hb hby at_45) rfl (v := (cmpValue (FP.dcmp (own_sid (own_dd sc nv)) (4618760256179416344 : UInt64)) .g)) (rfl) k) ?_
  show own_Run p e below s _ _ _ (T55.setTop (mkF m 46 #[.val (.long j0), .second, .val (.int i1), .val (.int i2), .val (.int i3), .val (.double (4618760256179416344 : UInt64)), .second, .val (.long sc), .second, .val (.int nv), .val (.double (own_sid (own_dd sc nv))), .second, .unset, .unset, .unset, .unset, .unset, .unset, .unset, .unset, .unset, .unset, .unset, .unset, .unset, .unset, .unset, .unset, .unset, .unset, .unset, .unset, .unset] [(.int (cmpValue (FP.dcmp (own_sid (own_dd sc nv)) (4618760256179416344 : UInt64)) .g))]))
  refine own_st (fun t k => XS.ifNo X55.here hx rfl (hb hby at_46) rfl ((if0 _ _).trans (flt (own_leg k_a.2.1 k2pi.1 (by rw [k2pi.2]; omega) : ¬ ((0 : Int32) < (cmpValue (FP.dcmp (own_sid (own_dd sc nv)) (4618760256179416344 : UInt64)) .g)))).2.2.1) k) ?_
  show own_Run p e below s _ _ _ (T55.setTop (mkF m 49 #[.val (.long j0), .second, .val (.int i1), .val (.int i2), .val (.int i3), .val (.double (4618760256179416344 : UInt64)), .second, .val (.long sc), .second, .val (.int nv), .val (.double (own_sid (own_dd sc nv))), .second, .unset, .unset, .unset, .unset, .unset, .unset, .unset, .unset, .unset, .unset, .unset, .unset, .unset, .unset, .unset, .unset, .unset, .unset, .unset, .unset, .unset] []))
  refine own_st (fun t k => XS.iconst X55.here hx rfl (hb hby at_49) k) ?_
  show own_Run p e below s _ _ _ (T55.setTop (mkF m 50 #[.val (.long j0), .second, .val (.int i1), .val (.int i2), .val (.int i3), .val (.double (4618760256179416344 : UInt64)), .second, .val (.long sc), .second, .val (.int nv), .val (.double (own_sid (own_dd sc nv))), .second, .unset, .unset, .unset, .unset, .unset, .unset, .unset, .unset, .unset, .unset, .unset, .unset, .unset, .unset, .unset, .unset, .unset, .unset, .unset, .unset, .unset] [(.int (1 : Int32))]))
  refine own_st (fun t k => XS.goto X55.here hx rfl (pc0 := 50) (pc' := 54) rfl (hb hby at_50) (by decide) (by decide) k) ?_
  show own_Run p e below s _ _ _ (T55.setTop (mkF m 54 #[.val (.long j0), .second, .val (.int i1), .val (.int i2), .val (.int i3), .val (.double (4618760256179416344 : UInt64)), .second, .val (.long sc), .second, .val (.int nv), .val (.double (own_sid (own_dd sc nv))), .second, .unset, .unset, .unset, .unset, .unset, .unset, .unset, .unset, .unset, .unset, .unset, .unset, .unset, .unset, .unset, .unset, .unset, .unset, .unset, .unset, .unset] [(.int (1 : Int32))]))
  refine own_st (fun t k => XS.istore X55.here hx rfl (hb hby at_54) rfl (l' := #[.val (.long j0), .second, .val (.int i1), .val (.int i2), .val (.int i3), .val (.double (4618760256179416344 : UInt64)), .second, .val (.long sc), .second, .val (.int nv), .val (.double (own_sid (own_dd sc nv))), .second, .val (.int (1 : Int32)), .unset, .unset, .unset, .unset, .unset, .unset, .unset, .unset, .unset, .unset, .unset, .unset, .unset, .unset, .unset, .unset, .unset, .unset, .unset, .unset]) rfl k) ?_
  show own_Run p e below s _ _ _ (T55.setTop (mkF m 56 #[.val (.long j0), .second, .val (.int i1), .val (.int i2), .val (.int i3), .val (.double (4618760256179416344 : UInt64)), .second, .val (.long sc), .second, .val (.int nv), .val (.double (own_sid (own_dd sc nv))), .second, .val (.int (1 : Int32)), .unset, .unset, .unset, .unset, .unset, .unset, .unset, .unset, .unset, .unset, .unset, .unset, .unset, .unset, .unset, .unset, .unset, .unset, .unset, .unset] []))
  refine own_st (X55.ldc2Long hx hown (mvT hZ (hw _ (List.mem_of_getElem? (i := 68) rfl))) (g := (mkF m 56 #[.val (.long j0), .second, .val (.int i1), .val (.int i2), .val (.int i3), .val (.double (4618760256179416344 : UInt64)), .second, .val (.long sc), .second, .val (.int nv), .val (.double (own_sid (own_dd sc nv))), .second, .val (.int (1 : Int32)), .unset, .unset, .unset, .unset, .unset, .unset, .unset, .unset, .unset, .unset, .unset, .unset, .unset, .unset, .unset, .unset, .unset, .unset, .unset, .unset] [])) rfl (hb hby at_56)) ?_
  show own_Run p e below s _ _ _ (T55.setTop (mkF m 59 #[.val (.long j0), .second, .val (.int i1), .val (.int i2), .val (.int i3), .val (.double (4618760256179416344 : UInt64)), .second, .val (.long sc), .second, .val (.int nv), .val (.double (own_sid (own_dd sc nv))), .second, .val (.int (1 : Int32)), .unset, .unset, .unset, .unset, .unset, .unset, .unset, .unset, .unset, .unset, .unset, .unset, .unset, .unset, .unset, .unset, .unset, .unset, .unset, .unset] [(.long (946728000 : Int64))]))
  have E56 := (X_E.keep K49q)
  have F57 := (Fs_E.keep K49q nin0)
  have F58 := (Fn_E.keep K49q nin0)
  refine own_callS X55 hx hZ (y := (⟨"java/time/Instant", "ofEpochSecond", "(J)Ljava/time/Instant;"⟩ : MethodName)) hown (hw _ (List.mem_of_getElem? (i := 69) rfl)) (hw _ (List.mem_of_getElem? (i := 70) rfl)) (hw _ (List.mem_of_getElem? (i := 71) rfl)) (hw _ (List.mem_of_getElem? (i := 6) rfl)) (by decide) hh55 (argsL := [(.long (946728000 : Int64))]) (rest := []) (W := 0) (own_rm13 l Z a0 hw [] (946728000 : Int64) t_E T49.heap n0 (Nat.le_trans Z0 K53.1) O54 S_E E56 F57 F58 (by decide)) (by decide) (by decide) (by rw [hml]; rfl) (lenOf own_pd10 rfl) rfl (by exact Nat.le_of_eq rfl) (hb hby at_59) (by decide) (by decide) ?_
  intro T59 v59 L59 X59 hq59
  obtain ⟨b59, rfl, N59q, K59q, Q60, Q61, Q62⟩ := hq59
  have K63 : Keep h0 T59.heap [] := K53.trans K59q all0
  have O64 := O54.keep K59q all0
  have N59 := Fr.app N55 N59q
  show own_Run p e below s _ _ _ (T59.setTop (mkF m 62 #[.val (.long j0), .second, .val (.int i1), .val (.int i2), .val (.int i3), .val (.double (4618760256179416344 : UInt64)), .second, .val (.long sc), .second, .val (.int nv), .val (.double (own_sid (own_dd sc nv))), .second, .val (.int (1 : Int32)), .unset, .unset, .unset, .unset, .unset, .unset, .unset, .unset, .unset, .unset, .unset, .unset, .unset, .unset, .unset, .unset, .unset, .unset, .unset, .unset] [(.ref b59)]))
  refine own_callS X59 hx hZ (y := (⟨"com/example/swathplan/swathplan/orbit/Earth", "siderealAngleRad", "(Ljava/time/Instant;)D"⟩ : MethodName)) hown (hw _ (List.mem_of_getElem? (i := 37) rfl)) (hw _ (List.mem_of_getElem? (i := 38) rfl)) (hw _ (List.mem_of_getElem? (i := 40) rfl)) (hw _ (List.mem_of_getElem? (i := 39) rfl)) (by decide) rfl (argsL := [(.ref b59)]) (rest := []) (W := 0) (own_rm8 l Z a0 hw [] b59 (946728000 : Int64) (0 : Int32) T59.heap n0 (Nat.le_trans Z0 K63.1) Q60 Q61 Q62 (own_dayc.1) (own_dayc.2.1) (own_dayc.2.2.1) ((own_sidok own_dayc.2.2.2.1 own_dayc.2.2.2.2.1 own_dayc.2.2.2.2.2).1)) (by decide) (by decide) (by rw [hml]; rfl) (lenOf own_pd7 rfl) rfl (by exact Nat.le_of_eq rfl) (hb hby at_62) (by decide) (by decide) ?_
  intro T65 v65 L65 X65 hq65
  obtain ⟨rfl, N65q, hh65⟩ := hq65
  have N65 := Fr.app N59 N65q
  show own_Run p e below s _ _ _ (T65.setTop (mkF m 65 #[.val (.long j0), .second, .val (.int i1), .val (.int i2), .val (.int i3), .val (.double (4618760256179416344 : UInt64)), .second, .val (.long sc), .second, .val (.int nv), .val (.double (own_sid (own_dd sc nv))), .second, .val (.int (1 : Int32)), .unset, .unset, .unset, .unset, .unset, .unset, .unset, .unset, .unset, .unset, .unset, .unset, .unset, .unset, .unset, .unset, .unset, .unset, .unset, .unset] [(.double (own_sid (own_dd (946728000 : Int64) (0 : Int32))))]))
  refine own_st (fun t k => XS.dstore X65.here hx rfl (hb hby at_65) rfl (l' := #[.val (.long j0), .second, .val (.int i1), .val (.int i2), .val (.int i3), .val (.double (4618760256179416344 : UInt64)), .second, .val (.long sc), .second, .val (.int nv), .val (.double (own_sid (own_dd sc nv))), .second, .val (.int (1 : Int32)), .val (.double (own_sid (own_dd (946728000 : Int64) (0 : Int32)))), .second, .unset, .unset, .unset, .unset, .unset, .unset, .unset, .unset, .unset, .unset, .unset, .unset, .unset, .unset, .unset, .unset, .unset, .unset]) rfl k) ?_
  show own_Run p e below s _ _ _ (T65.setTop (mkF m 67 #[.val (.long j0), .second, .val (.int i1), .val (.int i2), .val (.int i3), .val (.double (4618760256179416344 : UInt64)), .second, .val (.long sc), .second, .val (.int nv), .val (.double (own_sid (own_dd sc nv))), .second, .val (.int (1 : Int32)), .val (.double (own_sid (own_dd (946728000 : Int64) (0 : Int32)))), .second, .unset, .unset, .unset, .unset, .unset, .unset, .unset, .unset, .unset, .unset, .unset, .unset, .unset, .unset, .unset, .unset, .unset, .unset] []))
  refine own_st (fun t k => XS.dload X65.here hx rfl (hb hby at_67) rfl k) ?_
  show own_Run p e below s _ _ _ (T65.setTop (mkF m 69 #[.val (.long j0), .second, .val (.int i1), .val (.int i2), .val (.int i3), .val (.double (4618760256179416344 : UInt64)), .second, .val (.long sc), .second, .val (.int nv), .val (.double (own_sid (own_dd sc nv))), .second, .val (.int (1 : Int32)), .val (.double (own_sid (own_dd (946728000 : Int64) (0 : Int32)))), .second, .unset, .unset, .unset, .unset, .unset, .unset, .unset, .unset, .unset, .unset, .unset, .unset, .unset, .unset, .unset, .unset, .unset, .unset] [(.double (own_sid (own_dd (946728000 : Int64) (0 : Int32))))]))
  refine own_st (X65.ldc2DoubleC hx hown (mvT hZ (hw _ (List.mem_of_getElem? (i := 72) rfl))) (g := (mkF m 69 #[.val (.long j0), .second, .val (.int i1), .val (.int i2), .val (.int i3), .val (.double (4618760256179416344 : UInt64)), .second, .val (.long sc), .second, .val (.int nv), .val (.double (own_sid (own_dd sc nv))), .second, .val (.int (1 : Int32)), .val (.double (own_sid (own_dd (946728000 : Int64) (0 : Int32)))), .second, .unset, .unset, .unset, .unset, .unset, .unset, .unset, .unset, .unset, .unset, .unset, .unset, .unset, .unset, .unset, .unset, .unset, .unset] [(.double (own_sid (own_dd (946728000 : Int64) (0 : Int32))))])) rfl (hb hby at_69)) ?_
  show own_Run p e below s _ _ _ (T65.setTop (mkF m 72 #[.val (.long j0), .second, .val (.int i1), .val (.int i2), .val (.int i3), .val (.double (4618760256179416344 : UInt64)), .second, .val (.long sc), .second, .val (.int nv), .val (.double (own_sid (own_dd sc nv))), .second, .val (.int (1 : Int32)), .val (.double (own_sid (own_dd (946728000 : Int64) (0 : Int32)))), .second, .unset, .unset, .unset, .unset, .unset, .unset, .unset, .unset, .unset, .unset, .unset, .unset, .unset, .unset, .unset, .unset, .unset, .unset] [(.double (4617197254800903644 : UInt64)), (.double (own_sid (own_dd (946728000 : Int64) (0 : Int32))))]))
  refine own_st (fun t k => XS.dcmpS X65.here hx rfl (hb hby at_72) rfl (v := (0 : Int32)) (by decide +kernel) k) ?_
  show own_Run p e below s _ _ _ (T65.setTop (mkF m 73 #[.val (.long j0), .second, .val (.int i1), .val (.int i2), .val (.int i3), .val (.double (4618760256179416344 : UInt64)), .second, .val (.long sc), .second, .val (.int nv), .val (.double (own_sid (own_dd sc nv))), .second, .val (.int (1 : Int32)), .val (.double (own_sid (own_dd (946728000 : Int64) (0 : Int32)))), .second, .unset, .unset, .unset, .unset, .unset, .unset, .unset, .unset, .unset, .unset, .unset, .unset, .unset, .unset, .unset, .unset, .unset, .unset] [(.int (0 : Int32))]))
  refine own_st (fun t k => XS.ifNo X65.here hx rfl (hb hby at_73) rfl ((if0 _ _).trans (teq (by decide : (0 : Int32) = (0 : Int32))).2) k) ?_
  show own_Run p e below s _ _ _ (T65.setTop (mkF m 76 #[.val (.long j0), .second, .val (.int i1), .val (.int i2), .val (.int i3), .val (.double (4618760256179416344 : UInt64)), .second, .val (.long sc), .second, .val (.int nv), .val (.double (own_sid (own_dd sc nv))), .second, .val (.int (1 : Int32)), .val (.double (own_sid (own_dd (946728000 : Int64) (0 : Int32)))), .second, .unset, .unset, .unset, .unset, .unset, .unset, .unset, .unset, .unset, .unset, .unset, .unset, .unset, .unset, .unset, .unset, .unset, .unset] []))
  refine own_st (fun t k => XS.iconst X65.here hx rfl (hb hby at_76) k) ?_
  show own_Run p e below s _ _ _ (T65.setTop (mkF m 77 #[.val (.long j0), .second, .val (.int i1), .val (.int i2), .val (.int i3), .val (.double (4618760256179416344 : UInt64)), .second, .val (.long sc), .second, .val (.int nv), .val (.double (own_sid (own_dd sc nv))), .second, .val (.int (1 : Int32)), .val (.double (own_sid (own_dd (946728000 : Int64) (0 : Int32)))), .second, .unset, .unset, .unset, .unset, .unset, .unset, .unset, .unset, .unset, .unset, .unset, .unset, .unset, .unset, .unset, .unset, .unset, .unset] [(.int (1 : Int32))]))
  refine own_st (fun t k => XS.goto X65.here hx rfl (pc0 := 77) (pc' := 81) rfl (hb hby at_77) (by decide) (by decide) k) ?_
  show own_Run p e below s _ _ _ (T65.setTop (mkF m 81 #[.val (.long j0), .second, .val (.int i1), .val (.int i2), .val (.int i3), .val (.double (4618760256179416344 : UInt64)), .second, .val (.long sc), .second, .val (.int nv), .val (.double (own_sid (own_dd sc nv))), .second, .val (.int (1 : Int32)), .val (.double (own_sid (own_dd (946728000 : Int64) (0 : Int32)))), .second, .unset, .unset, .unset, .unset, .unset, .unset, .unset, .unset, .unset, .unset, .unset, .unset, .unset, .unset, .unset, .unset, .unset, .unset] [(.int (1 : Int32))]))
  refine own_st (fun t k => XS.istore X65.here hx rfl (hb hby at_81) rfl (l' := #[.val (.long j0), .second, .val (.int i1), .val (.int i2), .val (.int i3), .val (.double (4618760256179416344 : UInt64)), .second, .val (.long sc), .second, .val (.int nv), .val (.double (own_sid (own_dd sc nv))), .second, .val (.int (1 : Int32)), .val (.double (own_sid (own_dd (946728000 : Int64) (0 : Int32)))), .second, .val (.int (1 : Int32)), .unset, .unset, .unset, .unset, .unset, .unset, .unset, .unset, .unset, .unset, .unset, .unset, .unset, .unset, .unset, .unset, .unset]) rfl k) ?_
  show own_Run p e below s _ _ _ (T65.setTop (mkF m 83 #[.val (.long j0), .second, .val (.int i1), .val (.int i2), .val (.int i3), .val (.double (4618760256179416344 : UInt64)), .second, .val (.long sc), .second, .val (.int nv), .val (.double (own_sid (own_dd sc nv))), .second, .val (.int (1 : Int32)), .val (.double (own_sid (own_dd (946728000 : Int64) (0 : Int32)))), .second, .val (.int (1 : Int32)), .unset, .unset, .unset, .unset, .unset, .unset, .unset, .unset, .unset, .unset, .unset, .unset, .unset, .unset, .unset, .unset, .unset] []))
  refine own_st (fun t k => XS.iload X65.here hx rfl (hb hby at_83) rfl k) ?_
  show own_Run p e below s _ _ _ (T65.setTop (mkF m 85 #[.val (.long j0), .second, .val (.int i1), .val (.int i2), .val (.int i3), .val (.double (4618760256179416344 : UInt64)), .second, .val (.long sc), .second, .val (.int nv), .val (.double (own_sid (own_dd sc nv))), .second, .val (.int (1 : Int32)), .val (.double (own_sid (own_dd (946728000 : Int64) (0 : Int32)))), .second, .val (.int (1 : Int32)), .unset, .unset, .unset, .unset, .unset, .unset, .unset, .unset, .unset, .unset, .unset, .unset, .unset, .unset, .unset, .unset, .unset] [(.int i3)]))
  refine own_st (fun t k => XS.iconst X65.here hx rfl (hb hby at_85) k) ?_
  show own_Run p e below s _ _ _ (T65.setTop (mkF m 86 #[.val (.long j0), .second, .val (.int i1), .val (.int i2), .val (.int i3), .val (.double (4618760256179416344 : UInt64)), .second, .val (.long sc), .second, .val (.int nv), .val (.double (own_sid (own_dd sc nv))), .second, .val (.int (1 : Int32)), .val (.double (own_sid (own_dd (946728000 : Int64) (0 : Int32)))), .second, .val (.int (1 : Int32)), .unset, .unset, .unset, .unset, .unset, .unset, .unset, .unset, .unset, .unset, .unset, .unset, .unset, .unset, .unset, .unset, .unset] [(.int (3 : Int32)), (.int i3)]))
  refine own_st (fun t k => XS.iand X65.here hx rfl (hb hby at_86) rfl k) ?_
  show own_Run p e below s _ _ _ (T65.setTop (mkF m 87 #[.val (.long j0), .second, .val (.int i1), .val (.int i2), .val (.int i3), .val (.double (4618760256179416344 : UInt64)), .second, .val (.long sc), .second, .val (.int nv), .val (.double (own_sid (own_dd sc nv))), .second, .val (.int (1 : Int32)), .val (.double (own_sid (own_dd (946728000 : Int64) (0 : Int32)))), .second, .val (.int (1 : Int32)), .unset, .unset, .unset, .unset, .unset, .unset, .unset, .unset, .unset, .unset, .unset, .unset, .unset, .unset, .unset, .unset, .unset] [(.int (i3 &&& (3 : Int32)))]))
  obtain ⟨qq, h_qq⟩ : ∃ z, ((i3 &&& (3 : Int32)) : Int32) = z := ⟨_, rfl⟩
  refine own_topI h_qq ?_
  show own_Run p e below s _ _ _ (T65.setTop (mkF m 87 #[.val (.long j0), .second, .val (.int i1), .val (.int i2), .val (.int i3), .val (.double (4618760256179416344 : UInt64)), .second, .val (.long sc), .second, .val (.int nv), .val (.double (own_sid (own_dd sc nv))), .second, .val (.int (1 : Int32)), .val (.double (own_sid (own_dd (946728000 : Int64) (0 : Int32)))), .second, .val (.int (1 : Int32)), .unset, .unset, .unset, .unset, .unset, .unset, .unset, .unset, .unset, .unset, .unset, .unset, .unset, .unset, .unset, .unset, .unset] [(.int qq)]))
  have r_qq := own_qq h_qq
  refine own_st (fun t k => XS.istore X65.here hx rfl (hb hby at_87) rfl (l' := #[.val (.long j0), .second, .val (.int i1), .val (.int i2), .val (.int i3), .val (.double (4618760256179416344 : UInt64)), .second, .val (.long sc), .second, .val (.int nv), .val (.double (own_sid (own_dd sc nv))), .second, .val (.int (1 : Int32)), .val (.double (own_sid (own_dd (946728000 : Int64) (0 : Int32)))), .second, .val (.int (1 : Int32)), .val (.int qq), .unset, .unset, .unset, .unset, .unset, .unset, .unset, .unset, .unset, .unset, .unset, .unset, .unset, .unset, .unset, .unset]) rfl k) ?_
  show own_Run p e below s _ _ _ (T65.setTop (mkF m 89 #[.val (.long j0), .second, .val (.int i1), .val (.int i2), .val (.int i3), .val (.double (4618760256179416344 : UInt64)), .second, .val (.long sc), .second, .val (.int nv), .val (.double (own_sid (own_dd sc nv))), .second, .val (.int (1 : Int32)), .val (.double (own_sid (own_dd (946728000 : Int64) (0 : Int32)))), .second, .val (.int (1 : Int32)), .val (.int qq), .unset, .unset, .unset, .unset, .unset, .unset, .unset, .unset, .unset, .unset, .unset, .unset, .unset, .unset, .unset, .unset] []))
  refine own_st (fun t k => XS.iloadN X65.here hx rfl (hb hby at_89) rfl k) ?_
  show own_Run p e below s _ _ _ (T65.setTop (mkF m 90 #[.val (.long j0), .second, .val (.int i1), .val (.int i2), .val (.int i3), .val (.double (4618760256179416344 : UInt64)), .second, .val (.long sc), .second, .val (.int nv), .val (.double (own_sid (own_dd sc nv))), .second, .val (.int (1 : Int32)), .val (.double (own_sid (own_dd (946728000 : Int64) (0 : Int32)))), .second, .val (.int (1 : Int32)), .val (.int qq), .unset, .unset, .unset, .unset, .unset, .unset, .unset, .unset, .unset, .unset, .unset, .unset, .unset, .unset, .unset, .unset] [(.int i2)]))
  refine own_st (X65.ldcInt hx hown (mvT hZ (hw _ (List.mem_of_getElem? (i := 73) rfl))) (g := (mkF m 90 #[.val (.long j0), .second, .val (.int i1), .val (.int i2), .val (.int i3), .val (.double (4618760256179416344 : UInt64)), .second, .val (.long sc), .second, .val (.int nv), .val (.double (own_sid (own_dd sc nv))), .second, .val (.int (1 : Int32)), .val (.double (own_sid (own_dd (946728000 : Int64) (0 : Int32)))), .second, .val (.int (1 : Int32)), .val (.int qq), .unset, .unset, .unset, .unset, .unset, .unset, .unset, .unset, .unset, .unset, .unset, .unset, .unset, .unset, .unset, .unset] [(.int i2)])) rfl (hb hby at_90)) ?_
  show own_Run p e below s _ _ _ (T65.setTop (mkF m 92 #[.val (.long j0), .second, .val (.int i1), .val (.int i2), .val (.int i3), .val (.double (4618760256179416344 : UInt64)), .second, .val (.long sc), .second, .val (.int nv), .val (.double (own_sid (own_dd sc nv))), .second, .val (.int (1 : Int32)), .val (.double (own_sid (own_dd (946728000 : Int64) (0 : Int32)))), .second, .val (.int (1 : Int32)), .val (.int qq), .unset, .unset, .unset, .unset, .unset, .unset, .unset, .unset, .unset, .unset, .unset, .unset, .unset, .unset, .unset, .unset] [(.int (4000000 : Int32)), (.int i2)]))
  refine own_st (fun t k => iremM X65 hx rfl (hb hby at_92) rfl (by decide) k) ?_
  show own_Run p e below s _ _ _ (T65.setTop (mkF m 93 #[.val (.long j0), .second, .val (.int i1), .val (.int i2), .val (.int i3), .val (.double (4618760256179416344 : UInt64)), .second, .val (.long sc), .second, .val (.int nv), .val (.double (own_sid (own_dd sc nv))), .second, .val (.int (1 : Int32)), .val (.double (own_sid (own_dd (946728000 : Int64) (0 : Int32)))), .second, .val (.int (1 : Int32)), .val (.int qq), .unset, .unset, .unset, .unset, .unset, .unset, .unset, .unset, .unset, .unset, .unset, .unset, .unset, .unset, .unset, .unset] [(.int (i2 % (4000000 : Int32)))]))
  refine own_st (fun t k => XS.i2l X65.here hx rfl (hb hby at_93) rfl k) ?_
  show own_Run p e below s _ _ _ (T65.setTop (mkF m 94 #[.val (.long j0), .second, .val (.int i1), .val (.int i2), .val (.int i3), .val (.double (4618760256179416344 : UInt64)), .second, .val (.long sc), .second, .val (.int nv), .val (.double (own_sid (own_dd sc nv))), .second, .val (.int (1 : Int32)), .val (.double (own_sid (own_dd (946728000 : Int64) (0 : Int32)))), .second, .val (.int (1 : Int32)), .val (.int qq), .unset, .unset, .unset, .unset, .unset, .unset, .unset, .unset, .unset, .unset, .unset, .unset, .unset, .unset, .unset, .unset] [(.long ((i2 % (4000000 : Int32)).toInt64))]))
  obtain ⟨da, h_da⟩ : ∃ z, (((i2 % (4000000 : Int32)).toInt64) : Int64) = z := ⟨_, rfl⟩
  refine own_topJ h_da ?_
  show own_Run p e below s _ _ _ (T65.setTop (mkF m 94 #[.val (.long j0), .second, .val (.int i1), .val (.int i2), .val (.int i3), .val (.double (4618760256179416344 : UInt64)), .second, .val (.long sc), .second, .val (.int nv), .val (.double (own_sid (own_dd sc nv))), .second, .val (.int (1 : Int32)), .val (.double (own_sid (own_dd (946728000 : Int64) (0 : Int32)))), .second, .val (.int (1 : Int32)), .val (.int qq), .unset, .unset, .unset, .unset, .unset, .unset, .unset, .unset, .unset, .unset, .unset, .unset, .unset, .unset, .unset, .unset] [(.long da)]))
  have r_da : da.toInt.natAbs ≤ 3999999 := own_da h_da
  refine own_st (fun t k => XS.lstore X65.here hx rfl (hb hby at_94) rfl (l' := #[.val (.long j0), .second, .val (.int i1), .val (.int i2), .val (.int i3), .val (.double (4618760256179416344 : UInt64)), .second, .val (.long sc), .second, .val (.int nv), .val (.double (own_sid (own_dd sc nv))), .second, .val (.int (1 : Int32)), .val (.double (own_sid (own_dd (946728000 : Int64) (0 : Int32)))), .second, .val (.int (1 : Int32)), .val (.int qq), .val (.long da), .second, .unset, .unset, .unset, .unset, .unset, .unset, .unset, .unset, .unset, .unset, .unset, .unset, .unset, .unset]) rfl k) ?_
  show own_Run p e below s _ _ _ (T65.setTop (mkF m 96 #[.val (.long j0), .second, .val (.int i1), .val (.int i2), .val (.int i3), .val (.double (4618760256179416344 : UInt64)), .second, .val (.long sc), .second, .val (.int nv), .val (.double (own_sid (own_dd sc nv))), .second, .val (.int (1 : Int32)), .val (.double (own_sid (own_dd (946728000 : Int64) (0 : Int32)))), .second, .val (.int (1 : Int32)), .val (.int qq), .val (.long da), .second, .unset, .unset, .unset, .unset, .unset, .unset, .unset, .unset, .unset, .unset, .unset, .unset, .unset, .unset] []))
  refine own_st (X65.ldc2Long hx hown (mvT hZ (hw _ (List.mem_of_getElem? (i := 68) rfl))) (g := (mkF m 96 #[.val (.long j0), .second, .val (.int i1), .val (.int i2), .val (.int i3), .val (.double (4618760256179416344 : UInt64)), .second, .val (.long sc), .second, .val (.int nv), .val (.double (own_sid (own_dd sc nv))), .second, .val (.int (1 : Int32)), .val (.double (own_sid (own_dd (946728000 : Int64) (0 : Int32)))), .second, .val (.int (1 : Int32)), .val (.int qq), .val (.long da), .second, .unset, .unset, .unset, .unset, .unset, .unset, .unset, .unset, .unset, .unset, .unset, .unset, .unset, .unset] [])) rfl (hb hby at_96)) ?_
  show own_Run p e below s _ _ _ (T65.setTop (mkF m 99 #[.val (.long j0), .second, .val (.int i1), .val (.int i2), .val (.int i3), .val (.double (4618760256179416344 : UInt64)), .second, .val (.long sc), .second, .val (.int nv), .val (.double (own_sid (own_dd sc nv))), .second, .val (.int (1 : Int32)), .val (.double (own_sid (own_dd (946728000 : Int64) (0 : Int32)))), .second, .val (.int (1 : Int32)), .val (.int qq), .val (.long da), .second, .unset, .unset, .unset, .unset, .unset, .unset, .unset, .unset, .unset, .unset, .unset, .unset, .unset, .unset] [(.long (946728000 : Int64))]))
  refine own_st (X65.ldc2Long hx hown (mvT hZ (hw _ (List.mem_of_getElem? (i := 74) rfl))) (g := (mkF m 99 #[.val (.long j0), .second, .val (.int i1), .val (.int i2), .val (.int i3), .val (.double (4618760256179416344 : UInt64)), .second, .val (.long sc), .second, .val (.int nv), .val (.double (own_sid (own_dd sc nv))), .second, .val (.int (1 : Int32)), .val (.double (own_sid (own_dd (946728000 : Int64) (0 : Int32)))), .second, .val (.int (1 : Int32)), .val (.int qq), .val (.long da), .second, .unset, .unset, .unset, .unset, .unset, .unset, .unset, .unset, .unset, .unset, .unset, .unset, .unset, .unset] [(.long (946728000 : Int64))])) rfl (hb hby at_99)) ?_
  show own_Run p e below s _ _ _ (T65.setTop (mkF m 102 #[.val (.long j0), .second, .val (.int i1), .val (.int i2), .val (.int i3), .val (.double (4618760256179416344 : UInt64)), .second, .val (.long sc), .second, .val (.int nv), .val (.double (own_sid (own_dd sc nv))), .second, .val (.int (1 : Int32)), .val (.double (own_sid (own_dd (946728000 : Int64) (0 : Int32)))), .second, .val (.int (1 : Int32)), .val (.int qq), .val (.long da), .second, .unset, .unset, .unset, .unset, .unset, .unset, .unset, .unset, .unset, .unset, .unset, .unset, .unset, .unset] [(.long (86400 : Int64)), (.long (946728000 : Int64))]))
  refine own_st (fun t k => XS.lload X65.here hx rfl (hb hby at_102) rfl k) ?_
  show own_Run p e below s _ _ _ (T65.setTop (mkF m 104 #[.val (.long j0), .second, .val (.int i1), .val (.int i2), .val (.int i3), .val (.double (4618760256179416344 : UInt64)), .second, .val (.long sc), .second, .val (.int nv), .val (.double (own_sid (own_dd sc nv))), .second, .val (.int (1 : Int32)), .val (.double (own_sid (own_dd (946728000 : Int64) (0 : Int32)))), .second, .val (.int (1 : Int32)), .val (.int qq), .val (.long da), .second, .unset, .unset, .unset, .unset, .unset, .unset, .unset, .unset, .unset, .unset, .unset, .unset, .unset, .unset] [(.long da), (.long (86400 : Int64)), (.long (946728000 : Int64))]))
  refine own_st (fun t k => XS.lmul X65.here hx rfl (hb hby at_104) rfl k) ?_
  show own_Run p e below s _ _ _ (T65.setTop (mkF m 105 #[.val (.long j0), .second, .val (.int i1), .val (.int i2), .val (.int i3), .val (.double (4618760256179416344 : UInt64)), .second, .val (.long sc), .second, .val (.int nv), .val (.double (own_sid (own_dd sc nv))), .second, .val (.int (1 : Int32)), .val (.double (own_sid (own_dd (946728000 : Int64) (0 : Int32)))), .second, .val (.int (1 : Int32)), .val (.int qq), .val (.long da), .second, .unset, .unset, .unset, .unset, .unset, .unset, .unset, .unset, .unset, .unset, .unset, .unset, .unset, .unset] [(.long ((86400 : Int64) * da)), (.long (946728000 : Int64))]))
  refine own_st (fun t k => XS.ladd X65.here hx rfl (hb hby at_105) rfl k) ?_
  show own_Run p e below s _ _ _ (T65.setTop (mkF m 106 #[.val (.long j0), .second, .val (.int i1), .val (.int i2), .val (.int i3), .val (.double (4618760256179416344 : UInt64)), .second, .val (.long sc), .second, .val (.int nv), .val (.double (own_sid (own_dd sc nv))), .second, .val (.int (1 : Int32)), .val (.double (own_sid (own_dd (946728000 : Int64) (0 : Int32)))), .second, .val (.int (1 : Int32)), .val (.int qq), .val (.long da), .second, .unset, .unset, .unset, .unset, .unset, .unset, .unset, .unset, .unset, .unset, .unset, .unset, .unset, .unset] [(.long ((946728000 : Int64) + ((86400 : Int64) * da)))]))
  refine own_st (X65.ldc2Long hx hown (mvT hZ (hw _ (List.mem_of_getElem? (i := 75) rfl))) (g := (mkF m 106 #[.val (.long j0), .second, .val (.int i1), .val (.int i2), .val (.int i3), .val (.double (4618760256179416344 : UInt64)), .second, .val (.long sc), .second, .val (.int nv), .val (.double (own_sid (own_dd sc nv))), .second, .val (.int (1 : Int32)), .val (.double (own_sid (own_dd (946728000 : Int64) (0 : Int32)))), .second, .val (.int (1 : Int32)), .val (.int qq), .val (.long da), .second, .unset, .unset, .unset, .unset, .unset, .unset, .unset, .unset, .unset, .unset, .unset, .unset, .unset, .unset] [(.long ((946728000 : Int64) + ((86400 : Int64) * da)))])) rfl (hb hby at_106)) ?_
  show own_Run p e below s _ _ _ (T65.setTop (mkF m 109 #[.val (.long j0), .second, .val (.int i1), .val (.int i2), .val (.int i3), .val (.double (4618760256179416344 : UInt64)), .second, .val (.long sc), .second, .val (.int nv), .val (.double (own_sid (own_dd sc nv))), .second, .val (.int (1 : Int32)), .val (.double (own_sid (own_dd (946728000 : Int64) (0 : Int32)))), .second, .val (.int (1 : Int32)), .val (.int qq), .val (.long da), .second, .unset, .unset, .unset, .unset, .unset, .unset, .unset, .unset, .unset, .unset, .unset, .unset, .unset, .unset] [(.long (21600 : Int64)), (.long ((946728000 : Int64) + ((86400 : Int64) * da)))]))
  refine own_st (fun t k => XS.iload X65.here hx rfl (hb hby at_109) rfl k) ?_
  show own_Run p e below s _ _ _ (T65.setTop (mkF m 111 #[.val (.long j0), .second, .val (.int i1), .val (.int i2), .val (.int i3), .val (.double (4618760256179416344 : UInt64)), .second, .val (.long sc), .second, .val (.int nv), .val (.double (own_sid (own_dd sc nv))), .second, .val (.int (1 : Int32)), .val (.double (own_sid (own_dd (946728000 : Int64) (0 : Int32)))), .second, .val (.int (1 : Int32)), .val (.int qq), .val (.long da), .second, .unset, .unset, .unset, .unset, .unset, .unset, .unset, .unset, .unset, .unset, .unset, .unset, .unset, .unset] [(.int qq), (.long (21600 : Int64)), (.long ((946728000 : Int64) + ((86400 : Int64) * da)))]))
  refine own_st (fun t k => XS.i2l X65.here hx rfl (hb hby at_111) rfl k) ?_
  show own_Run p e below s _ _ _ (T65.setTop (mkF m 112 #[.val (.long j0), .second, .val (.int i1), .val (.int i2), .val (.int i3), .val (.double (4618760256179416344 : UInt64)), .second, .val (.long sc), .second, .val (.int nv), .val (.double (own_sid (own_dd sc nv))), .second, .val (.int (1 : Int32)), .val (.double (own_sid (own_dd (946728000 : Int64) (0 : Int32)))), .second, .val (.int (1 : Int32)), .val (.int qq), .val (.long da), .second, .unset, .unset, .unset, .unset, .unset, .unset, .unset, .unset, .unset, .unset, .unset, .unset, .unset, .unset] [(.long (qq.toInt64)), (.long (21600 : Int64)), (.long ((946728000 : Int64) + ((86400 : Int64) * da)))]))
  refine own_st (fun t k => XS.lmul X65.here hx rfl (hb hby at_112) rfl k) ?_
  show own_Run p e below s _ _ _ (T65.setTop (mkF m 113 #[.val (.long j0), .second, .val (.int i1), .val (.int i2), .val (.int i3), .val (.double (4618760256179416344 : UInt64)), .second, .val (.long sc), .second, .val (.int nv), .val (.double (own_sid (own_dd sc nv))), .second, .val (.int (1 : Int32)), .val (.double (own_sid (own_dd (946728000 : Int64) (0 : Int32)))), .second, .val (.int (1 : Int32)), .val (.int qq), .val (.long da), .second, .unset, .unset, .unset, .unset, .unset, .unset, .unset, .unset, .unset, .unset, .unset, .unset, .unset, .unset] [(.long ((21600 : Int64) * (qq.toInt64))), (.long ((946728000 : Int64) + ((86400 : Int64) * da)))]))
  refine own_st (fun t k => XS.ladd X65.here hx rfl (hb hby at_113) rfl k) ?_
  show own_Run p e below s _ _ _ (T65.setTop (mkF m 114 #[.val (.long j0), .second, .val (.int i1), .val (.int i2), .val (.int i3), .val (.double (4618760256179416344 : UInt64)), .second, .val (.long sc), .second, .val (.int nv), .val (.double (own_sid (own_dd sc nv))), .second, .val (.int (1 : Int32)), .val (.double (own_sid (own_dd (946728000 : Int64) (0 : Int32)))), .second, .val (.int (1 : Int32)), .val (.int qq), .val (.long da), .second, .unset, .unset, .unset, .unset, .unset, .unset, .unset, .unset, .unset, .unset, .unset, .unset, .unset, .unset] [(.long (((946728000 : Int64) + ((86400 : Int64) * da)) + ((21600 : Int64) * (qq.toInt64))))]))
  obtain ⟨s1, h_s1⟩ : ∃ z, ((((946728000 : Int64) + ((86400 : Int64) * da)) + ((21600 : Int64) * (qq.toInt64))) : Int64) = z := ⟨_, rfl⟩
  refine own_topJ h_s1 ?_
  show own_Run p e below s _ _ _ (T65.setTop (mkF m 114 #[.val (.long j0), .second, .val (.int i1), .val (.int i2), .val (.int i3), .val (.double (4618760256179416344 : UInt64)), .second, .val (.long sc), .second, .val (.int nv), .val (.double (own_sid (own_dd sc nv))), .second, .val (.int (1 : Int32)), .val (.double (own_sid (own_dd (946728000 : Int64) (0 : Int32)))), .second, .val (.int (1 : Int32)), .val (.int qq), .val (.long da), .second, .unset, .unset, .unset, .unset, .unset, .unset, .unset, .unset, .unset, .unset, .unset, .unset, .unset, .unset] [(.long s1)]))
  have r_s1 := own_s1 r_qq r_da h_s1
  have g_1 := own_dayz r_s1 (by omega)
  have z_1 := own_dayq r_s1 (by omega)
  have z_2 := own_dayd (da := da) r_qq r_da
  have E66 := (E56.keep K59q)
  have F67 := (F57.keep K59q nin0)
  have F68 := (F58.keep K59q nin0)
  refine own_callS X65 hx hZ (y := (⟨"java/time/Instant", "ofEpochSecond", "(J)Ljava/time/Instant;"⟩ : MethodName)) hown (hw _ (List.mem_of_getElem? (i := 69) rfl)) (hw _ (List.mem_of_getElem? (i := 70) rfl)) (hw _ (List.mem_of_getElem? (i := 71) rfl)) (hw _ (List.mem_of_getElem? (i := 6) rfl)) (by decide) hh65 (argsL := [(.long s1)]) (rest := []) (W := 0) (own_rm13 l Z a0 hw [] s1 t_E T59.heap n0 (Nat.le_trans Z0 K63.1) O64 S_E E66 F67 F68 (⟨by omega, by omega⟩)) (by decide) (by decide) (by rw [hml]; rfl) (lenOf own_pd10 rfl) rfl (by exact Nat.le_of_eq rfl) (hb hby at_114) (by decide) (by decide) ?_
  intro T69 v69 L69 X69 hq69
  obtain ⟨b69, rfl, N69q, K69q, Q70, Q71, Q72⟩ := hq69
  have K73 : Keep h0 T69.heap [] := K63.trans K69q all0
  have O74 := O64.keep K69q all0
  have N69 := Fr.app N65 N69q
  show own_Run p e below s _ _ _ (T69.setTop (mkF m 117 #[.val (.long j0), .second, .val (.int i1), .val (.int i2), .val (.int i3), .val (.double (4618760256179416344 : UInt64)), .second, .val (.long sc), .second, .val (.int nv), .val (.double (own_sid (own_dd sc nv))), .second, .val (.int (1 : Int32)), .val (.double (own_sid (own_dd (946728000 : Int64) (0 : Int32)))), .second, .val (.int (1 : Int32)), .val (.int qq), .val (.long da), .second, .unset, .unset, .unset, .unset, .unset, .unset, .unset, .unset, .unset, .unset, .unset, .unset, .unset, .unset] [(.ref b69)]))
  refine own_callS X69 hx hZ (y := (⟨"com/example/swathplan/swathplan/orbit/Earth", "siderealAngleRad", "(Ljava/time/Instant;)D"⟩ : MethodName)) hown (hw _ (List.mem_of_getElem? (i := 37) rfl)) (hw _ (List.mem_of_getElem? (i := 38) rfl)) (hw _ (List.mem_of_getElem? (i := 40) rfl)) (hw _ (List.mem_of_getElem? (i := 39) rfl)) (by decide) rfl (argsL := [(.ref b69)]) (rest := []) (W := 0) (own_rm8 l Z a0 hw [] b69 s1 (0 : Int32) T69.heap n0 (Nat.le_trans Z0 K73.1) Q70 Q71 Q72 (g_1.1) (g_1.2.1) (g_1.2.2.1) ((own_sidok g_1.2.2.2.1 g_1.2.2.2.2.1 g_1.2.2.2.2.2).1)) (by decide) (by decide) (by rw [hml]; rfl) (lenOf own_pd7 rfl) rfl (by exact Nat.le_of_eq rfl) (hb hby at_117) (by decide) (by decide) ?_
  intro T75 v75 L75 X75 hq75
  obtain ⟨rfl, N75q, hh75⟩ := hq75
  have N75 := Fr.app N69 N75q
  show own_Run p e below s _ _ _ (T75.setTop (mkF m 120 #[.val (.long j0), .second, .val (.int i1), .val (.int i2), .val (.int i3), .val (.double (4618760256179416344 : UInt64)), .second, .val (.long sc), .second, .val (.int nv), .val (.double (own_sid (own_dd sc nv))), .second, .val (.int (1 : Int32)), .val (.double (own_sid (own_dd (946728000 : Int64) (0 : Int32)))), .second, .val (.int (1 : Int32)), .val (.int qq), .val (.long da), .second, .unset, .unset, .unset, .unset, .unset, .unset, .unset, .unset, .unset, .unset, .unset, .unset, .unset, .unset] [(.double (own_sid (own_dd s1 (0 : Int32))))]))
  refine own_st (fun t k => XS.dstore X75.here hx rfl (hb hby at_120) rfl (l' := #[.val (.long j0), .second, .val (.int i1), .val (.int i2), .val (.int i3), .val (.double (4618760256179416344 : UInt64)), .second, .val (.long sc), .second, .val (.int nv), .val (.double (own_sid (own_dd sc nv))), .second, .val (.int (1 : Int32)), .val (.double (own_sid (own_dd (946728000 : Int64) (0 : Int32)))), .second, .val (.int (1 : Int32)), .val (.int qq), .val (.long da), .second, .val (.double (own_sid (own_dd s1 (0 : Int32)))), .second, .unset, .unset, .unset, .unset, .unset, .unset, .unset, .unset, .unset, .unset, .unset, .unset]) rfl k) ?_
  show own_Run p e below s _ _ _ (T75.setTop (mkF m 122 #[.val (.long j0), .second, .val (.int i1), .val (.int i2), .val (.int i3), .val (.double (4618760256179416344 : UInt64)), .second, .val (.long sc), .second, .val (.int nv), .val (.double (own_sid (own_dd sc nv))), .second, .val (.int (1 : Int32)), .val (.double (own_sid (own_dd (946728000 : Int64) (0 : Int32)))), .second, .val (.int (1 : Int32)), .val (.int qq), .val (.long da), .second, .val (.double (own_sid (own_dd s1 (0 : Int32)))), .second, .unset, .unset, .unset, .unset, .unset, .unset, .unset, .unset, .unset, .unset, .unset, .unset] []))
  refine own_st (fun t k => XS.dload X75.here hx rfl (hb hby at_122) rfl k) ?_
  show own_Run p e below s _ _ _ (T75.setTop (mkF m 124 #[.val (.long j0), .second, .val (.int i1), .val (.int i2), .val (.int i3), .val (.double (4618760256179416344 : UInt64)), .second, .val (.long sc), .second, .val (.int nv), .val (.double (own_sid (own_dd sc nv))), .second, .val (.int (1 : Int32)), .val (.double (own_sid (own_dd (946728000 : Int64) (0 : Int32)))), .second, .val (.int (1 : Int32)), .val (.int qq), .val (.long da), .second, .val (.double (own_sid (own_dd s1 (0 : Int32)))), .second, .unset, .unset, .unset, .unset, .unset, .unset, .unset, .unset, .unset, .unset, .unset, .unset] [(.double (own_sid (own_dd s1 (0 : Int32))))]))
  refine own_st (fun t k => XS.lload X75.here hx rfl (hb hby at_124) rfl k) ?_
  show own_Run p e below s _ _ _ (T75.setTop (mkF m 126 #[.val (.long j0), .second, .val (.int i1), .val (.int i2), .val (.int i3), .val (.double (4618760256179416344 : UInt64)), .second, .val (.long sc), .second, .val (.int nv), .val (.double (own_sid (own_dd sc nv))), .second, .val (.int (1 : Int32)), .val (.double (own_sid (own_dd (946728000 : Int64) (0 : Int32)))), .second, .val (.int (1 : Int32)), .val (.int qq), .val (.long da), .second, .val (.double (own_sid (own_dd s1 (0 : Int32)))), .second, .unset, .unset, .unset, .unset, .unset, .unset, .unset, .unset, .unset, .unset, .unset, .unset] [(.long da), (.double (own_sid (own_dd s1 (0 : Int32))))]))
  refine own_st (fun t k => XS.l2dS X75.here hx rfl (hb hby at_126) rfl (v := (FP.l2d da)) (rfl) k) ?_
  show own_Run p e below s _ _ _ (T75.setTop (mkF m 127 #[.val (.long j0), .second, .val (.int i1), .val (.int i2), .val (.int i3), .val (.double (4618760256179416344 : UInt64)), .second, .val (.long sc), .second, .val (.int nv), .val (.double (own_sid (own_dd sc nv))), .second, .val (.int (1 : Int32)), .val (.double (own_sid (own_dd (946728000 : Int64) (0 : Int32)))), .second, .val (.int (1 : Int32)), .val (.int qq), .val (.long da), .second, .val (.double (own_sid (own_dd s1 (0 : Int32)))), .second, .unset, .unset, .unset, .unset, .unset, .unset, .unset, .unset, .unset, .unset, .unset, .unset] [(.double (FP.l2d da)), (.double (own_sid (own_dd s1 (0 : Int32))))]))
  refine own_st (fun t k => XS.iload X75.here hx rfl (hb hby at_127) rfl k) ?_
  show own_Run p e below s _ _ _ (T75.setTop (mkF m 129 #[.val (.long j0), .second, .val (.int i1), .val (.int i2), .val (.int i3), .val (.double (4618760256179416344 : UInt64)), .second, .val (.long sc), .second, .val (.int nv), .val (.double (own_sid (own_dd sc nv))), .second, .val (.int (1 : Int32)), .val (.double (own_sid (own_dd (946728000 : Int64) (0 : Int32)))), .second, .val (.int (1 : Int32)), .val (.int qq), .val (.long da), .second, .val (.double (own_sid (own_dd s1 (0 : Int32)))), .second, .unset, .unset, .unset, .unset, .unset, .unset, .unset, .unset, .unset, .unset, .unset, .unset] [(.int qq), (.double (FP.l2d da)), (.double (own_sid (own_dd s1 (0 : Int32))))]))
  refine own_st (fun t k => XS.i2dS X75.here hx rfl (hb hby at_129) rfl (v := (FP.i2d qq)) (rfl) k) ?_
  show own_Run p e below s _ _ _ (T75.setTop (mkF m 130 #[.val (.long j0), .second, .val (.int i1), .val (.int i2), .val (.int i3), .val (.double (4618760256179416344 : UInt64)), .second, .val (.long sc), .second, .val (.int nv), .val (.double (own_sid (own_dd sc nv))), .second, .val (.int (1 : Int32)), .val (.double (own_sid (own_dd (946728000 : Int64) (0 : Int32)))), .second, .val (.int (1 : Int32)), .val (.int qq), .val (.long da), .second, .val (.double (own_sid (own_dd s1 (0 : Int32)))), .second, .unset, .unset, .unset, .unset, .unset, .unset, .unset, .unset, .unset, .unset, .unset, .unset] [(.double (FP.i2d qq)), (.double (FP.l2d da)), (.double (own_sid (own_dd s1 (0 : Int32))))]))
  refine own_st (X75.ldc2DoubleC hx hown (mvT hZ (hw _ (List.mem_of_getElem? (i := 76) rfl))) (g := (mkF m 130 #[.val (.long j0), .second, .val (.int i1), .val (.int i2), .val (.int i3), .val (.double (4618760256179416344 : UInt64)), .second, .val (.long sc), .second, .val (.int nv), .val (.double (own_sid (own_dd sc nv))), .second, .val (.int (1 : Int32)), .val (.double (own_sid (own_dd (946728000 : Int64) (0 : Int32)))), .second, .val (.int (1 : Int32)), .val (.int qq), .val (.long da), .second, .val (.double (own_sid (own_dd s1 (0 : Int32)))), .second, .unset, .unset, .unset, .unset, .unset, .unset, .unset, .unset, .unset, .unset, .unset, .unset] [(.double (FP.i2d qq)), (.double (FP.l2d da)), (.double (own_sid (own_dd s1 (0 : Int32))))])) rfl (hb hby at_130)) ?_
  show own_Run p e below s _ _ _ (T75.setTop (mkF m 133 #[.val (.long j0), .second, .val (.int i1), .val (.int i2), .val (.int i3), .val (.double (4618760256179416344 : UInt64)), .second, .val (.long sc), .second, .val (.int nv), .val (.double (own_sid (own_dd sc nv))), .second, .val (.int (1 : Int32)), .val (.double (own_sid (own_dd (946728000 : Int64) (0 : Int32)))), .second, .val (.int (1 : Int32)), .val (.int qq), .val (.long da), .second, .val (.double (own_sid (own_dd s1 (0 : Int32)))), .second, .unset, .unset, .unset, .unset, .unset, .unset, .unset, .unset, .unset, .unset, .unset, .unset] [(.double (4598175219545276416 : UInt64)), (.double (FP.i2d qq)), (.double (FP.l2d da)), (.double (own_sid (own_dd s1 (0 : Int32))))]))
  refine own_st (fun t k => XS.dmulS X75.here hx rfl (hb hby at_133) rfl (z_2.1) (v := (FP.dmul (FP.i2d qq) (4598175219545276416 : UInt64))) (rfl) k) ?_
  show own_Run p e below s _ _ _ (T75.setTop (mkF m 134 #[.val (.long j0), .second, .val (.int i1), .val (.int i2), .val (.int i3), .val (.double (4618760256179416344 : UInt64)), .second, .val (.long sc), .second, .val (.int nv), .val (.double (own_sid (own_dd sc nv))), .second, .val (.int (1 : Int32)), .val (.double (own_sid (own_dd (946728000 : Int64) (0 : Int32)))), .second, .val (.int (1 : Int32)), .val (.int qq), .val (.long da), .second, .val (.double (own_sid (own_dd s1 (0 : Int32)))), .second, .unset, .unset, .unset, .unset, .unset, .unset, .unset, .unset, .unset, .unset, .unset, .unset] [(.double (FP.dmul (FP.i2d qq) (4598175219545276416 : UInt64))), (.double (FP.l2d da)), (.double (own_sid (own_dd s1 (0 : Int32))))]))
  refine own_st (fun t k => XS.daddS X75.here hx rfl (hb hby at_134) rfl (z_2.2.nn) (v := (FP.dadd (FP.l2d da) (FP.dmul (FP.i2d qq) (4598175219545276416 : UInt64)))) (rfl) k) ?_
  show own_Run p e below s _ _ _ (T75.setTop (mkF m 135 #[.val (.long j0), .second, .val (.int i1), .val (.int i2), .val (.int i3), .val (.double (4618760256179416344 : UInt64)), .second, .val (.long sc), .second, .val (.int nv), .val (.double (own_sid (own_dd sc nv))), .second, .val (.int (1 : Int32)), .val (.double (own_sid (own_dd (946728000 : Int64) (0 : Int32)))), .second, .val (.int (1 : Int32)), .val (.int qq), .val (.long da), .second, .val (.double (own_sid (own_dd s1 (0 : Int32)))), .second, .unset, .unset, .unset, .unset, .unset, .unset, .unset, .unset, .unset, .unset, .unset, .unset] [(.double (FP.dadd (FP.l2d da) (FP.dmul (FP.i2d qq) (4598175219545276416 : UInt64)))), (.double (own_sid (own_dd s1 (0 : Int32))))]))
  refine own_callS X75 hx hZ (y := (⟨"com/example/swathplan/swathplan/orbit/Earth", "siderealAngleRad", "(D)D"⟩ : MethodName)) hown (hw _ (List.mem_of_getElem? (i := 77) rfl)) (hw _ (List.mem_of_getElem? (i := 58) rfl)) (hw _ (List.mem_of_getElem? (i := 59) rfl)) (hw _ (List.mem_of_getElem? (i := 39) rfl)) (by decide) hh75 (argsL := [(.double (FP.dadd (FP.l2d da) (FP.dmul (FP.i2d qq) (4598175219545276416 : UInt64))))]) (rest := [(.double (own_sid (own_dd s1 (0 : Int32))))]) (W := 2) (own_rm12 l Z a0 hw [] (FP.dadd (FP.l2d da) (FP.dmul (FP.i2d qq) (4598175219545276416 : UInt64))) T69.heap n0 (Nat.le_trans Z0 K73.1) (own_nq z_2.2 (by omega))) (by decide) (by decide) (by rw [hml]; rfl) (lenOf own_pd8 rfl) rfl (by exact Nat.le_of_eq rfl) (hb hby at_135) (by decide) (by decide) ?_
  intro T76 v76 L76 X76 hq76
  obtain ⟨rfl, N76q, hh76⟩ := hq76
  have N76 := Fr.app N75 N76q
  show own_Run p e below s _ _ _ (T76.setTop (mkF m 138 #[.val (.long j0), .second, .val (.int i1), .val (.int i2), .val (.int i3), .val (.double (4618760256179416344 : UInt64)), .second, .val (.long sc), .second, .val (.int nv), .val (.double (own_sid (own_dd sc nv))), .second, .val (.int (1 : Int32)), .val (.double (own_sid (own_dd (946728000 : Int64) (0 : Int32)))), .second, .val (.int (1 : Int32)), .val (.int qq), .val (.long da), .second, .val (.double (own_sid (own_dd s1 (0 : Int32)))), .second, .unset, .unset, .unset, .unset, .unset, .unset, .unset, .unset, .unset, .unset, .unset, .unset] [(.double (own_sid (FP.dadd (FP.l2d da) (FP.dmul (FP.i2d qq) (4598175219545276416 : UInt64))))), (.double (own_sid (own_dd s1 (0 : Int32))))]))
  refine own_st (fun t k => XS.dcmpS X76.here hx rfl (hb hby at_138) rfl (v := (0 : Int32)) (own_ovl r_qq r_da r_s1 z_1 z_2.2) k) ?_
  show own_Run p e below s _ _ _ (T76.setTop (mkF m 139 #[.val (.long j0), .second, .val (.int i1), .val (.int i2), .val (.int i3), .val (.double (4618760256179416344 : UInt64)), .second, .val (.long sc), .second, .val (.int nv), .val (.double (own_sid (own_dd sc nv))), .second, .val (.int (1 : Int32)), .val (.double (own_sid (own_dd (946728000 : Int64) (0 : Int32)))), .second, .val (.int (1 : Int32)), .val (.int qq), .val (.long da), .second, .val (.double (own_sid (own_dd s1 (0 : Int32)))), .second, .unset, .unset, .unset, .unset, .unset, .unset, .unset, .unset, .unset, .unset, .unset, .unset] [(.int (0 : Int32))]))
  refine own_st (fun t k => XS.ifNo X76.here hx rfl (hb hby at_139) rfl ((if0 _ _).trans (teq (by decide : (0 : Int32) = (0 : Int32))).2) k) ?_
  show own_Run p e below s _ _ _ (T76.setTop (mkF m 142 #[.val (.long j0), .second, .val (.int i1), .val (.int i2), .val (.int i3), .val (.double (4618760256179416344 : UInt64)), .second, .val (.long sc), .second, .val (.int nv), .val (.double (own_sid (own_dd sc nv))), .second, .val (.int (1 : Int32)), .val (.double (own_sid (own_dd (946728000 : Int64) (0 : Int32)))), .second, .val (.int (1 : Int32)), .val (.int qq), .val (.long da), .second, .val (.double (own_sid (own_dd s1 (0 : Int32)))), .second, .unset, .unset, .unset, .unset, .unset, .unset, .unset, .unset, .unset, .unset, .unset, .unset] []))
  refine own_st (fun t k => XS.iconst X76.here hx rfl (hb hby at_142) k) ?_
  show own_Run p e below s _ _ _ (T76.setTop (mkF m 143 #[.val (.long j0), .second, .val (.int i1), .val (.int i2), .val (.int i3), .val (.double (4618760256179416344 : UInt64)), .second, .val (.long sc), .second, .val (.int nv), .val (.double (own_sid (own_dd sc nv))), .second, .val (.int (1 : Int32)), .val (.double (own_sid (own_dd (946728000 : Int64) (0 : Int32)))), .second, .val (.int (1 : Int32)), .val (.int qq), .val (.long da), .second, .val (.double (own_sid (own_dd s1 (0 : Int32)))), .second, .unset, .unset, .unset, .unset, .unset, .unset, .unset, .unset, .unset, .unset, .unset, .unset] [(.int (1 : Int32))]))
  refine own_st (fun t k => XS.goto X76.here hx rfl (pc0 := 143) (pc' := 147) rfl (hb hby at_143) (by decide) (by decide) k) ?_
  show own_Run p e below s _ _ _ (T76.setTop (mkF m 147 #[.val (.long j0), .second, .val (.int i1), .val (.int i2), .val (.int i3), .val (.double (4618760256179416344 : UInt64)), .second, .val (.long sc), .second, .val (.int nv), .val (.double (own_sid (own_dd sc nv))), .second, .val (.int (1 : Int32)), .val (.double (own_sid (own_dd (946728000 : Int64) (0 : Int32)))), .second, .val (.int (1 : Int32)), .val (.int qq), .val (.long da), .second, .val (.double (own_sid (own_dd s1 (0 : Int32)))), .second, .unset, .unset, .unset, .unset, .unset, .unset, .unset, .unset, .unset, .unset, .unset, .unset] [(.int (1 : Int32))]))
  refine own_st (fun t k => XS.istore X76.here hx rfl (hb hby at_147) rfl (l' := #[.val (.long j0), .second, .val (.int i1), .val (.int i2), .val (.int i3), .val (.double (4618760256179416344 : UInt64)), .second, .val (.long sc), .second, .val (.int nv), .val (.double (own_sid (own_dd sc nv))), .second, .val (.int (1 : Int32)), .val (.double (own_sid (own_dd (946728000 : Int64) (0 : Int32)))), .second, .val (.int (1 : Int32)), .val (.int qq), .val (.long da), .second, .val (.double (own_sid (own_dd s1 (0 : Int32)))), .second, .val (.int (1 : Int32)), .unset, .unset, .unset, .unset, .unset, .unset, .unset, .unset, .unset, .unset, .unset]) rfl k) ?_
  show own_Run p e below s _ _ _ (T76.setTop (mkF m 149 #[.val (.long j0), .second, .val (.int i1), .val (.int i2), .val (.int i3), .val (.double (4618760256179416344 : UInt64)), .second, .val (.long sc), .second, .val (.int nv), .val (.double (own_sid (own_dd sc nv))), .second, .val (.int (1 : Int32)), .val (.double (own_sid (own_dd (946728000 : Int64) (0 : Int32)))), .second, .val (.int (1 : Int32)), .val (.int qq), .val (.long da), .second, .val (.double (own_sid (own_dd s1 (0 : Int32)))), .second, .val (.int (1 : Int32)), .unset, .unset, .unset, .unset, .unset, .unset, .unset, .unset, .unset, .unset, .unset] []))
  refine own_st (fun t k => XS.iloadN X76.here hx rfl (hb hby at_149) rfl k) ?_
  show own_Run p e below s _ _ _ (T76.setTop (mkF m 150 #[.val (.long j0), .second, .val (.int i1), .val (.int i2), .val (.int i3), .val (.double (4618760256179416344 : UInt64)), .second, .val (.long sc), .second, .val (.int nv), .val (.double (own_sid (own_dd sc nv))), .second, .val (.int (1 : Int32)), .val (.double (own_sid (own_dd (946728000 : Int64) (0 : Int32)))), .second, .val (.int (1 : Int32)), .val (.int qq), .val (.long da), .second, .val (.double (own_sid (own_dd s1 (0 : Int32)))), .second, .val (.int (1 : Int32)), .unset, .unset, .unset, .unset, .unset, .unset, .unset, .unset, .unset, .unset, .unset] [(.int i2)]))
  refine own_st (X76.ldcInt hx hown (mvT hZ (hw _ (List.mem_of_getElem? (i := 78) rfl))) (g := (mkF m 150 #[.val (.long j0), .second, .val (.int i1), .val (.int i2), .val (.int i3), .val (.double (4618760256179416344 : UInt64)), .second, .val (.long sc), .second, .val (.int nv), .val (.double (own_sid (own_dd sc nv))), .second, .val (.int (1 : Int32)), .val (.double (own_sid (own_dd (946728000 : Int64) (0 : Int32)))), .second, .val (.int (1 : Int32)), .val (.int qq), .val (.long da), .second, .val (.double (own_sid (own_dd s1 (0 : Int32)))), .second, .val (.int (1 : Int32)), .unset, .unset, .unset, .unset, .unset, .unset, .unset, .unset, .unset, .unset, .unset] [(.int i2)])) rfl (hb hby at_150)) ?_
  show own_Run p e below s _ _ _ (T76.setTop (mkF m 152 #[.val (.long j0), .second, .val (.int i1), .val (.int i2), .val (.int i3), .val (.double (4618760256179416344 : UInt64)), .second, .val (.long sc), .second, .val (.int nv), .val (.double (own_sid (own_dd sc nv))), .second, .val (.int (1 : Int32)), .val (.double (own_sid (own_dd (946728000 : Int64) (0 : Int32)))), .second, .val (.int (1 : Int32)), .val (.int qq), .val (.long da), .second, .val (.double (own_sid (own_dd s1 (0 : Int32)))), .second, .val (.int (1 : Int32)), .unset, .unset, .unset, .unset, .unset, .unset, .unset, .unset, .unset, .unset, .unset] [(.int (100000 : Int32)), (.int i2)]))
  refine own_st (fun t k => iremM X76 hx rfl (hb hby at_152) rfl (by decide) k) ?_
  show own_Run p e below s _ _ _ (T76.setTop (mkF m 153 #[.val (.long j0), .second, .val (.int i1), .val (.int i2), .val (.int i3), .val (.double (4618760256179416344 : UInt64)), .second, .val (.long sc), .second, .val (.int nv), .val (.double (own_sid (own_dd sc nv))), .second, .val (.int (1 : Int32)), .val (.double (own_sid (own_dd (946728000 : Int64) (0 : Int32)))), .second, .val (.int (1 : Int32)), .val (.int qq), .val (.long da), .second, .val (.double (own_sid (own_dd s1 (0 : Int32)))), .second, .val (.int (1 : Int32)), .unset, .unset, .unset, .unset, .unset, .unset, .unset, .unset, .unset, .unset, .unset] [(.int (i2 % (100000 : Int32)))]))
  refine own_st (fun t k => XS.i2l X76.here hx rfl (hb hby at_153) rfl k) ?_
  show own_Run p e below s _ _ _ (T76.setTop (mkF m 154 #[.val (.long j0), .second, .val (.int i1), .val (.int i2), .val (.int i3), .val (.double (4618760256179416344 : UInt64)), .second, .val (.long sc), .second, .val (.int nv), .val (.double (own_sid (own_dd sc nv))), .second, .val (.int (1 : Int32)), .val (.double (own_sid (own_dd (946728000 : Int64) (0 : Int32)))), .second, .val (.int (1 : Int32)), .val (.int qq), .val (.long da), .second, .val (.double (own_sid (own_dd s1 (0 : Int32)))), .second, .val (.int (1 : Int32)), .unset, .unset, .unset, .unset, .unset, .unset, .unset, .unset, .unset, .unset, .unset] [(.long ((i2 % (100000 : Int32)).toInt64))]))
  obtain ⟨db, h_db⟩ : ∃ z, (((i2 % (100000 : Int32)).toInt64) : Int64) = z := ⟨_, rfl⟩
  refine own_topJ h_db ?_
  show own_Run p e below s _ _ _ (T76.setTop (mkF m 154 #[.val (.long j0), .second, .val (.int i1), .val (.int i2), .val (.int i3), .val (.double (4618760256179416344 : UInt64)), .second, .val (.long sc), .second, .val (.int nv), .val (.double (own_sid (own_dd sc nv))), .second, .val (.int (1 : Int32)), .val (.double (own_sid (own_dd (946728000 : Int64) (0 : Int32)))), .second, .val (.int (1 : Int32)), .val (.int qq), .val (.long da), .second, .val (.double (own_sid (own_dd s1 (0 : Int32)))), .second, .val (.int (1 : Int32)), .unset, .unset, .unset, .unset, .unset, .unset, .unset, .unset, .unset, .unset, .unset] [(.long db)]))
  have r_db : db.toInt.natAbs ≤ 99999 := own_db h_db
  refine own_st (fun t k => XS.lstore X76.here hx rfl (hb hby at_154) rfl (l' := #[.val (.long j0), .second, .val (.int i1), .val (.int i2), .val (.int i3), .val (.double (4618760256179416344 : UInt64)), .second, .val (.long sc), .second, .val (.int nv), .val (.double (own_sid (own_dd sc nv))), .second, .val (.int (1 : Int32)), .val (.double (own_sid (own_dd (946728000 : Int64) (0 : Int32)))), .second, .val (.int (1 : Int32)), .val (.int qq), .val (.long da), .second, .val (.double (own_sid (own_dd s1 (0 : Int32)))), .second, .val (.int (1 : Int32)), .val (.long db), .second, .unset, .unset, .unset, .unset, .unset, .unset, .unset, .unset, .unset]) rfl k) ?_
  show own_Run p e below s _ _ _ (T76.setTop (mkF m 156 #[.val (.long j0), .second, .val (.int i1), .val (.int i2), .val (.int i3), .val (.double (4618760256179416344 : UInt64)), .second, .val (.long sc), .second, .val (.int nv), .val (.double (own_sid (own_dd sc nv))), .second, .val (.int (1 : Int32)), .val (.double (own_sid (own_dd (946728000 : Int64) (0 : Int32)))), .second, .val (.int (1 : Int32)), .val (.int qq), .val (.long da), .second, .val (.double (own_sid (own_dd s1 (0 : Int32)))), .second, .val (.int (1 : Int32)), .val (.long db), .second, .unset, .unset, .unset, .unset, .unset, .unset, .unset, .unset, .unset] []))
  refine own_st (X76.ldc2Long hx hown (mvT hZ (hw _ (List.mem_of_getElem? (i := 68) rfl))) (g := (mkF m 156 #[.val (.long j0), .second, .val (.int i1), .val (.int i2), .val (.int i3), .val (.double (4618760256179416344 : UInt64)), .second, .val (.long sc), .second, .val (.int nv), .val (.double (own_sid (own_dd sc nv))), .second, .val (.int (1 : Int32)), .val (.double (own_sid (own_dd (946728000 : Int64) (0 : Int32)))), .second, .val (.int (1 : Int32)), .val (.int qq), .val (.long da), .second, .val (.double (own_sid (own_dd s1 (0 : Int32)))), .second, .val (.int (1 : Int32)), .val (.long db), .second, .unset, .unset, .unset, .unset, .unset, .unset, .unset, .unset, .unset] [])) rfl (hb hby at_156)) ?_
  show own_Run p e below s _ _ _ (T76.setTop (mkF m 159 #[.val (.long j0), .second, .val (.int i1), .val (.int i2), .val (.int i3), .val (.double (4618760256179416344 : UInt64)), .second, .val (.long sc), .second, .val (.int nv), .val (.double (own_sid (own_dd sc nv))), .second, .val (.int (1 : Int32)), .val (.double (own_sid (own_dd (946728000 : Int64) (0 : Int32)))), .second, .val (.int (1 : Int32)), .val (.int qq), .val (.long da), .second, .val (.double (own_sid (own_dd s1 (0 : Int32)))), .second, .val (.int (1 : Int32)), .val (.long db), .second, .unset, .unset, .unset, .unset, .unset, .unset, .unset, .unset, .unset] [(.long (946728000 : Int64))]))
  refine own_st (X76.ldc2Long hx hown (mvT hZ (hw _ (List.mem_of_getElem? (i := 74) rfl))) (g := (mkF m 159 #[.val (.long j0), .second, .val (.int i1), .val (.int i2), .val (.int i3), .val (.double (4618760256179416344 : UInt64)), .second, .val (.long sc), .second, .val (.int nv), .val (.double (own_sid (own_dd sc nv))), .second, .val (.int (1 : Int32)), .val (.double (own_sid (own_dd (946728000 : Int64) (0 : Int32)))), .second, .val (.int (1 : Int32)), .val (.int qq), .val (.long da), .second, .val (.double (own_sid (own_dd s1 (0 : Int32)))), .second, .val (.int (1 : Int32)), .val (.long db), .second, .unset, .unset, .unset, .unset, .unset, .unset, .unset, .unset, .unset] [(.long (946728000 : Int64))])) rfl (hb hby at_159)) ?_
  show own_Run p e below s _ _ _ (T76.setTop (mkF m 162 #[.val (.long j0), .second, .val (.int i1), .val (.int i2), .val (.int i3), .val (.double (4618760256179416344 : UInt64)), .second, .val (.long sc), .second, .val (.int nv), .val (.double (own_sid (own_dd sc nv))), .second, .val (.int (1 : Int32)), .val (.double (own_sid (own_dd (946728000 : Int64) (0 : Int32)))), .second, .val (.int (1 : Int32)), .val (.int qq), .val (.long da), .second, .val (.double (own_sid (own_dd s1 (0 : Int32)))), .second, .val (.int (1 : Int32)), .val (.long db), .second, .unset, .unset, .unset, .unset, .unset, .unset, .unset, .unset, .unset] [(.long (86400 : Int64)), (.long (946728000 : Int64))]))
  refine own_st (fun t k => XS.lload X76.here hx rfl (hb hby at_162) rfl k) ?_
  show own_Run p e below s _ _ _ (T76.setTop (mkF m 164 #[.val (.long j0), .second, .val (.int i1), .val (.int i2), .val (.int i3), .val (.double (4618760256179416344 : UInt64)), .second, .val (.long sc), .second, .val (.int nv), .val (.double (own_sid (own_dd sc nv))), .second, .val (.int (1 : Int32)), .val (.double (own_sid (own_dd (946728000 : Int64) (0 : Int32)))), .second, .val (.int (1 : Int32)), .val (.int qq), .val (.long da), .second, .val (.double (own_sid (own_dd s1 (0 : Int32)))), .second, .val (.int (1 : Int32)), .val (.long db), .second, .unset, .unset, .unset, .unset, .unset, .unset, .unset, .unset, .unset] [(.long db), (.long (86400 : Int64)), (.long (946728000 : Int64))]))
  refine own_st (fun t k => XS.lmul X76.here hx rfl (hb hby at_164) rfl k) ?_
  show own_Run p e below s _ _ _ (T76.setTop (mkF m 165 #[.val (.long j0), .second, .val (.int i1), .val (.int i2), .val (.int i3), .val (.double (4618760256179416344 : UInt64)), .second, .val (.long sc), .second, .val (.int nv), .val (.double (own_sid (own_dd sc nv))), .second, .val (.int (1 : Int32)), .val (.double (own_sid (own_dd (946728000 : Int64) (0 : Int32)))), .second, .val (.int (1 : Int32)), .val (.int qq), .val (.long da), .second, .val (.double (own_sid (own_dd s1 (0 : Int32)))), .second, .val (.int (1 : Int32)), .val (.long db), .second, .unset, .unset, .unset, .unset, .unset, .unset, .unset, .unset, .unset] [(.long ((86400 : Int64) * db)), (.long (946728000 : Int64))]))
  refine own_st (fun t k => XS.ladd X76.here hx rfl (hb hby at_165) rfl k) ?_
  show own_Run p e below s _ _ _ (T76.setTop (mkF m 166 #[.val (.long j0), .second, .val (.int i1), .val (.int i2), .val (.int i3), .val (.double (4618760256179416344 : UInt64)), .second, .val (.long sc), .second, .val (.int nv), .val (.double (own_sid (own_dd sc nv))), .second, .val (.int (1 : Int32)), .val (.double (own_sid (own_dd (946728000 : Int64) (0 : Int32)))), .second, .val (.int (1 : Int32)), .val (.int qq), .val (.long da), .second, .val (.double (own_sid (own_dd s1 (0 : Int32)))), .second, .val (.int (1 : Int32)), .val (.long db), .second, .unset, .unset, .unset, .unset, .unset, .unset, .unset, .unset, .unset] [(.long ((946728000 : Int64) + ((86400 : Int64) * db)))]))
  refine own_st (X76.ldc2Long hx hown (mvT hZ (hw _ (List.mem_of_getElem? (i := 75) rfl))) (g := (mkF m 166 #[.val (.long j0), .second, .val (.int i1), .val (.int i2), .val (.int i3), .val (.double (4618760256179416344 : UInt64)), .second, .val (.long sc), .second, .val (.int nv), .val (.double (own_sid (own_dd sc nv))), .second, .val (.int (1 : Int32)), .val (.double (own_sid (own_dd (946728000 : Int64) (0 : Int32)))), .second, .val (.int (1 : Int32)), .val (.int qq), .val (.long da), .second, .val (.double (own_sid (own_dd s1 (0 : Int32)))), .second, .val (.int (1 : Int32)), .val (.long db), .second, .unset, .unset, .unset, .unset, .unset, .unset, .unset, .unset, .unset] [(.long ((946728000 : Int64) + ((86400 : Int64) * db)))])) rfl (hb hby at_166)) ?_
  show own_Run p e below s _ _ _ (T76.setTop (mkF m 169 #[.val (.long j0), .second, .val (.int i1), .val (.int i2), .val (.int i3), .val (.double (4618760256179416344 : UInt64)), .second, .val (.long sc), .second, .val (.int nv), .val (.double (own_sid (own_dd sc nv))), .second, .val (.int (1 : Int32)), .val (.double (own_sid (own_dd (946728000 : Int64) (0 : Int32)))), .second, .val (.int (1 : Int32)), .val (.int qq), .val (.long da), .second, .val (.double (own_sid (own_dd s1 (0 : Int32)))), .second, .val (.int (1 : Int32)), .val (.long db), .second, .unset, .unset, .unset, .unset, .unset, .unset, .unset, .unset, .unset] [(.long (21600 : Int64)), (.long ((946728000 : Int64) + ((86400 : Int64) * db)))]))
  refine own_st (fun t k => XS.iload X76.here hx rfl (hb hby at_169) rfl k) ?_
  show own_Run p e below s _ _ _ (T76.setTop (mkF m 171 #[.val (.long j0), .second, .val (.int i1), .val (.int i2), .val (.int i3), .val (.double (4618760256179416344 : UInt64)), .second, .val (.long sc), .second, .val (.int nv), .val (.double (own_sid (own_dd sc nv))), .second, .val (.int (1 : Int32)), .val (.double (own_sid (own_dd (946728000 : Int64) (0 : Int32)))), .second, .val (.int (1 : Int32)), .val (.int qq), .val (.long da), .second, .val (.double (own_sid (own_dd s1 (0 : Int32)))), .second, .val (.int (1 : Int32)), .val (.long db), .second, .unset, .unset, .unset, .unset, .unset, .unset, .unset, .unset, .unset] [(.int qq), (.long (21600 : Int64)), (.long ((946728000 : Int64) + ((86400 : Int64) * db)))]))
  refine own_st (fun t k => XS.i2l X76.here hx rfl (hb hby at_171) rfl k) ?_
  show own_Run p e below s _ _ _ (T76.setTop (mkF m 172 #[.val (.long j0), .second, .val (.int i1), .val (.int i2), .val (.int i3), .val (.double (4618760256179416344 : UInt64)), .second, .val (.long sc), .second, .val (.int nv), .val (.double (own_sid (own_dd sc nv))), .second, .val (.int (1 : Int32)), .val (.double (own_sid (own_dd (946728000 : Int64) (0 : Int32)))), .second, .val (.int (1 : Int32)), .val (.int qq), .val (.long da), .second, .val (.double (own_sid (own_dd s1 (0 : Int32)))), .second, .val (.int (1 : Int32)), .val (.long db), .second, .unset, .unset, .unset, .unset, .unset, .unset, .unset, .unset, .unset] [(.long (qq.toInt64)), (.long (21600 : Int64)), (.long ((946728000 : Int64) + ((86400 : Int64) * db)))]))
  refine own_st (fun t k => XS.lmul X76.here hx rfl (hb hby at_172) rfl k) ?_
  show own_Run p e below s _ _ _ (T76.setTop (mkF m 173 #[.val (.long j0), .second, .val (.int i1), .val (.int i2), .val (.int i3), .val (.double (4618760256179416344 : UInt64)), .second, .val (.long sc), .second, .val (.int nv), .val (.double (own_sid (own_dd sc nv))), .second, .val (.int (1 : Int32)), .val (.double (own_sid (own_dd (946728000 : Int64) (0 : Int32)))), .second, .val (.int (1 : Int32)), .val (.int qq), .val (.long da), .second, .val (.double (own_sid (own_dd s1 (0 : Int32)))), .second, .val (.int (1 : Int32)), .val (.long db), .second, .unset, .unset, .unset, .unset, .unset, .unset, .unset, .unset, .unset] [(.long ((21600 : Int64) * (qq.toInt64))), (.long ((946728000 : Int64) + ((86400 : Int64) * db)))]))
  refine own_st (fun t k => XS.ladd X76.here hx rfl (hb hby at_173) rfl k) ?_
  show own_Run p e below s _ _ _ (T76.setTop (mkF m 174 #[.val (.long j0), .second, .val (.int i1), .val (.int i2), .val (.int i3), .val (.double (4618760256179416344 : UInt64)), .second, .val (.long sc), .second, .val (.int nv), .val (.double (own_sid (own_dd sc nv))), .second, .val (.int (1 : Int32)), .val (.double (own_sid (own_dd (946728000 : Int64) (0 : Int32)))), .second, .val (.int (1 : Int32)), .val (.int qq), .val (.long da), .second, .val (.double (own_sid (own_dd s1 (0 : Int32)))), .second, .val (.int (1 : Int32)), .val (.long db), .second, .unset, .unset, .unset, .unset, .unset, .unset, .unset, .unset, .unset] [(.long (((946728000 : Int64) + ((86400 : Int64) * db)) + ((21600 : Int64) * (qq.toInt64))))]))
  obtain ⟨s2, h_s2⟩ : ∃ z, ((((946728000 : Int64) + ((86400 : Int64) * db)) + ((21600 : Int64) * (qq.toInt64))) : Int64) = z := ⟨_, rfl⟩
  refine own_topJ h_s2 ?_
  show own_Run p e below s _ _ _ (T76.setTop (mkF m 174 #[.val (.long j0), .second, .val (.int i1), .val (.int i2), .val (.int i3), .val (.double (4618760256179416344 : UInt64)), .second, .val (.long sc), .second, .val (.int nv), .val (.double (own_sid (own_dd sc nv))), .second, .val (.int (1 : Int32)), .val (.double (own_sid (own_dd (946728000 : Int64) (0 : Int32)))), .second, .val (.int (1 : Int32)), .val (.int qq), .val (.long da), .second, .val (.double (own_sid (own_dd s1 (0 : Int32)))), .second, .val (.int (1 : Int32)), .val (.long db), .second, .unset, .unset, .unset, .unset, .unset, .unset, .unset, .unset, .unset] [(.long s2)]))
  have r_s2 := own_s1 r_qq (by omega) h_s2
  have g_2 := own_dayz r_s2 (by omega)
  have z_3 := own_dayq r_s2 (by omega)
  refine own_st (fun t k => XS.lstore X76.here hx rfl (hb hby at_174) rfl (l' := #[.val (.long j0), .second, .val (.int i1), .val (.int i2), .val (.int i3), .val (.double (4618760256179416344 : UInt64)), .second, .val (.long sc), .second, .val (.int nv), .val (.double (own_sid (own_dd sc nv))), .second, .val (.int (1 : Int32)), .val (.double (own_sid (own_dd (946728000 : Int64) (0 : Int32)))), .second, .val (.int (1 : Int32)), .val (.int qq), .val (.long da), .second, .val (.double (own_sid (own_dd s1 (0 : Int32)))), .second, .val (.int (1 : Int32)), .val (.long db), .second, .val (.long s2), .second, .unset, .unset, .unset, .unset, .unset, .unset, .unset]) rfl k) ?_
  show own_Run p e below s _ _ _ (T76.setTop (mkF m 176 #[.val (.long j0), .second, .val (.int i1), .val (.int i2), .val (.int i3), .val (.double (4618760256179416344 : UInt64)), .second, .val (.long sc), .second, .val (.int nv), .val (.double (own_sid (own_dd sc nv))), .second, .val (.int (1 : Int32)), .val (.double (own_sid (own_dd (946728000 : Int64) (0 : Int32)))), .second, .val (.int (1 : Int32)), .val (.int qq), .val (.long da), .second, .val (.double (own_sid (own_dd s1 (0 : Int32)))), .second, .val (.int (1 : Int32)), .val (.long db), .second, .val (.long s2), .second, .unset, .unset, .unset, .unset, .unset, .unset, .unset] []))
  refine own_st (fun t k => XS.lload X76.here hx rfl (hb hby at_176) rfl k) ?_
  show own_Run p e below s _ _ _ (T76.setTop (mkF m 178 #[.val (.long j0), .second, .val (.int i1), .val (.int i2), .val (.int i3), .val (.double (4618760256179416344 : UInt64)), .second, .val (.long sc), .second, .val (.int nv), .val (.double (own_sid (own_dd sc nv))), .second, .val (.int (1 : Int32)), .val (.double (own_sid (own_dd (946728000 : Int64) (0 : Int32)))), .second, .val (.int (1 : Int32)), .val (.int qq), .val (.long da), .second, .val (.double (own_sid (own_dd s1 (0 : Int32)))), .second, .val (.int (1 : Int32)), .val (.long db), .second, .val (.long s2), .second, .unset, .unset, .unset, .unset, .unset, .unset, .unset] [(.long s2)]))
  have E77 := (E66.keep K69q)
  have F78 := (F67.keep K69q nin0)
  have F79 := (F68.keep K69q nin0)
  refine own_callS X76 hx hZ (y := (⟨"java/time/Instant", "ofEpochSecond", "(J)Ljava/time/Instant;"⟩ : MethodName)) hown (hw _ (List.mem_of_getElem? (i := 69) rfl)) (hw _ (List.mem_of_getElem? (i := 70) rfl)) (hw _ (List.mem_of_getElem? (i := 71) rfl)) (hw _ (List.mem_of_getElem? (i := 6) rfl)) (by decide) hh76 (argsL := [(.long s2)]) (rest := []) (W := 0) (own_rm13 l Z a0 hw [] s2 t_E T69.heap n0 (Nat.le_trans Z0 K73.1) O74 S_E E77 F78 F79 (⟨by omega, by omega⟩)) (by decide) (by decide) (by rw [hml]; rfl) (lenOf own_pd10 rfl) rfl (by exact Nat.le_of_eq rfl) (hb hby at_178) (by decide) (by decide) ?_
  intro T80 v80 L80 X80 hq80
  obtain ⟨b80, rfl, N80q, K80q, Q81, Q82, Q83⟩ := hq80
  have K84 : Keep h0 T80.heap [] := K73.trans K80q all0
  have O85 := O74.keep K80q all0
  have N80 := Fr.app N76 N80q
  show own_Run p e below s _ _ _ (T80.setTop (mkF m 181 #[.val (.long j0), .second, .val (.int i1), .val (.int i2), .val (.int i3), .val (.double (4618760256179416344 : UInt64)), .second, .val (.long sc), .second, .val (.int nv), .val (.double (own_sid (own_dd sc nv))), .second, .val (.int (1 : Int32)), .val (.double (own_sid (own_dd (946728000 : Int64) (0 : Int32)))), .second, .val (.int (1 : Int32)), .val (.int qq), .val (.long da), .second, .val (.double (own_sid (own_dd s1 (0 : Int32)))), .second, .val (.int (1 : Int32)), .val (.long db), .second, .val (.long s2), .second, .unset, .unset, .unset, .unset, .unset, .unset, .unset] [(.ref b80)]))
  refine own_callS X80 hx hZ (y := (⟨"com/example/swathplan/swathplan/orbit/Earth", "siderealAngleRad", "(Ljava/time/Instant;)D"⟩ : MethodName)) hown (hw _ (List.mem_of_getElem? (i := 37) rfl)) (hw _ (List.mem_of_getElem? (i := 38) rfl)) (hw _ (List.mem_of_getElem? (i := 40) rfl)) (hw _ (List.mem_of_getElem? (i := 39) rfl)) (by decide) rfl (argsL := [(.ref b80)]) (rest := []) (W := 0) (own_rm8 l Z a0 hw [] b80 s2 (0 : Int32) T80.heap n0 (Nat.le_trans Z0 K84.1) Q81 Q82 Q83 (g_2.1) (g_2.2.1) (g_2.2.2.1) ((own_sidok g_2.2.2.2.1 g_2.2.2.2.2.1 g_2.2.2.2.2.2).1)) (by decide) (by decide) (by rw [hml]; rfl) (lenOf own_pd7 rfl) rfl (by exact Nat.le_of_eq rfl) (hb hby at_181) (by decide) (by decide) ?_
  intro T86 v86 L86 X86 hq86
  obtain ⟨rfl, N86q, hh86⟩ := hq86
  have N86 := Fr.app N80 N86q
  show own_Run p e below s _ _ _ (T86.setTop (mkF m 184 #[.val (.long j0), .second, .val (.int i1), .val (.int i2), .val (.int i3), .val (.double (4618760256179416344 : UInt64)), .second, .val (.long sc), .second, .val (.int nv), .val (.double (own_sid (own_dd sc nv))), .second, .val (.int (1 : Int32)), .val (.double (own_sid (own_dd (946728000 : Int64) (0 : Int32)))), .second, .val (.int (1 : Int32)), .val (.int qq), .val (.long da), .second, .val (.double (own_sid (own_dd s1 (0 : Int32)))), .second, .val (.int (1 : Int32)), .val (.long db), .second, .val (.long s2), .second, .unset, .unset, .unset, .unset, .unset, .unset, .unset] [(.double (own_sid (own_dd s2 (0 : Int32))))]))
  refine own_st (fun t k => XS.dstore X86.here hx rfl (hb hby at_184) rfl (l' := #[.val (.long j0), .second, .val (.int i1), .val (.int i2), .val (.int i3), .val (.double (4618760256179416344 : UInt64)), .second, .val (.long sc), .second, .val (.int nv), .val (.double (own_sid (own_dd sc nv))), .second, .val (.int (1 : Int32)), .val (.double (own_sid (own_dd (946728000 : Int64) (0 : Int32)))), .second, .val (.int (1 : Int32)), .val (.int qq), .val (.long da), .second, .val (.double (own_sid (own_dd s1 (0 : Int32)))), .second, .val (.int (1 : Int32)), .val (.long db), .second, .val (.long s2), .second, .val (.double (own_sid (own_dd s2 (0 : Int32)))), .second, .unset, .unset, .unset, .unset, .unset]) rfl k) ?_
  show own_Run p e below s _ _ _ (T86.setTop (mkF m 186 #[.val (.long j0), .second, .val (.int i1), .val (.int i2), .val (.int i3), .val (.double (4618760256179416344 : UInt64)), .second, .val (.long sc), .second, .val (.int nv), .val (.double (own_sid (own_dd sc nv))), .second, .val (.int (1 : Int32)), .val (.double (own_sid (own_dd (946728000 : Int64) (0 : Int32)))), .second, .val (.int (1 : Int32)), .val (.int qq), .val (.long da), .second, .val (.double (own_sid (own_dd s1 (0 : Int32)))), .second, .val (.int (1 : Int32)), .val (.long db), .second, .val (.long s2), .second, .val (.double (own_sid (own_dd s2 (0 : Int32)))), .second, .unset, .unset, .unset, .unset, .unset] []))
  refine own_st (fun t k => XS.lload X86.here hx rfl (hb hby at_186) rfl k) ?_
  show own_Run p e below s _ _ _ (T86.setTop (mkF m 188 #[.val (.long j0), .second, .val (.int i1), .val (.int i2), .val (.int i3), .val (.double (4618760256179416344 : UInt64)), .second, .val (.long sc), .second, .val (.int nv), .val (.double (own_sid (own_dd sc nv))), .second, .val (.int (1 : Int32)), .val (.double (own_sid (own_dd (946728000 : Int64) (0 : Int32)))), .second, .val (.int (1 : Int32)), .val (.int qq), .val (.long da), .second, .val (.double (own_sid (own_dd s1 (0 : Int32)))), .second, .val (.int (1 : Int32)), .val (.long db), .second, .val (.long s2), .second, .val (.double (own_sid (own_dd s2 (0 : Int32)))), .second, .unset, .unset, .unset, .unset, .unset] [(.long s2)]))
  refine own_st (X86.ldc2Long hx hown (mvT hZ (hw _ (List.mem_of_getElem? (i := 74) rfl))) (g := (mkF m 188 #[.val (.long j0), .second, .val (.int i1), .val (.int i2), .val (.int i3), .val (.double (4618760256179416344 : UInt64)), .second, .val (.long sc), .second, .val (.int nv), .val (.double (own_sid (own_dd sc nv))), .second, .val (.int (1 : Int32)), .val (.double (own_sid (own_dd (946728000 : Int64) (0 : Int32)))), .second, .val (.int (1 : Int32)), .val (.int qq), .val (.long da), .second, .val (.double (own_sid (own_dd s1 (0 : Int32)))), .second, .val (.int (1 : Int32)), .val (.long db), .second, .val (.long s2), .second, .val (.double (own_sid (own_dd s2 (0 : Int32)))), .second, .unset, .unset, .unset, .unset, .unset] [(.long s2)])) rfl (hb hby at_188)) ?_
  show own_Run p e below s _ _ _ (T86.setTop (mkF m 191 #[.val (.long j0), .second, .val (.int i1), .val (.int i2), .val (.int i3), .val (.double (4618760256179416344 : UInt64)), .second, .val (.long sc), .second, .val (.int nv), .val (.double (own_sid (own_dd sc nv))), .second, .val (.int (1 : Int32)), .val (.double (own_sid (own_dd (946728000 : Int64) (0 : Int32)))), .second, .val (.int (1 : Int32)), .val (.int qq), .val (.long da), .second, .val (.double (own_sid (own_dd s1 (0 : Int32)))), .second, .val (.int (1 : Int32)), .val (.long db), .second, .val (.long s2), .second, .val (.double (own_sid (own_dd s2 (0 : Int32)))), .second, .unset, .unset, .unset, .unset, .unset] [(.long (86400 : Int64)), (.long s2)]))
  refine own_st (fun t k => XS.ladd X86.here hx rfl (hb hby at_191) rfl k) ?_
  show own_Run p e below s _ _ _ (T86.setTop (mkF m 192 #[.val (.long j0), .second, .val (.int i1), .val (.int i2), .val (.int i3), .val (.double (4618760256179416344 : UInt64)), .second, .val (.long sc), .second, .val (.int nv), .val (.double (own_sid (own_dd sc nv))), .second, .val (.int (1 : Int32)), .val (.double (own_sid (own_dd (946728000 : Int64) (0 : Int32)))), .second, .val (.int (1 : Int32)), .val (.int qq), .val (.long da), .second, .val (.double (own_sid (own_dd s1 (0 : Int32)))), .second, .val (.int (1 : Int32)), .val (.long db), .second, .val (.long s2), .second, .val (.double (own_sid (own_dd s2 (0 : Int32)))), .second, .unset, .unset, .unset, .unset, .unset] [(.long (s2 + (86400 : Int64)))]))
  obtain ⟨s3, h_s3⟩ : ∃ z, ((s2 + (86400 : Int64)) : Int64) = z := ⟨_, rfl⟩
  refine own_topJ h_s3 ?_
  show own_Run p e below s _ _ _ (T86.setTop (mkF m 192 #[.val (.long j0), .second, .val (.int i1), .val (.int i2), .val (.int i3), .val (.double (4618760256179416344 : UInt64)), .second, .val (.long sc), .second, .val (.int nv), .val (.double (own_sid (own_dd sc nv))), .second, .val (.int (1 : Int32)), .val (.double (own_sid (own_dd (946728000 : Int64) (0 : Int32)))), .second, .val (.int (1 : Int32)), .val (.int qq), .val (.long da), .second, .val (.double (own_sid (own_dd s1 (0 : Int32)))), .second, .val (.int (1 : Int32)), .val (.long db), .second, .val (.long s2), .second, .val (.double (own_sid (own_dd s2 (0 : Int32)))), .second, .unset, .unset, .unset, .unset, .unset] [(.long s3)]))
  have r_s3 := own_s3 r_s2 (by omega) h_s3
  have g_3 := own_dayz r_s3 (by omega)
  have z_4 := own_dayq r_s3 (by omega)
  have rt := own_rateq z_3 z_4 (by omega)
  have E87 := (E77.keep K80q)
  have F88 := (F78.keep K80q nin0)
  have F89 := (F79.keep K80q nin0)
  refine own_callS X86 hx hZ (y := (⟨"java/time/Instant", "ofEpochSecond", "(J)Ljava/time/Instant;"⟩ : MethodName)) hown (hw _ (List.mem_of_getElem? (i := 69) rfl)) (hw _ (List.mem_of_getElem? (i := 70) rfl)) (hw _ (List.mem_of_getElem? (i := 71) rfl)) (hw _ (List.mem_of_getElem? (i := 6) rfl)) (by decide) hh86 (argsL := [(.long s3)]) (rest := []) (W := 0) (own_rm13 l Z a0 hw [] s3 t_E T80.heap n0 (Nat.le_trans Z0 K84.1) O85 S_E E87 F88 F89 (⟨by omega, by omega⟩)) (by decide) (by decide) (by rw [hml]; rfl) (lenOf own_pd10 rfl) rfl (by exact Nat.le_of_eq rfl) (hb hby at_192) (by decide) (by decide) ?_
  intro T90 v90 L90 X90 hq90
  obtain ⟨b90, rfl, N90q, K90q, Q91, Q92, Q93⟩ := hq90
  have K94 : Keep h0 T90.heap [] := K84.trans K90q all0
  have O95 := O85.keep K90q all0
  have N90 := Fr.app N86 N90q
  show own_Run p e below s _ _ _ (T90.setTop (mkF m 195 #[.val (.long j0), .second, .val (.int i1), .val (.int i2), .val (.int i3), .val (.double (4618760256179416344 : UInt64)), .second, .val (.long sc), .second, .val (.int nv), .val (.double (own_sid (own_dd sc nv))), .second, .val (.int (1 : Int32)), .val (.double (own_sid (own_dd (946728000 : Int64) (0 : Int32)))), .second, .val (.int (1 : Int32)), .val (.int qq), .val (.long da), .second, .val (.double (own_sid (own_dd s1 (0 : Int32)))), .second, .val (.int (1 : Int32)), .val (.long db), .second, .val (.long s2), .second, .val (.double (own_sid (own_dd s2 (0 : Int32)))), .second, .unset, .unset, .unset, .unset, .unset] [(.ref b90)]))
  refine own_callS X90 hx hZ (y := (⟨"com/example/swathplan/swathplan/orbit/Earth", "siderealAngleRad", "(Ljava/time/Instant;)D"⟩ : MethodName)) hown (hw _ (List.mem_of_getElem? (i := 37) rfl)) (hw _ (List.mem_of_getElem? (i := 38) rfl)) (hw _ (List.mem_of_getElem? (i := 40) rfl)) (hw _ (List.mem_of_getElem? (i := 39) rfl)) (by decide) rfl (argsL := [(.ref b90)]) (rest := []) (W := 0) (own_rm8 l Z a0 hw [] b90 s3 (0 : Int32) T90.heap n0 (Nat.le_trans Z0 K94.1) Q91 Q92 Q93 (g_3.1) (g_3.2.1) (g_3.2.2.1) ((own_sidok g_3.2.2.2.1 g_3.2.2.2.2.1 g_3.2.2.2.2.2).1)) (by decide) (by decide) (by rw [hml]; rfl) (lenOf own_pd7 rfl) rfl (by exact Nat.le_of_eq rfl) (hb hby at_195) (by decide) (by decide) ?_
  intro T96 v96 L96 X96 hq96
  obtain ⟨rfl, N96q, hh96⟩ := hq96
  have N96 := Fr.app N90 N96q
  show own_Run p e below s _ _ _ (T96.setTop (mkF m 198 #[.val (.long j0), .second, .val (.int i1), .val (.int i2), .val (.int i3), .val (.double (4618760256179416344 : UInt64)), .second, .val (.long sc), .second, .val (.int nv), .val (.double (own_sid (own_dd sc nv))), .second, .val (.int (1 : Int32)), .val (.double (own_sid (own_dd (946728000 : Int64) (0 : Int32)))), .second, .val (.int (1 : Int32)), .val (.int qq), .val (.long da), .second, .val (.double (own_sid (own_dd s1 (0 : Int32)))), .second, .val (.int (1 : Int32)), .val (.long db), .second, .val (.long s2), .second, .val (.double (own_sid (own_dd s2 (0 : Int32)))), .second, .unset, .unset, .unset, .unset, .unset] [(.double (own_sid (own_dd s3 (0 : Int32))))]))
  refine own_st (fun t k => XS.dstore X96.here hx rfl (hb hby at_198) rfl (l' := #[.val (.long j0), .second, .val (.int i1), .val (.int i2), .val (.int i3), .val (.double (4618760256179416344 : UInt64)), .second, .val (.long sc), .second, .val (.int nv), .val (.double (own_sid (own_dd sc nv))), .second, .val (.int (1 : Int32)), .val (.double (own_sid (own_dd (946728000 : Int64) (0 : Int32)))), .second, .val (.int (1 : Int32)), .val (.int qq), .val (.long da), .second, .val (.double (own_sid (own_dd s1 (0 : Int32)))), .second, .val (.int (1 : Int32)), .val (.long db), .second, .val (.long s2), .second, .val (.double (own_sid (own_dd s2 (0 : Int32)))), .second, .val (.double (own_sid (own_dd s3 (0 : Int32)))), .second, .unset, .unset, .unset]) rfl k) ?_
  show own_Run p e below s _ _ _ (T96.setTop (mkF m 200 #[.val (.long j0), .second, .val (.int i1), .val (.int i2), .val (.int i3), .val (.double (4618760256179416344 : UInt64)), .second, .val (.long sc), .second, .val (.int nv), .val (.double (own_sid (own_dd sc nv))), .second, .val (.int (1 : Int32)), .val (.double (own_sid (own_dd (946728000 : Int64) (0 : Int32)))), .second, .val (.int (1 : Int32)), .val (.int qq), .val (.long da), .second, .val (.double (own_sid (own_dd s1 (0 : Int32)))), .second, .val (.int (1 : Int32)), .val (.long db), .second, .val (.long s2), .second, .val (.double (own_sid (own_dd s2 (0 : Int32)))), .second, .val (.double (own_sid (own_dd s3 (0 : Int32)))), .second, .unset, .unset, .unset] []))
  refine own_st (fun t k => XS.dload X96.here hx rfl (hb hby at_200) rfl k) ?_
  show own_Run p e below s _ _ _ (T96.setTop (mkF m 202 #[.val (.long j0), .second, .val (.int i1), .val (.int i2), .val (.int i3), .val (.double (4618760256179416344 : UInt64)), .second, .val (.long sc), .second, .val (.int nv), .val (.double (own_sid (own_dd sc nv))), .second, .val (.int (1 : Int32)), .val (.double (own_sid (own_dd (946728000 : Int64) (0 : Int32)))), .second, .val (.int (1 : Int32)), .val (.int qq), .val (.long da), .second, .val (.double (own_sid (own_dd s1 (0 : Int32)))), .second, .val (.int (1 : Int32)), .val (.long db), .second, .val (.long s2), .second, .val (.double (own_sid (own_dd s2 (0 : Int32)))), .second, .val (.double (own_sid (own_dd s3 (0 : Int32)))), .second, .unset, .unset, .unset] [(.double (own_sid (own_dd s3 (0 : Int32))))]))
  refine own_st (fun t k => XS.dload X96.here hx rfl (hb hby at_202) rfl k) ?_
  show own_Run p e below s _ _ _ (T96.setTop (mkF m 204 #[.val (.long j0), .second, .val (.int i1), .val (.int i2), .val (.int i3), .val (.double (4618760256179416344 : UInt64)), .second, .val (.long sc), .second, .val (.int nv), .val (.double (own_sid (own_dd sc nv))), .second, .val (.int (1 : Int32)), .val (.double (own_sid (own_dd (946728000 : Int64) (0 : Int32)))), .second, .val (.int (1 : Int32)), .val (.int qq), .val (.long da), .second, .val (.double (own_sid (own_dd s1 (0 : Int32)))), .second, .val (.int (1 : Int32)), .val (.long db), .second, .val (.long s2), .second, .val (.double (own_sid (own_dd s2 (0 : Int32)))), .second, .val (.double (own_sid (own_dd s3 (0 : Int32)))), .second, .unset, .unset, .unset] [(.double (own_sid (own_dd s2 (0 : Int32)))), (.double (own_sid (own_dd s3 (0 : Int32))))]))
  refine own_st (fun t k => XS.dsubS X96.here hx rfl (hb hby at_204) rfl (rt.1) (v := (FP.dsub (own_sid (own_dd s3 (0 : Int32))) (own_sid (own_dd s2 (0 : Int32))))) (rfl) k) ?_
  show own_Run p e below s _ _ _ (T96.setTop (mkF m 205 #[.val (.long j0), .second, .val (.int i1), .val (.int i2), .val (.int i3), .val (.double (4618760256179416344 : UInt64)), .second, .val (.long sc), .second, .val (.int nv), .val (.double (own_sid (own_dd sc nv))), .second, .val (.int (1 : Int32)), .val (.double (own_sid (own_dd (946728000 : Int64) (0 : Int32)))), .second, .val (.int (1 : Int32)), .val (.int qq), .val (.long da), .second, .val (.double (own_sid (own_dd s1 (0 : Int32)))), .second, .val (.int (1 : Int32)), .val (.long db), .second, .val (.long s2), .second, .val (.double (own_sid (own_dd s2 (0 : Int32)))), .second, .val (.double (own_sid (own_dd s3 (0 : Int32)))), .second, .unset, .unset, .unset] [(.double (FP.dsub (own_sid (own_dd s3 (0 : Int32))) (own_sid (own_dd s2 (0 : Int32)))))]))
  refine own_st (fun t k => XS.dstore X96.here hx rfl (hb hby at_205) rfl (l' := #[.val (.long j0), .second, .val (.int i1), .val (.int i2), .val (.int i3), .val (.double (4618760256179416344 : UInt64)), .second, .val (.long sc), .second, .val (.int nv), .val (.double (own_sid (own_dd sc nv))), .second, .val (.int (1 : Int32)), .val (.double (own_sid (own_dd (946728000 : Int64) (0 : Int32)))), .second, .val (.int (1 : Int32)), .val (.int qq), .val (.long da), .second, .val (.double (own_sid (own_dd s1 (0 : Int32)))), .second, .val (.int (1 : Int32)), .val (.long db), .second, .val (.long s2), .second, .val (.double (own_sid (own_dd s2 (0 : Int32)))), .second, .val (.double (own_sid (own_dd s3 (0 : Int32)))), .second, .val (.double (FP.dsub (own_sid (own_dd s3 (0 : Int32))) (own_sid (own_dd s2 (0 : Int32))))), .second, .unset]) rfl k) ?_
  show own_Run p e below s _ _ _ (T96.setTop (mkF m 207 #[.val (.long j0), .second, .val (.int i1), .val (.int i2), .val (.int i3), .val (.double (4618760256179416344 : UInt64)), .second, .val (.long sc), .second, .val (.int nv), .val (.double (own_sid (own_dd sc nv))), .second, .val (.int (1 : Int32)), .val (.double (own_sid (own_dd (946728000 : Int64) (0 : Int32)))), .second, .val (.int (1 : Int32)), .val (.int qq), .val (.long da), .second, .val (.double (own_sid (own_dd s1 (0 : Int32)))), .second, .val (.int (1 : Int32)), .val (.long db), .second, .val (.long s2), .second, .val (.double (own_sid (own_dd s2 (0 : Int32)))), .second, .val (.double (own_sid (own_dd s3 (0 : Int32)))), .second, .val (.double (FP.dsub (own_sid (own_dd s3 (0 : Int32))) (own_sid (own_dd s2 (0 : Int32))))), .second, .unset] []))
  refine own_st (fun t k => XS.dload X96.here hx rfl (hb hby at_207) rfl k) ?_
  show own_Run p e below s _ _ _ (T96.setTop (mkF m 209 #[.val (.long j0), .second, .val (.int i1), .val (.int i2), .val (.int i3), .val (.double (4618760256179416344 : UInt64)), .second, .val (.long sc), .second, .val (.int nv), .val (.double (own_sid (own_dd sc nv))), .second, .val (.int (1 : Int32)), .val (.double (own_sid (own_dd (946728000 : Int64) (0 : Int32)))), .second, .val (.int (1 : Int32)), .val (.int qq), .val (.long da), .second, .val (.double (own_sid (own_dd s1 (0 : Int32)))), .second, .val (.int (1 : Int32)), .val (.long db), .second, .val (.long s2), .second, .val (.double (own_sid (own_dd s2 (0 : Int32)))), .second, .val (.double (own_sid (own_dd s3 (0 : Int32)))), .second, .val (.double (FP.dsub (own_sid (own_dd s3 (0 : Int32))) (own_sid (own_dd s2 (0 : Int32))))), .second, .unset] [(.double (FP.dsub (own_sid (own_dd s3 (0 : Int32))) (own_sid (own_dd s2 (0 : Int32)))))]))
  refine own_st (fun t k => XS.dconst0 X96.here hx rfl (hb hby at_209) (v := 0) rfl k) ?_
  show own_Run p e below s _ _ _ (T96.setTop (mkF m 210 #[.val (.long j0), .second, .val (.int i1), .val (.int i2), .val (.int i3), .val (.double (4618760256179416344 : UInt64)), .second, .val (.long sc), .second, .val (.int nv), .val (.double (own_sid (own_dd sc nv))), .second, .val (.int (1 : Int32)), .val (.double (own_sid (own_dd (946728000 : Int64) (0 : Int32)))), .second, .val (.int (1 : Int32)), .val (.int qq), .val (.long da), .second, .val (.double (own_sid (own_dd s1 (0 : Int32)))), .second, .val (.int (1 : Int32)), .val (.long db), .second, .val (.long s2), .second, .val (.double (own_sid (own_dd s2 (0 : Int32)))), .second, .val (.double (own_sid (own_dd s3 (0 : Int32)))), .second, .val (.double (FP.dsub (own_sid (own_dd s3 (0 : Int32))) (own_sid (own_dd s2 (0 : Int32))))), .second, .unset] [(.double (0 : UInt64)), (.double (FP.dsub (own_sid (own_dd s3 (0 : Int32))) (own_sid (own_dd s2 (0 : Int32)))))]))
  refine own_st (fun t k => XS.dcmpS X96.here hx rfl (hb hby at_210) rfl (v := (cmpValue (FP.dcmp (FP.dsub (own_sid (own_dd s3 (0 : Int32))) (own_sid (own_dd s2 (0 : Int32)))) (0 : UInt64)) .g)) (rfl) k) ?_
  show own_Run p e below s _ _ _ (T96.setTop (mkF m 211 #[.val (.long j0), .second, .val (.int i1), .val (.int i2), .val (.int i3), .val (.double (4618760256179416344 : UInt64)), .second, .val (.long sc), .second, .val (.int nv), .val (.double (own_sid (own_dd sc nv))), .second, .val (.int (1 : Int32)), .val (.double (own_sid (own_dd (946728000 : Int64) (0 : Int32)))), .second, .val (.int (1 : Int32)), .val (.int qq), .val (.long da), .second, .val (.double (own_sid (own_dd s1 (0 : Int32)))), .second, .val (.int (1 : Int32)), .val (.long db), .second, .val (.long s2), .second, .val (.double (own_sid (own_dd s2 (0 : Int32)))), .second, .val (.double (own_sid (own_dd s3 (0 : Int32)))), .second, .val (.double (FP.dsub (own_sid (own_dd s3 (0 : Int32))) (own_sid (own_dd s2 (0 : Int32))))), .second, .unset] [(.int (cmpValue (FP.dcmp (FP.dsub (own_sid (own_dd s3 (0 : Int32))) (own_sid (own_dd s2 (0 : Int32)))) (0 : UInt64)) .g))]))
  by_cases hD : (cmpValue (FP.dcmp (FP.dsub (own_sid (own_dd s3 (0 : Int32))) (own_sid (own_dd s2 (0 : Int32)))) (0 : UInt64)) .g) < (0 : Int32)
  · skip
    refine own_st (fun t k => XS.ifNo X96.here hx rfl (hb hby at_211) rfl ((if0 _ _).trans (tlt (hD : (cmpValue (FP.dcmp (FP.dsub (own_sid (own_dd s3 (0 : Int32))) (own_sid (own_dd s2 (0 : Int32)))) (0 : UInt64)) .g) < (0 : Int32))).2.1) k) ?_
    show own_Run p e below s _ _ _ (T96.setTop (mkF m 214 #[.val (.long j0), .second, .val (.int i1), .val (.int i2), .val (.int i3), .val (.double (4618760256179416344 : UInt64)), .second, .val (.long sc), .second, .val (.int nv), .val (.double (own_sid (own_dd sc nv))), .second, .val (.int (1 : Int32)), .val (.double (own_sid (own_dd (946728000 : Int64) (0 : Int32)))), .second, .val (.int (1 : Int32)), .val (.int qq), .val (.long da), .second, .val (.double (own_sid (own_dd s1 (0 : Int32)))), .second, .val (.int (1 : Int32)), .val (.long db), .second, .val (.long s2), .second, .val (.double (own_sid (own_dd s2 (0 : Int32)))), .second, .val (.double (own_sid (own_dd s3 (0 : Int32)))), .second, .val (.double (FP.dsub (own_sid (own_dd s3 (0 : Int32))) (own_sid (own_dd s2 (0 : Int32))))), .second, .unset] []))
    refine own_st (fun t k => XS.dload X96.here hx rfl (hb hby at_214) rfl k) ?_
    show own_Run p e below s _ _ _ (T96.setTop (mkF m 216 #[.val (.long j0), .second, .val (.int i1), .val (.int i2), .val (.int i3), .val (.double (4618760256179416344 : UInt64)), .second, .val (.long sc), .second, .val (.int nv), .val (.double (own_sid (own_dd sc nv))), .second, .val (.int (1 : Int32)), .val (.double (own_sid (own_dd (946728000 : Int64) (0 : Int32)))), .second, .val (.int (1 : Int32)), .val (.int qq), .val (.long da), .second, .val (.double (own_sid (own_dd s1 (0 : Int32)))), .second, .val (.int (1 : Int32)), .val (.long db), .second, .val (.long s2), .second, .val (.double (own_sid (own_dd s2 (0 : Int32)))), .second, .val (.double (own_sid (own_dd s3 (0 : Int32)))), .second, .val (.double (FP.dsub (own_sid (own_dd s3 (0 : Int32))) (own_sid (own_dd s2 (0 : Int32))))), .second, .unset] [(.double (FP.dsub (own_sid (own_dd s3 (0 : Int32))) (own_sid (own_dd s2 (0 : Int32)))))]))
    refine own_st (fun t k => XS.dload X96.here hx rfl (hb hby at_216) rfl k) ?_
    show own_Run p e below s _ _ _ (T96.setTop (mkF m 218 #[.val (.long j0), .second, .val (.int i1), .val (.int i2), .val (.int i3), .val (.double (4618760256179416344 : UInt64)), .second, .val (.long sc), .second, .val (.int nv), .val (.double (own_sid (own_dd sc nv))), .second, .val (.int (1 : Int32)), .val (.double (own_sid (own_dd (946728000 : Int64) (0 : Int32)))), .second, .val (.int (1 : Int32)), .val (.int qq), .val (.long da), .second, .val (.double (own_sid (own_dd s1 (0 : Int32)))), .second, .val (.int (1 : Int32)), .val (.long db), .second, .val (.long s2), .second, .val (.double (own_sid (own_dd s2 (0 : Int32)))), .second, .val (.double (own_sid (own_dd s3 (0 : Int32)))), .second, .val (.double (FP.dsub (own_sid (own_dd s3 (0 : Int32))) (own_sid (own_dd s2 (0 : Int32))))), .second, .unset] [(.double (4618760256179416344 : UInt64)), (.double (FP.dsub (own_sid (own_dd s3 (0 : Int32))) (own_sid (own_dd s2 (0 : Int32)))))]))
    refine own_st (fun t k => XS.daddS X96.here hx rfl (hb hby at_218) rfl (rt.2.1) (v := (FP.dadd (FP.dsub (own_sid (own_dd s3 (0 : Int32))) (own_sid (own_dd s2 (0 : Int32)))) (4618760256179416344 : UInt64))) (rfl) k) ?_
    show own_Run p e below s _ _ _ (T96.setTop (mkF m 219 #[.val (.long j0), .second, .val (.int i1), .val (.int i2), .val (.int i3), .val (.double (4618760256179416344 : UInt64)), .second, .val (.long sc), .second, .val (.int nv), .val (.double (own_sid (own_dd sc nv))), .second, .val (.int (1 : Int32)), .val (.double (own_sid (own_dd (946728000 : Int64) (0 : Int32)))), .second, .val (.int (1 : Int32)), .val (.int qq), .val (.long da), .second, .val (.double (own_sid (own_dd s1 (0 : Int32)))), .second, .val (.int (1 : Int32)), .val (.long db), .second, .val (.long s2), .second, .val (.double (own_sid (own_dd s2 (0 : Int32)))), .second, .val (.double (own_sid (own_dd s3 (0 : Int32)))), .second, .val (.double (FP.dsub (own_sid (own_dd s3 (0 : Int32))) (own_sid (own_dd s2 (0 : Int32))))), .second, .unset] [(.double (FP.dadd (FP.dsub (own_sid (own_dd s3 (0 : Int32))) (own_sid (own_dd s2 (0 : Int32)))) (4618760256179416344 : UInt64)))]))
    refine own_st (fun t k => XS.dstore X96.here hx rfl (hb hby at_219) rfl (l' := #[.val (.long j0), .second, .val (.int i1), .val (.int i2), .val (.int i3), .val (.double (4618760256179416344 : UInt64)), .second, .val (.long sc), .second, .val (.int nv), .val (.double (own_sid (own_dd sc nv))), .second, .val (.int (1 : Int32)), .val (.double (own_sid (own_dd (946728000 : Int64) (0 : Int32)))), .second, .val (.int (1 : Int32)), .val (.int qq), .val (.long da), .second, .val (.double (own_sid (own_dd s1 (0 : Int32)))), .second, .val (.int (1 : Int32)), .val (.long db), .second, .val (.long s2), .second, .val (.double (own_sid (own_dd s2 (0 : Int32)))), .second, .val (.double (own_sid (own_dd s3 (0 : Int32)))), .second, .val (.double (FP.dadd (FP.dsub (own_sid (own_dd s3 (0 : Int32))) (own_sid (own_dd s2 (0 : Int32)))) (4618760256179416344 : UInt64))), .second, .unset]) rfl k) ?_
    show own_Run p e below s _ _ _ (T96.setTop (mkF m 221 #[.val (.long j0), .second, .val (.int i1), .val (.int i2), .val (.int i3), .val (.double (4618760256179416344 : UInt64)), .second, .val (.long sc), .second, .val (.int nv), .val (.double (own_sid (own_dd sc nv))), .second, .val (.int (1 : Int32)), .val (.double (own_sid (own_dd (946728000 : Int64) (0 : Int32)))), .second, .val (.int (1 : Int32)), .val (.int qq), .val (.long da), .second, .val (.double (own_sid (own_dd s1 (0 : Int32)))), .second, .val (.int (1 : Int32)), .val (.long db), .second, .val (.long s2), .second, .val (.double (own_sid (own_dd s2 (0 : Int32)))), .second, .val (.double (own_sid (own_dd s3 (0 : Int32)))), .second, .val (.double (FP.dadd (FP.dsub (own_sid (own_dd s3 (0 : Int32))) (own_sid (own_dd s2 (0 : Int32)))) (4618760256179416344 : UInt64))), .second, .unset] []))
    refine own_st (fun t k => XS.dload X96.here hx rfl (hb hby at_221) rfl k) ?_
    show own_Run p e below s _ _ _ (T96.setTop (mkF m 223 #[.val (.long j0), .second, .val (.int i1), .val (.int i2), .val (.int i3), .val (.double (4618760256179416344 : UInt64)), .second, .val (.long sc), .second, .val (.int nv), .val (.double (own_sid (own_dd sc nv))), .second, .val (.int (1 : Int32)), .val (.double (own_sid (own_dd (946728000 : Int64) (0 : Int32)))), .second, .val (.int (1 : Int32)), .val (.int qq), .val (.long da), .second, .val (.double (own_sid (own_dd s1 (0 : Int32)))), .second, .val (.int (1 : Int32)), .val (.long db), .second, .val (.long s2), .second, .val (.double (own_sid (own_dd s2 (0 : Int32)))), .second, .val (.double (own_sid (own_dd s3 (0 : Int32)))), .second, .val (.double (FP.dadd (FP.dsub (own_sid (own_dd s3 (0 : Int32))) (own_sid (own_dd s2 (0 : Int32)))) (4618760256179416344 : UInt64))), .second, .unset] [(.double (FP.dadd (FP.dsub (own_sid (own_dd s3 (0 : Int32))) (own_sid (own_dd s2 (0 : Int32)))) (4618760256179416344 : UInt64)))]))
    refine own_st (X96.ldc2DoubleC hx hown (mvT hZ (hw _ (List.mem_of_getElem? (i := 79) rfl))) (g := (mkF m 223 #[.val (.long j0), .second, .val (.int i1), .val (.int i2), .val (.int i3), .val (.double (4618760256179416344 : UInt64)), .second, .val (.long sc), .second, .val (.int nv), .val (.double (own_sid (own_dd sc nv))), .second, .val (.int (1 : Int32)), .val (.double (own_sid (own_dd (946728000 : Int64) (0 : Int32)))), .second, .val (.int (1 : Int32)), .val (.int qq), .val (.long da), .second, .val (.double (own_sid (own_dd s1 (0 : Int32)))), .second, .val (.int (1 : Int32)), .val (.long db), .second, .val (.long s2), .second, .val (.double (own_sid (own_dd s2 (0 : Int32)))), .second, .val (.double (own_sid (own_dd s3 (0 : Int32)))), .second, .val (.double (FP.dadd (FP.dsub (own_sid (own_dd s3 (0 : Int32))) (own_sid (own_dd s2 (0 : Int32)))) (4618760256179416344 : UInt64))), .second, .unset] [(.double (FP.dadd (FP.dsub (own_sid (own_dd s3 (0 : Int32))) (own_sid (own_dd s2 (0 : Int32)))) (4618760256179416344 : UInt64)))])) rfl (hb hby at_223)) ?_
    show own_Run p e below s _ _ _ (T96.setTop (mkF m 226 #[.val (.long j0), .second, .val (.int i1), .val (.int i2), .val (.int i3), .val (.double (4618760256179416344 : UInt64)), .second, .val (.long sc), .second, .val (.int nv), .val (.double (own_sid (own_dd sc nv))), .second, .val (.int (1 : Int32)), .val (.double (own_sid (own_dd (946728000 : Int64) (0 : Int32)))), .second, .val (.int (1 : Int32)), .val (.int qq), .val (.long da), .second, .val (.double (own_sid (own_dd s1 (0 : Int32)))), .second, .val (.int (1 : Int32)), .val (.long db), .second, .val (.long s2), .second, .val (.double (own_sid (own_dd s2 (0 : Int32)))), .second, .val (.double (own_sid (own_dd s3 (0 : Int32)))), .second, .val (.double (FP.dadd (FP.dsub (own_sid (own_dd s3 (0 : Int32))) (own_sid (own_dd s2 (0 : Int32)))) (4618760256179416344 : UInt64))), .second, .unset] [(.double (4580615302692910451 : UInt64)), (.double (FP.dadd (FP.dsub (own_sid (own_dd s3 (0 : Int32))) (own_sid (own_dd s2 (0 : Int32)))) (4618760256179416344 : UInt64)))]))
    refine own_st (fun t k => XS.dcmpS X96.here hx rfl (hb hby at_226) rfl (v := (1 : Int32)) ((rt.2.2.1 hD).1) k) ?_
    show own_Run p e below s _ _ _ (T96.setTop (mkF m 227 #[.val (.long j0), .second, .val (.int i1), .val (.int i2), .val (.int i3), .val (.double (4618760256179416344 : UInt64)), .second, .val (.long sc), .second, .val (.int nv), .val (.double (own_sid (own_dd sc nv))), .second, .val (.int (1 : Int32)), .val (.double (own_sid (own_dd (946728000 : Int64) (0 : Int32)))), .second, .val (.int (1 : Int32)), .val (.int qq), .val (.long da), .second, .val (.double (own_sid (own_dd s1 (0 : Int32)))), .second, .val (.int (1 : Int32)), .val (.long db), .second, .val (.long s2), .second, .val (.double (own_sid (own_dd s2 (0 : Int32)))), .second, .val (.double (own_sid (own_dd s3 (0 : Int32)))), .second, .val (.double (FP.dadd (FP.dsub (own_sid (own_dd s3 (0 : Int32))) (own_sid (own_dd s2 (0 : Int32)))) (4618760256179416344 : UInt64))), .second, .unset] [(.int (1 : Int32))]))
    refine own_st (fun t k => XS.ifNo X96.here hx rfl (hb hby at_227) rfl ((if0 _ _).trans (tlt (by decide : (0 : Int32) < (1 : Int32))).2.2.2) k) ?_
    show own_Run p e below s _ _ _ (T96.setTop (mkF m 230 #[.val (.long j0), .second, .val (.int i1), .val (.int i2), .val (.int i3), .val (.double (4618760256179416344 : UInt64)), .second, .val (.long sc), .second, .val (.int nv), .val (.double (own_sid (own_dd sc nv))), .second, .val (.int (1 : Int32)), .val (.double (own_sid (own_dd (946728000 : Int64) (0 : Int32)))), .second, .val (.int (1 : Int32)), .val (.int qq), .val (.long da), .second, .val (.double (own_sid (own_dd s1 (0 : Int32)))), .second, .val (.int (1 : Int32)), .val (.long db), .second, .val (.long s2), .second, .val (.double (own_sid (own_dd s2 (0 : Int32)))), .second, .val (.double (own_sid (own_dd s3 (0 : Int32)))), .second, .val (.double (FP.dadd (FP.dsub (own_sid (own_dd s3 (0 : Int32))) (own_sid (own_dd s2 (0 : Int32)))) (4618760256179416344 : UInt64))), .second, .unset] []))
    refine own_st (fun t k => XS.dload X96.here hx rfl (hb hby at_230) rfl k) ?_
    show own_Run p e below s _ _ _ (T96.setTop (mkF m 232 #[.val (.long j0), .second, .val (.int i1), .val (.int i2), .val (.int i3), .val (.double (4618760256179416344 : UInt64)), .second, .val (.long sc), .second, .val (.int nv), .val (.double (own_sid (own_dd sc nv))), .second, .val (.int (1 : Int32)), .val (.double (own_sid (own_dd (946728000 : Int64) (0 : Int32)))), .second, .val (.int (1 : Int32)), .val (.int qq), .val (.long da), .second, .val (.double (own_sid (own_dd s1 (0 : Int32)))), .second, .val (.int (1 : Int32)), .val (.long db), .second, .val (.long s2), .second, .val (.double (own_sid (own_dd s2 (0 : Int32)))), .second, .val (.double (own_sid (own_dd s3 (0 : Int32)))), .second, .val (.double (FP.dadd (FP.dsub (own_sid (own_dd s3 (0 : Int32))) (own_sid (own_dd s2 (0 : Int32)))) (4618760256179416344 : UInt64))), .second, .unset] [(.double (FP.dadd (FP.dsub (own_sid (own_dd s3 (0 : Int32))) (own_sid (own_dd s2 (0 : Int32)))) (4618760256179416344 : UInt64)))]))
    refine own_st (X96.ldc2DoubleC hx hown (mvT hZ (hw _ (List.mem_of_getElem? (i := 80) rfl))) (g := (mkF m 232 #[.val (.long j0), .second, .val (.int i1), .val (.int i2), .val (.int i3), .val (.double (4618760256179416344 : UInt64)), .second, .val (.long sc), .second, .val (.int nv), .val (.double (own_sid (own_dd sc nv))), .second, .val (.int (1 : Int32)), .val (.double (own_sid (own_dd (946728000 : Int64) (0 : Int32)))), .second, .val (.int (1 : Int32)), .val (.int qq), .val (.long da), .second, .val (.double (own_sid (own_dd s1 (0 : Int32)))), .second, .val (.int (1 : Int32)), .val (.long db), .second, .val (.long s2), .second, .val (.double (own_sid (own_dd s2 (0 : Int32)))), .second, .val (.double (own_sid (own_dd s3 (0 : Int32)))), .second, .val (.double (FP.dadd (FP.dsub (own_sid (own_dd s3 (0 : Int32))) (own_sid (own_dd s2 (0 : Int32)))) (4618760256179416344 : UInt64))), .second, .unset] [(.double (FP.dadd (FP.dsub (own_sid (own_dd s3 (0 : Int32))) (own_sid (own_dd s2 (0 : Int32)))) (4618760256179416344 : UInt64)))])) rfl (hb hby at_232)) ?_
    show own_Run p e below s _ _ _ (T96.setTop (mkF m 235 #[.val (.long j0), .second, .val (.int i1), .val (.int i2), .val (.int i3), .val (.double (4618760256179416344 : UInt64)), .second, .val (.long sc), .second, .val (.int nv), .val (.double (own_sid (own_dd sc nv))), .second, .val (.int (1 : Int32)), .val (.double (own_sid (own_dd (946728000 : Int64) (0 : Int32)))), .second, .val (.int (1 : Int32)), .val (.int qq), .val (.long da), .second, .val (.double (own_sid (own_dd s1 (0 : Int32)))), .second, .val (.int (1 : Int32)), .val (.long db), .second, .val (.long s2), .second, .val (.double (own_sid (own_dd s2 (0 : Int32)))), .second, .val (.double (own_sid (own_dd s3 (0 : Int32)))), .second, .val (.double (FP.dadd (FP.dsub (own_sid (own_dd s3 (0 : Int32))) (own_sid (own_dd s2 (0 : Int32)))) (4618760256179416344 : UInt64))), .second, .unset] [(.double (4580615879153662755 : UInt64)), (.double (FP.dadd (FP.dsub (own_sid (own_dd s3 (0 : Int32))) (own_sid (own_dd s2 (0 : Int32)))) (4618760256179416344 : UInt64)))]))
    refine own_st (fun t k => XS.dcmpS X96.here hx rfl (hb hby at_235) rfl (v := (-1 : Int32)) ((rt.2.2.1 hD).2) k) ?_
    show own_Run p e below s _ _ _ (T96.setTop (mkF m 236 #[.val (.long j0), .second, .val (.int i1), .val (.int i2), .val (.int i3), .val (.double (4618760256179416344 : UInt64)), .second, .val (.long sc), .second, .val (.int nv), .val (.double (own_sid (own_dd sc nv))), .second, .val (.int (1 : Int32)), .val (.double (own_sid (own_dd (946728000 : Int64) (0 : Int32)))), .second, .val (.int (1 : Int32)), .val (.int qq), .val (.long da), .second, .val (.double (own_sid (own_dd s1 (0 : Int32)))), .second, .val (.int (1 : Int32)), .val (.long db), .second, .val (.long s2), .second, .val (.double (own_sid (own_dd s2 (0 : Int32)))), .second, .val (.double (own_sid (own_dd s3 (0 : Int32)))), .second, .val (.double (FP.dadd (FP.dsub (own_sid (own_dd s3 (0 : Int32))) (own_sid (own_dd s2 (0 : Int32)))) (4618760256179416344 : UInt64))), .second, .unset] [(.int (-1 : Int32))]))
    refine own_st (fun t k => XS.ifNo X96.here hx rfl (hb hby at_236) rfl ((if0 _ _).trans (tlt (by decide : (-1 : Int32) < (0 : Int32))).2.1) k) ?_
    show own_Run p e below s _ _ _ (T96.setTop (mkF m 239 #[.val (.long j0), .second, .val (.int i1), .val (.int i2), .val (.int i3), .val (.double (4618760256179416344 : UInt64)), .second, .val (.long sc), .second, .val (.int nv), .val (.double (own_sid (own_dd sc nv))), .second, .val (.int (1 : Int32)), .val (.double (own_sid (own_dd (946728000 : Int64) (0 : Int32)))), .second, .val (.int (1 : Int32)), .val (.int qq), .val (.long da), .second, .val (.double (own_sid (own_dd s1 (0 : Int32)))), .second, .val (.int (1 : Int32)), .val (.long db), .second, .val (.long s2), .second, .val (.double (own_sid (own_dd s2 (0 : Int32)))), .second, .val (.double (own_sid (own_dd s3 (0 : Int32)))), .second, .val (.double (FP.dadd (FP.dsub (own_sid (own_dd s3 (0 : Int32))) (own_sid (own_dd s2 (0 : Int32)))) (4618760256179416344 : UInt64))), .second, .unset] []))
    refine own_st (fun t k => XS.iconst X96.here hx rfl (hb hby at_239) k) ?_
    show own_Run p e below s _ _ _ (T96.setTop (mkF m 240 #[.val (.long j0), .second, .val (.int i1), .val (.int i2), .val (.int i3), .val (.double (4618760256179416344 : UInt64)), .second, .val (.long sc), .second, .val (.int nv), .val (.double (own_sid (own_dd sc nv))), .second, .val (.int (1 : Int32)), .val (.double (own_sid (own_dd (946728000 : Int64) (0 : Int32)))), .second, .val (.int (1 : Int32)), .val (.int qq), .val (.long da), .second, .val (.double (own_sid (own_dd s1 (0 : Int32)))), .second, .val (.int (1 : Int32)), .val (.long db), .second, .val (.long s2), .second, .val (.double (own_sid (own_dd s2 (0 : Int32)))), .second, .val (.double (own_sid (own_dd s3 (0 : Int32)))), .second, .val (.double (FP.dadd (FP.dsub (own_sid (own_dd s3 (0 : Int32))) (own_sid (own_dd s2 (0 : Int32)))) (4618760256179416344 : UInt64))), .second, .unset] [(.int (1 : Int32))]))
    refine own_st (fun t k => XS.goto X96.here hx rfl (pc0 := 240) (pc' := 244) rfl (hb hby at_240) (by decide) (by decide) k) ?_
    show own_Run p e below s _ _ _ (T96.setTop (mkF m 244 #[.val (.long j0), .second, .val (.int i1), .val (.int i2), .val (.int i3), .val (.double (4618760256179416344 : UInt64)), .second, .val (.long sc), .second, .val (.int nv), .val (.double (own_sid (own_dd sc nv))), .second, .val (.int (1 : Int32)), .val (.double (own_sid (own_dd (946728000 : Int64) (0 : Int32)))), .second, .val (.int (1 : Int32)), .val (.int qq), .val (.long da), .second, .val (.double (own_sid (own_dd s1 (0 : Int32)))), .second, .val (.int (1 : Int32)), .val (.long db), .second, .val (.long s2), .second, .val (.double (own_sid (own_dd s2 (0 : Int32)))), .second, .val (.double (own_sid (own_dd s3 (0 : Int32)))), .second, .val (.double (FP.dadd (FP.dsub (own_sid (own_dd s3 (0 : Int32))) (own_sid (own_dd s2 (0 : Int32)))) (4618760256179416344 : UInt64))), .second, .unset] [(.int (1 : Int32))]))
    refine own_st (fun t k => XS.istore X96.here hx rfl (hb hby at_244) rfl (l' := #[.val (.long j0), .second, .val (.int i1), .val (.int i2), .val (.int i3), .val (.double (4618760256179416344 : UInt64)), .second, .val (.long sc), .second, .val (.int nv), .val (.double (own_sid (own_dd sc nv))), .second, .val (.int (1 : Int32)), .val (.double (own_sid (own_dd (946728000 : Int64) (0 : Int32)))), .second, .val (.int (1 : Int32)), .val (.int qq), .val (.long da), .second, .val (.double (own_sid (own_dd s1 (0 : Int32)))), .second, .val (.int (1 : Int32)), .val (.long db), .second, .val (.long s2), .second, .val (.double (own_sid (own_dd s2 (0 : Int32)))), .second, .val (.double (own_sid (own_dd s3 (0 : Int32)))), .second, .val (.double (FP.dadd (FP.dsub (own_sid (own_dd s3 (0 : Int32))) (own_sid (own_dd s2 (0 : Int32)))) (4618760256179416344 : UInt64))), .second, .val (.int (1 : Int32))]) rfl k) ?_
    show own_Run p e below s _ _ _ (T96.setTop (mkF m 246 #[.val (.long j0), .second, .val (.int i1), .val (.int i2), .val (.int i3), .val (.double (4618760256179416344 : UInt64)), .second, .val (.long sc), .second, .val (.int nv), .val (.double (own_sid (own_dd sc nv))), .second, .val (.int (1 : Int32)), .val (.double (own_sid (own_dd (946728000 : Int64) (0 : Int32)))), .second, .val (.int (1 : Int32)), .val (.int qq), .val (.long da), .second, .val (.double (own_sid (own_dd s1 (0 : Int32)))), .second, .val (.int (1 : Int32)), .val (.long db), .second, .val (.long s2), .second, .val (.double (own_sid (own_dd s2 (0 : Int32)))), .second, .val (.double (own_sid (own_dd s3 (0 : Int32)))), .second, .val (.double (FP.dadd (FP.dsub (own_sid (own_dd s3 (0 : Int32))) (own_sid (own_dd s2 (0 : Int32)))) (4618760256179416344 : UInt64))), .second, .val (.int (1 : Int32))] []))
    refine own_st (fun t k => XS.iload X96.here hx rfl (hb hby at_246) rfl k) ?_
    show own_Run p e below s _ _ _ (T96.setTop (mkF m 248 #[.val (.long j0), .second, .val (.int i1), .val (.int i2), .val (.int i3), .val (.double (4618760256179416344 : UInt64)), .second, .val (.long sc), .second, .val (.int nv), .val (.double (own_sid (own_dd sc nv))), .second, .val (.int (1 : Int32)), .val (.double (own_sid (own_dd (946728000 : Int64) (0 : Int32)))), .second, .val (.int (1 : Int32)), .val (.int qq), .val (.long da), .second, .val (.double (own_sid (own_dd s1 (0 : Int32)))), .second, .val (.int (1 : Int32)), .val (.long db), .second, .val (.long s2), .second, .val (.double (own_sid (own_dd s2 (0 : Int32)))), .second, .val (.double (own_sid (own_dd s3 (0 : Int32)))), .second, .val (.double (FP.dadd (FP.dsub (own_sid (own_dd s3 (0 : Int32))) (own_sid (own_dd s2 (0 : Int32)))) (4618760256179416344 : UInt64))), .second, .val (.int (1 : Int32))] [(.int (1 : Int32))]))
    refine own_st (fun t k => XS.ifNo X96.here hx rfl (hb hby at_248) rfl ((if0 _ _).trans (feq (by decide : ¬ ((1 : Int32) = (0 : Int32)))).1) k) ?_
    show own_Run p e below s _ _ _ (T96.setTop (mkF m 251 #[.val (.long j0), .second, .val (.int i1), .val (.int i2), .val (.int i3), .val (.double (4618760256179416344 : UInt64)), .second, .val (.long sc), .second, .val (.int nv), .val (.double (own_sid (own_dd sc nv))), .second, .val (.int (1 : Int32)), .val (.double (own_sid (own_dd (946728000 : Int64) (0 : Int32)))), .second, .val (.int (1 : Int32)), .val (.int qq), .val (.long da), .second, .val (.double (own_sid (own_dd s1 (0 : Int32)))), .second, .val (.int (1 : Int32)), .val (.long db), .second, .val (.long s2), .second, .val (.double (own_sid (own_dd s2 (0 : Int32)))), .second, .val (.double (own_sid (own_dd s3 (0 : Int32)))), .second, .val (.double (FP.dadd (FP.dsub (own_sid (own_dd s3 (0 : Int32))) (own_sid (own_dd s2 (0 : Int32)))) (4618760256179416344 : UInt64))), .second, .val (.int (1 : Int32))] []))
    refine own_st (fun t k => XS.iload X96.here hx rfl (hb hby at_251) rfl k) ?_
    show own_Run p e below s _ _ _ (T96.setTop (mkF m 253 #[.val (.long j0), .second, .val (.int i1), .val (.int i2), .val (.int i3), .val (.double (4618760256179416344 : UInt64)), .second, .val (.long sc), .second, .val (.int nv), .val (.double (own_sid (own_dd sc nv))), .second, .val (.int (1 : Int32)), .val (.double (own_sid (own_dd (946728000 : Int64) (0 : Int32)))), .second, .val (.int (1 : Int32)), .val (.int qq), .val (.long da), .second, .val (.double (own_sid (own_dd s1 (0 : Int32)))), .second, .val (.int (1 : Int32)), .val (.long db), .second, .val (.long s2), .second, .val (.double (own_sid (own_dd s2 (0 : Int32)))), .second, .val (.double (own_sid (own_dd s3 (0 : Int32)))), .second, .val (.double (FP.dadd (FP.dsub (own_sid (own_dd s3 (0 : Int32))) (own_sid (own_dd s2 (0 : Int32)))) (4618760256179416344 : UInt64))), .second, .val (.int (1 : Int32))] [(.int (1 : Int32))]))
    refine own_st (fun t k => XS.ifNo X96.here hx rfl (hb hby at_253) rfl ((if0 _ _).trans (feq (by decide : ¬ ((1 : Int32) = (0 : Int32)))).1) k) ?_
    show own_Run p e below s _ _ _ (T96.setTop (mkF m 256 #[.val (.long j0), .second, .val (.int i1), .val (.int i2), .val (.int i3), .val (.double (4618760256179416344 : UInt64)), .second, .val (.long sc), .second, .val (.int nv), .val (.double (own_sid (own_dd sc nv))), .second, .val (.int (1 : Int32)), .val (.double (own_sid (own_dd (946728000 : Int64) (0 : Int32)))), .second, .val (.int (1 : Int32)), .val (.int qq), .val (.long da), .second, .val (.double (own_sid (own_dd s1 (0 : Int32)))), .second, .val (.int (1 : Int32)), .val (.long db), .second, .val (.long s2), .second, .val (.double (own_sid (own_dd s2 (0 : Int32)))), .second, .val (.double (own_sid (own_dd s3 (0 : Int32)))), .second, .val (.double (FP.dadd (FP.dsub (own_sid (own_dd s3 (0 : Int32))) (own_sid (own_dd s2 (0 : Int32)))) (4618760256179416344 : UInt64))), .second, .val (.int (1 : Int32))] []))
    refine own_st (fun t k => XS.iload X96.here hx rfl (hb hby at_256) rfl k) ?_
    show own_Run p e below s _ _ _ (T96.setTop (mkF m 258 #[.val (.long j0), .second, .val (.int i1), .val (.int i2), .val (.int i3), .val (.double (4618760256179416344 : UInt64)), .second, .val (.long sc), .second, .val (.int nv), .val (.double (own_sid (own_dd sc nv))), .second, .val (.int (1 : Int32)), .val (.double (own_sid (own_dd (946728000 : Int64) (0 : Int32)))), .second, .val (.int (1 : Int32)), .val (.int qq), .val (.long da), .second, .val (.double (own_sid (own_dd s1 (0 : Int32)))), .second, .val (.int (1 : Int32)), .val (.long db), .second, .val (.long s2), .second, .val (.double (own_sid (own_dd s2 (0 : Int32)))), .second, .val (.double (own_sid (own_dd s3 (0 : Int32)))), .second, .val (.double (FP.dadd (FP.dsub (own_sid (own_dd s3 (0 : Int32))) (own_sid (own_dd s2 (0 : Int32)))) (4618760256179416344 : UInt64))), .second, .val (.int (1 : Int32))] [(.int (1 : Int32))]))
    refine own_st (fun t k => XS.ifNo X96.here hx rfl (hb hby at_258) rfl ((if0 _ _).trans (feq (by decide : ¬ ((1 : Int32) = (0 : Int32)))).1) k) ?_
    show own_Run p e below s _ _ _ (T96.setTop (mkF m 261 #[.val (.long j0), .second, .val (.int i1), .val (.int i2), .val (.int i3), .val (.double (4618760256179416344 : UInt64)), .second, .val (.long sc), .second, .val (.int nv), .val (.double (own_sid (own_dd sc nv))), .second, .val (.int (1 : Int32)), .val (.double (own_sid (own_dd (946728000 : Int64) (0 : Int32)))), .second, .val (.int (1 : Int32)), .val (.int qq), .val (.long da), .second, .val (.double (own_sid (own_dd s1 (0 : Int32)))), .second, .val (.int (1 : Int32)), .val (.long db), .second, .val (.long s2), .second, .val (.double (own_sid (own_dd s2 (0 : Int32)))), .second, .val (.double (own_sid (own_dd s3 (0 : Int32)))), .second, .val (.double (FP.dadd (FP.dsub (own_sid (own_dd s3 (0 : Int32))) (own_sid (own_dd s2 (0 : Int32)))) (4618760256179416344 : UInt64))), .second, .val (.int (1 : Int32))] []))
    refine own_st (fun t k => XS.iload X96.here hx rfl (hb hby at_261) rfl k) ?_
    show own_Run p e below s _ _ _ (T96.setTop (mkF m 263 #[.val (.long j0), .second, .val (.int i1), .val (.int i2), .val (.int i3), .val (.double (4618760256179416344 : UInt64)), .second, .val (.long sc), .second, .val (.int nv), .val (.double (own_sid (own_dd sc nv))), .second, .val (.int (1 : Int32)), .val (.double (own_sid (own_dd (946728000 : Int64) (0 : Int32)))), .second, .val (.int (1 : Int32)), .val (.int qq), .val (.long da), .second, .val (.double (own_sid (own_dd s1 (0 : Int32)))), .second, .val (.int (1 : Int32)), .val (.long db), .second, .val (.long s2), .second, .val (.double (own_sid (own_dd s2 (0 : Int32)))), .second, .val (.double (own_sid (own_dd s3 (0 : Int32)))), .second, .val (.double (FP.dadd (FP.dsub (own_sid (own_dd s3 (0 : Int32))) (own_sid (own_dd s2 (0 : Int32)))) (4618760256179416344 : UInt64))), .second, .val (.int (1 : Int32))] [(.int (1 : Int32))]))
    refine own_st (fun t k => XS.ifNo X96.here hx rfl (hb hby at_263) rfl ((if0 _ _).trans (feq (by decide : ¬ ((1 : Int32) = (0 : Int32)))).1) k) ?_
    show own_Run p e below s _ _ _ (T96.setTop (mkF m 266 #[.val (.long j0), .second, .val (.int i1), .val (.int i2), .val (.int i3), .val (.double (4618760256179416344 : UInt64)), .second, .val (.long sc), .second, .val (.int nv), .val (.double (own_sid (own_dd sc nv))), .second, .val (.int (1 : Int32)), .val (.double (own_sid (own_dd (946728000 : Int64) (0 : Int32)))), .second, .val (.int (1 : Int32)), .val (.int qq), .val (.long da), .second, .val (.double (own_sid (own_dd s1 (0 : Int32)))), .second, .val (.int (1 : Int32)), .val (.long db), .second, .val (.long s2), .second, .val (.double (own_sid (own_dd s2 (0 : Int32)))), .second, .val (.double (own_sid (own_dd s3 (0 : Int32)))), .second, .val (.double (FP.dadd (FP.dsub (own_sid (own_dd s3 (0 : Int32))) (own_sid (own_dd s2 (0 : Int32)))) (4618760256179416344 : UInt64))), .second, .val (.int (1 : Int32))] []))
    refine own_st (fun t k => XS.iconst X96.here hx rfl (hb hby at_266) k) ?_
    show own_Run p e below s _ _ _ (T96.setTop (mkF m 267 #[.val (.long j0), .second, .val (.int i1), .val (.int i2), .val (.int i3), .val (.double (4618760256179416344 : UInt64)), .second, .val (.long sc), .second, .val (.int nv), .val (.double (own_sid (own_dd sc nv))), .second, .val (.int (1 : Int32)), .val (.double (own_sid (own_dd (946728000 : Int64) (0 : Int32)))), .second, .val (.int (1 : Int32)), .val (.int qq), .val (.long da), .second, .val (.double (own_sid (own_dd s1 (0 : Int32)))), .second, .val (.int (1 : Int32)), .val (.long db), .second, .val (.long s2), .second, .val (.double (own_sid (own_dd s2 (0 : Int32)))), .second, .val (.double (own_sid (own_dd s3 (0 : Int32)))), .second, .val (.double (FP.dadd (FP.dsub (own_sid (own_dd s3 (0 : Int32))) (own_sid (own_dd s2 (0 : Int32)))) (4618760256179416344 : UInt64))), .second, .val (.int (1 : Int32))] [(.int (1 : Int32))]))
    refine own_st (fun t k => XS.goto X96.here hx rfl (pc0 := 267) (pc' := 271) rfl (hb hby at_267) (by decide) (by decide) k) ?_
    show own_Run p e below s _ _ _ (T96.setTop (mkF m 271 #[.val (.long j0), .second, .val (.int i1), .val (.int i2), .val (.int i3), .val (.double (4618760256179416344 : UInt64)), .second, .val (.long sc), .second, .val (.int nv), .val (.double (own_sid (own_dd sc nv))), .second, .val (.int (1 : Int32)), .val (.double (own_sid (own_dd (946728000 : Int64) (0 : Int32)))), .second, .val (.int (1 : Int32)), .val (.int qq), .val (.long da), .second, .val (.double (own_sid (own_dd s1 (0 : Int32)))), .second, .val (.int (1 : Int32)), .val (.long db), .second, .val (.long s2), .second, .val (.double (own_sid (own_dd s2 (0 : Int32)))), .second, .val (.double (own_sid (own_dd s3 (0 : Int32)))), .second, .val (.double (FP.dadd (FP.dsub (own_sid (own_dd s3 (0 : Int32))) (own_sid (own_dd s2 (0 : Int32)))) (4618760256179416344 : UInt64))), .second, .val (.int (1 : Int32))] [(.int (1 : Int32))]))
    exact own_ret X96 hx hlk (t := .boolean) hret rfl (Or.inl ⟨rfl, by simp, _, rfl⟩) (hb hby at_271) (by decide) (by decide) ⟨rfl, N96⟩
  · skip
    refine own_st (fun t k => XS.ifYes X96.here hx rfl (pc0 := 211) (pc' := 221) rfl (hb hby at_211) rfl ((if0 _ _).trans (flt (hD : ¬ ((cmpValue (FP.dcmp (FP.dsub (own_sid (own_dd s3 (0 : Int32))) (own_sid (own_dd s2 (0 : Int32)))) (0 : UInt64)) .g) < (0 : Int32)))).2.1) (by decide) (by decide) k) ?_
    show own_Run p e below s _ _ _ (T96.setTop (mkF m 221 #[.val (.long j0), .second, .val (.int i1), .val (.int i2), .val (.int i3), .val (.double (4618760256179416344 : UInt64)), .second, .val (.long sc), .second, .val (.int nv), .val (.double (own_sid (own_dd sc nv))), .second, .val (.int (1 : Int32)), .val (.double (own_sid (own_dd (946728000 : Int64) (0 : Int32)))), .second, .val (.int (1 : Int32)), .val (.int qq), .val (.long da), .second, .val (.double (own_sid (own_dd s1 (0 : Int32)))), .second, .val (.int (1 : Int32)), .val (.long db), .second, .val (.long s2), .second, .val (.double (own_sid (own_dd s2 (0 : Int32)))), .second, .val (.double (own_sid (own_dd s3 (0 : Int32)))), .second, .val (.double (FP.dsub (own_sid (own_dd s3 (0 : Int32))) (own_sid (own_dd s2 (0 : Int32))))), .second, .unset] []))
    refine own_st (fun t k => XS.dload X96.here hx rfl (hb hby at_221) rfl k) ?_
    show own_Run p e below s _ _ _ (T96.setTop (mkF m 223 #[.val (.long j0), .second, .val (.int i1), .val (.int i2), .val (.int i3), .val (.double (4618760256179416344 : UInt64)), .second, .val (.long sc), .second, .val (.int nv), .val (.double (own_sid (own_dd sc nv))), .second, .val (.int (1 : Int32)), .val (.double (own_sid (own_dd (946728000 : Int64) (0 : Int32)))), .second, .val (.int (1 : Int32)), .val (.int qq), .val (.long da), .second, .val (.double (own_sid (own_dd s1 (0 : Int32)))), .second, .val (.int (1 : Int32)), .val (.long db), .second, .val (.long s2), .second, .val (.double (own_sid (own_dd s2 (0 : Int32)))), .second, .val (.double (own_sid (own_dd s3 (0 : Int32)))), .second, .val (.double (FP.dsub (own_sid (own_dd s3 (0 : Int32))) (own_sid (own_dd s2 (0 : Int32))))), .second, .unset] [(.double (FP.dsub (own_sid (own_dd s3 (0 : Int32))) (own_sid (own_dd s2 (0 : Int32)))))]))
    refine own_st (X96.ldc2DoubleC hx hown (mvT hZ (hw _ (List.mem_of_getElem? (i := 79) rfl))) (g := (mkF m 223 #[.val (.long j0), .second, .val (.int i1), .val (.int i2), .val (.int i3), .val (.double (4618760256179416344 : UInt64)), .second, .val (.long sc), .second, .val (.int nv), .val (.double (own_sid (own_dd sc nv))), .second, .val (.int (1 : Int32)), .val (.double (own_sid (own_dd (946728000 : Int64) (0 : Int32)))), .second, .val (.int (1 : Int32)), .val (.int qq), .val (.long da), .second, .val (.double (own_sid (own_dd s1 (0 : Int32)))), .second, .val (.int (1 : Int32)), .val (.long db), .second, .val (.long s2), .second, .val (.double (own_sid (own_dd s2 (0 : Int32)))), .second, .val (.double (own_sid (own_dd s3 (0 : Int32)))), .second, .val (.double (FP.dsub (own_sid (own_dd s3 (0 : Int32))) (own_sid (own_dd s2 (0 : Int32))))), .second, .unset] [(.double (FP.dsub (own_sid (own_dd s3 (0 : Int32))) (own_sid (own_dd s2 (0 : Int32)))))])) rfl (hb hby at_223)) ?_
    show own_Run p e below s _ _ _ (T96.setTop (mkF m 226 #[.val (.long j0), .second, .val (.int i1), .val (.int i2), .val (.int i3), .val (.double (4618760256179416344 : UInt64)), .second, .val (.long sc), .second, .val (.int nv), .val (.double (own_sid (own_dd sc nv))), .second, .val (.int (1 : Int32)), .val (.double (own_sid (own_dd (946728000 : Int64) (0 : Int32)))), .second, .val (.int (1 : Int32)), .val (.int qq), .val (.long da), .second, .val (.double (own_sid (own_dd s1 (0 : Int32)))), .second, .val (.int (1 : Int32)), .val (.long db), .second, .val (.long s2), .second, .val (.double (own_sid (own_dd s2 (0 : Int32)))), .second, .val (.double (own_sid (own_dd s3 (0 : Int32)))), .second, .val (.double (FP.dsub (own_sid (own_dd s3 (0 : Int32))) (own_sid (own_dd s2 (0 : Int32))))), .second, .unset] [(.double (4580615302692910451 : UInt64)), (.double (FP.dsub (own_sid (own_dd s3 (0 : Int32))) (own_sid (own_dd s2 (0 : Int32)))))]))
    refine own_st (fun t k => XS.dcmpS X96.here hx rfl (hb hby at_226) rfl (v := (1 : Int32)) ((rt.2.2.2 hD).1) k) ?_
    show own_Run p e below s _ _ _ (T96.setTop (mkF m 227 #[.val (.long j0), .second, .val (.int i1), .val (.int i2), .val (.int i3), .val (.double (4618760256179416344 : UInt64)), .second, .val (.long sc), .second, .val (.int nv), .val (.double (own_sid (own_dd sc nv))), .second, .val (.int (1 : Int32)), .val (.double (own_sid (own_dd (946728000 : Int64) (0 : Int32)))), .second, .val (.int (1 : Int32)), .val (.int qq), .val (.long da), .second, .val (.double (own_sid (own_dd s1 (0 : Int32)))), .second, .val (.int (1 : Int32)), .val (.long db), .second, .val (.long s2), .second, .val (.double (own_sid (own_dd s2 (0 : Int32)))), .second, .val (.double (own_sid (own_dd s3 (0 : Int32)))), .second, .val (.double (FP.dsub (own_sid (own_dd s3 (0 : Int32))) (own_sid (own_dd s2 (0 : Int32))))), .second, .unset] [(.int (1 : Int32))]))
    refine own_st (fun t k => XS.ifNo X96.here hx rfl (hb hby at_227) rfl ((if0 _ _).trans (tlt (by decide : (0 : Int32) < (1 : Int32))).2.2.2) k) ?_
    show own_Run p e below s _ _ _ (T96.setTop (mkF m 230 #[.val (.long j0), .second, .val (.int i1), .val (.int i2), .val (.int i3), .val (.double (4618760256179416344 : UInt64)), .second, .val (.long sc), .second, .val (.int nv), .val (.double (own_sid (own_dd sc nv))), .second, .val (.int (1 : Int32)), .val (.double (own_sid (own_dd (946728000 : Int64) (0 : Int32)))), .second, .val (.int (1 : Int32)), .val (.int qq), .val (.long da), .second, .val (.double (own_sid (own_dd s1 (0 : Int32)))), .second, .val (.int (1 : Int32)), .val (.long db), .second, .val (.long s2), .second, .val (.double (own_sid (own_dd s2 (0 : Int32)))), .second, .val (.double (own_sid (own_dd s3 (0 : Int32)))), .second, .val (.double (FP.dsub (own_sid (own_dd s3 (0 : Int32))) (own_sid (own_dd s2 (0 : Int32))))), .second, .unset] []))
    refine own_st (fun t k => XS.dload X96.here hx rfl (hb hby at_230) rfl k) ?_
    show own_Run p e below s _ _ _ (T96.setTop (mkF m 232 #[.val (.long j0), .second, .val (.int i1), .val (.int i2), .val (.int i3), .val (.double (4618760256179416344 : UInt64)), .second, .val (.long sc), .second, .val (.int nv), .val (.double (own_sid (own_dd sc nv))), .second, .val (.int (1 : Int32)), .val (.double (own_sid (own_dd (946728000 : Int64) (0 : Int32)))), .second, .val (.int (1 : Int32)), .val (.int qq), .val (.long da), .second, .val (.double (own_sid (own_dd s1 (0 : Int32)))), .second, .val (.int (1 : Int32)), .val (.long db), .second, .val (.long s2), .second, .val (.double (own_sid (own_dd s2 (0 : Int32)))), .second, .val (.double (own_sid (own_dd s3 (0 : Int32)))), .second, .val (.double (FP.dsub (own_sid (own_dd s3 (0 : Int32))) (own_sid (own_dd s2 (0 : Int32))))), .second, .unset] [(.double (FP.dsub (own_sid (own_dd s3 (0 : Int32))) (own_sid (own_dd s2 (0 : Int32)))))]))
    refine own_st (X96.ldc2DoubleC hx hown (mvT hZ (hw _ (List.mem_of_getElem? (i := 80) rfl))) (g := (mkF m 232 #[.val (.long j0), .second, .val (.int i1), .val (.int i2), .val (.int i3), .val (.double (4618760256179416344 : UInt64)), .second, .val (.long sc), .second, .val (.int nv), .val (.double (own_sid (own_dd sc nv))), .second, .val (.int (1 : Int32)), .val (.double (own_sid (own_dd (946728000 : Int64) (0 : Int32)))), .second, .val (.int (1 : Int32)), .val (.int qq), .val (.long da), .second, .val (.double (own_sid (own_dd s1 (0 : Int32)))), .second, .val (.int (1 : Int32)), .val (.long db), .second, .val (.long s2), .second, .val (.double (own_sid (own_dd s2 (0 : Int32)))), .second, .val (.double (own_sid (own_dd s3 (0 : Int32)))), .second, .val (.double (FP.dsub (own_sid (own_dd s3 (0 : Int32))) (own_sid (own_dd s2 (0 : Int32))))), .second, .unset] [(.double (FP.dsub (own_sid (own_dd s3 (0 : Int32))) (own_sid (own_dd s2 (0 : Int32)))))])) rfl (hb hby at_232)) ?_
    show own_Run p e below s _ _ _ (T96.setTop (mkF m 235 #[.val (.long j0), .second, .val (.int i1), .val (.int i2), .val (.int i3), .val (.double (4618760256179416344 : UInt64)), .second, .val (.long sc), .second, .val (.int nv), .val (.double (own_sid (own_dd sc nv))), .second, .val (.int (1 : Int32)), .val (.double (own_sid (own_dd (946728000 : Int64) (0 : Int32)))), .second, .val (.int (1 : Int32)), .val (.int qq), .val (.long da), .second, .val (.double (own_sid (own_dd s1 (0 : Int32)))), .second, .val (.int (1 : Int32)), .val (.long db), .second, .val (.long s2), .second, .val (.double (own_sid (own_dd s2 (0 : Int32)))), .second, .val (.double (own_sid (own_dd s3 (0 : Int32)))), .second, .val (.double (FP.dsub (own_sid (own_dd s3 (0 : Int32))) (own_sid (own_dd s2 (0 : Int32))))), .second, .unset] [(.double (4580615879153662755 : UInt64)), (.double (FP.dsub (own_sid (own_dd s3 (0 : Int32))) (own_sid (own_dd s2 (0 : Int32)))))]))
    refine own_st (fun t k => XS.dcmpS X96.here hx rfl (hb hby at_235) rfl (v := (-1 : Int32)) ((rt.2.2.2 hD).2) k) ?_
    show own_Run p e below s _ _ _ (T96.setTop (mkF m 236 #[.val (.long j0), .second, .val (.int i1), .val (.int i2), .val (.int i3), .val (.double (4618760256179416344 : UInt64)), .second, .val (.long sc), .second, .val (.int nv), .val (.double (own_sid (own_dd sc nv))), .second, .val (.int (1 : Int32)), .val (.double (own_sid (own_dd (946728000 : Int64) (0 : Int32)))), .second, .val (.int (1 : Int32)), .val (.int qq), .val (.long da), .second, .val (.double (own_sid (own_dd s1 (0 : Int32)))), .second, .val (.int (1 : Int32)), .val (.long db), .second, .val (.long s2), .second, .val (.double (own_sid (own_dd s2 (0 : Int32)))), .second, .val (.double (own_sid (own_dd s3 (0 : Int32)))), .second, .val (.double (FP.dsub (own_sid (own_dd s3 (0 : Int32))) (own_sid (own_dd s2 (0 : Int32))))), .second, .unset] [(.int (-1 : Int32))]))
    refine own_st (fun t k => XS.ifNo X96.here hx rfl (hb hby at_236) rfl ((if0 _ _).trans (tlt (by decide : (-1 : Int32) < (0 : Int32))).2.1) k) ?_
    show own_Run p e below s _ _ _ (T96.setTop (mkF m 239 #[.val (.long j0), .second, .val (.int i1), .val (.int i2), .val (.int i3), .val (.double (4618760256179416344 : UInt64)), .second, .val (.long sc), .second, .val (.int nv), .val (.double (own_sid (own_dd sc nv))), .second, .val (.int (1 : Int32)), .val (.double (own_sid (own_dd (946728000 : Int64) (0 : Int32)))), .second, .val (.int (1 : Int32)), .val (.int qq), .val (.long da), .second, .val (.double (own_sid (own_dd s1 (0 : Int32)))), .second, .val (.int (1 : Int32)), .val (.long db), .second, .val (.long s2), .second, .val (.double (own_sid (own_dd s2 (0 : Int32)))), .second, .val (.double (own_sid (own_dd s3 (0 : Int32)))), .second, .val (.double (FP.dsub (own_sid (own_dd s3 (0 : Int32))) (own_sid (own_dd s2 (0 : Int32))))), .second, .unset] []))
    refine own_st (fun t k => XS.iconst X96.here hx rfl (hb hby at_239) k) ?_
    show own_Run p e below s _ _ _ (T96.setTop (mkF m 240 #[.val (.long j0), .second, .val (.int i1), .val (.int i2), .val (.int i3), .val (.double (4618760256179416344 : UInt64)), .second, .val (.long sc), .second, .val (.int nv), .val (.double (own_sid (own_dd sc nv))), .second, .val (.int (1 : Int32)), .val (.double (own_sid (own_dd (946728000 : Int64) (0 : Int32)))), .second, .val (.int (1 : Int32)), .val (.int qq), .val (.long da), .second, .val (.double (own_sid (own_dd s1 (0 : Int32)))), .second, .val (.int (1 : Int32)), .val (.long db), .second, .val (.long s2), .second, .val (.double (own_sid (own_dd s2 (0 : Int32)))), .second, .val (.double (own_sid (own_dd s3 (0 : Int32)))), .second, .val (.double (FP.dsub (own_sid (own_dd s3 (0 : Int32))) (own_sid (own_dd s2 (0 : Int32))))), .second, .unset] [(.int (1 : Int32))]))
    refine own_st (fun t k => XS.goto X96.here hx rfl (pc0 := 240) (pc' := 244) rfl (hb hby at_240) (by decide) (by decide) k) ?_
    show own_Run p e below s _ _ _ (T96.setTop (mkF m 244 #[.val (.long j0), .second, .val (.int i1), .val (.int i2), .val (.int i3), .val (.double (4618760256179416344 : UInt64)), .second, .val (.long sc), .second, .val (.int nv), .val (.double (own_sid (own_dd sc nv))), .second, .val (.int (1 : Int32)), .val (.double (own_sid (own_dd (946728000 : Int64) (0 : Int32)))), .second, .val (.int (1 : Int32)), .val (.int qq), .val (.long da), .second, .val (.double (own_sid (own_dd s1 (0 : Int32)))), .second, .val (.int (1 : Int32)), .val (.long db), .second, .val (.long s2), .second, .val (.double (own_sid (own_dd s2 (0 : Int32)))), .second, .val (.double (own_sid (own_dd s3 (0 : Int32)))), .second, .val (.double (FP.dsub (own_sid (own_dd s3 (0 : Int32))) (own_sid (own_dd s2 (0 : Int32))))), .second, .unset] [(.int (1 : Int32))]))
    refine own_st (fun t k => XS.istore X96.here hx rfl (hb hby at_244) rfl (l' := #[.val (.long j0), .second, .val (.int i1), .val (.int i2), .val (.int i3), .val (.double (4618760256179416344 : UInt64)), .second, .val (.long sc), .second, .val (.int nv), .val (.double (own_sid (own_dd sc nv))), .second, .val (.int (1 : Int32)), .val (.double (own_sid (own_dd (946728000 : Int64) (0 : Int32)))), .second, .val (.int (1 : Int32)), .val (.int qq), .val (.long da), .second, .val (.double (own_sid (own_dd s1 (0 : Int32)))), .second, .val (.int (1 : Int32)), .val (.long db), .second, .val (.long s2), .second, .val (.double (own_sid (own_dd s2 (0 : Int32)))), .second, .val (.double (own_sid (own_dd s3 (0 : Int32)))), .second, .val (.double (FP.dsub (own_sid (own_dd s3 (0 : Int32))) (own_sid (own_dd s2 (0 : Int32))))), .second, .val (.int (1 : Int32))]) rfl k) ?_
    show own_Run p e below s _ _ _ (T96.setTop (mkF m 246 #[.val (.long j0), .second, .val (.int i1), .val (.int i2), .val (.int i3), .val (.double (4618760256179416344 : UInt64)), .second, .val (.long sc), .second, .val (.int nv), .val (.double (own_sid (own_dd sc nv))), .second, .val (.int (1 : Int32)), .val (.double (own_sid (own_dd (946728000 : Int64) (0 : Int32)))), .second, .val (.int (1 : Int32)), .val (.int qq), .val (.long da), .second, .val (.double (own_sid (own_dd s1 (0 : Int32)))), .second, .val (.int (1 : Int32)), .val (.long db), .second, .val (.long s2), .second, .val (.double (own_sid (own_dd s2 (0 : Int32)))), .second, .val (.double (own_sid (own_dd s3 (0 : Int32)))), .second, .val (.double (FP.dsub (own_sid (own_dd s3 (0 : Int32))) (own_sid (own_dd s2 (0 : Int32))))), .second, .val (.int (1 : Int32))] []))
    refine own_st (fun t k => XS.iload X96.here hx rfl (hb hby at_246) rfl k) ?_
    show own_Run p e below s _ _ _ (T96.setTop (mkF m 248 #[.val (.long j0), .second, .val (.int i1), .val (.int i2), .val (.int i3), .val (.double (4618760256179416344 : UInt64)), .second, .val (.long sc), .second, .val (.int nv), .val (.double (own_sid (own_dd sc nv))), .second, .val (.int (1 : Int32)), .val (.double (own_sid (own_dd (946728000 : Int64) (0 : Int32)))), .second, .val (.int (1 : Int32)), .val (.int qq), .val (.long da), .second, .val (.double (own_sid (own_dd s1 (0 : Int32)))), .second, .val (.int (1 : Int32)), .val (.long db), .second, .val (.long s2), .second, .val (.double (own_sid (own_dd s2 (0 : Int32)))), .second, .val (.double (own_sid (own_dd s3 (0 : Int32)))), .second, .val (.double (FP.dsub (own_sid (own_dd s3 (0 : Int32))) (own_sid (own_dd s2 (0 : Int32))))), .second, .val (.int (1 : Int32))] [(.int (1 : Int32))]))
    refine own_st (fun t k => XS.ifNo X96.here hx rfl (hb hby at_248) rfl ((if0 _ _).trans (feq (by decide : ¬ ((1 : Int32) = (0 : Int32)))).1) k) ?_
    show own_Run p e below s _ _ _ (T96.setTop (mkF m 251 #[.val (.long j0), .second, .val (.int i1), .val (.int i2), .val (.int i3), .val (.double (4618760256179416344 : UInt64)), .second, .val (.long sc), .second, .val (.int nv), .val (.double (own_sid (own_dd sc nv))), .second, .val (.int (1 : Int32)), .val (.double (own_sid (own_dd (946728000 : Int64) (0 : Int32)))), .second, .val (.int (1 : Int32)), .val (.int qq), .val (.long da), .second, .val (.double (own_sid (own_dd s1 (0 : Int32)))), .second, .val (.int (1 : Int32)), .val (.long db), .second, .val (.long s2), .second, .val (.double (own_sid (own_dd s2 (0 : Int32)))), .second, .val (.double (own_sid (own_dd s3 (0 : Int32)))), .second, .val (.double (FP.dsub (own_sid (own_dd s3 (0 : Int32))) (own_sid (own_dd s2 (0 : Int32))))), .second, .val (.int (1 : Int32))] []))
    refine own_st (fun t k => XS.iload X96.here hx rfl (hb hby at_251) rfl k) ?_
    show own_Run p e below s _ _ _ (T96.setTop (mkF m 253 #[.val (.long j0), .second, .val (.int i1), .val (.int i2), .val (.int i3), .val (.double (4618760256179416344 : UInt64)), .second, .val (.long sc), .second, .val (.int nv), .val (.double (own_sid (own_dd sc nv))), .second, .val (.int (1 : Int32)), .val (.double (own_sid (own_dd (946728000 : Int64) (0 : Int32)))), .second, .val (.int (1 : Int32)), .val (.int qq), .val (.long da), .second, .val (.double (own_sid (own_dd s1 (0 : Int32)))), .second, .val (.int (1 : Int32)), .val (.long db), .second, .val (.long s2), .second, .val (.double (own_sid (own_dd s2 (0 : Int32)))), .second, .val (.double (own_sid (own_dd s3 (0 : Int32)))), .second, .val (.double (FP.dsub (own_sid (own_dd s3 (0 : Int32))) (own_sid (own_dd s2 (0 : Int32))))), .second, .val (.int (1 : Int32))] [(.int (1 : Int32))]))
    refine own_st (fun t k => XS.ifNo X96.here hx rfl (hb hby at_253) rfl ((if0 _ _).trans (feq (by decide : ¬ ((1 : Int32) = (0 : Int32)))).1) k) ?_
    show own_Run p e below s _ _ _ (T96.setTop (mkF m 256 #[.val (.long j0), .second, .val (.int i1), .val (.int i2), .val (.int i3), .val (.double (4618760256179416344 : UInt64)), .second, .val (.long sc), .second, .val (.int nv), .val (.double (own_sid (own_dd sc nv))), .second, .val (.int (1 : Int32)), .val (.double (own_sid (own_dd (946728000 : Int64) (0 : Int32)))), .second, .val (.int (1 : Int32)), .val (.int qq), .val (.long da), .second, .val (.double (own_sid (own_dd s1 (0 : Int32)))), .second, .val (.int (1 : Int32)), .val (.long db), .second, .val (.long s2), .second, .val (.double (own_sid (own_dd s2 (0 : Int32)))), .second, .val (.double (own_sid (own_dd s3 (0 : Int32)))), .second, .val (.double (FP.dsub (own_sid (own_dd s3 (0 : Int32))) (own_sid (own_dd s2 (0 : Int32))))), .second, .val (.int (1 : Int32))] []))
    refine own_st (fun t k => XS.iload X96.here hx rfl (hb hby at_256) rfl k) ?_
    show own_Run p e below s _ _ _ (T96.setTop (mkF m 258 #[.val (.long j0), .second, .val (.int i1), .val (.int i2), .val (.int i3), .val (.double (4618760256179416344 : UInt64)), .second, .val (.long sc), .second, .val (.int nv), .val (.double (own_sid (own_dd sc nv))), .second, .val (.int (1 : Int32)), .val (.double (own_sid (own_dd (946728000 : Int64) (0 : Int32)))), .second, .val (.int (1 : Int32)), .val (.int qq), .val (.long da), .second, .val (.double (own_sid (own_dd s1 (0 : Int32)))), .second, .val (.int (1 : Int32)), .val (.long db), .second, .val (.long s2), .second, .val (.double (own_sid (own_dd s2 (0 : Int32)))), .second, .val (.double (own_sid (own_dd s3 (0 : Int32)))), .second, .val (.double (FP.dsub (own_sid (own_dd s3 (0 : Int32))) (own_sid (own_dd s2 (0 : Int32))))), .second, .val (.int (1 : Int32))] [(.int (1 : Int32))]))
    refine own_st (fun t k => XS.ifNo X96.here hx rfl (hb hby at_258) rfl ((if0 _ _).trans (feq (by decide : ¬ ((1 : Int32) = (0 : Int32)))).1) k) ?_
    show own_Run p e below s _ _ _ (T96.setTop (mkF m 261 #[.val (.long j0), .second, .val (.int i1), .val (.int i2), .val (.int i3), .val (.double (4618760256179416344 : UInt64)), .second, .val (.long sc), .second, .val (.int nv), .val (.double (own_sid (own_dd sc nv))), .second, .val (.int (1 : Int32)), .val (.double (own_sid (own_dd (946728000 : Int64) (0 : Int32)))), .second, .val (.int (1 : Int32)), .val (.int qq), .val (.long da), .second, .val (.double (own_sid (own_dd s1 (0 : Int32)))), .second, .val (.int (1 : Int32)), .val (.long db), .second, .val (.long s2), .second, .val (.double (own_sid (own_dd s2 (0 : Int32)))), .second, .val (.double (own_sid (own_dd s3 (0 : Int32)))), .second, .val (.double (FP.dsub (own_sid (own_dd s3 (0 : Int32))) (own_sid (own_dd s2 (0 : Int32))))), .second, .val (.int (1 : Int32))] []))
    refine own_st (fun t k => XS.iload X96.here hx rfl (hb hby at_261) rfl k) ?_
    show own_Run p e below s _ _ _ (T96.setTop (mkF m 263 #[.val (.long j0), .second, .val (.int i1), .val (.int i2), .val (.int i3), .val (.double (4618760256179416344 : UInt64)), .second, .val (.long sc), .second, .val (.int nv), .val (.double (own_sid (own_dd sc nv))), .second, .val (.int (1 : Int32)), .val (.double (own_sid (own_dd (946728000 : Int64) (0 : Int32)))), .second, .val (.int (1 : Int32)), .val (.int qq), .val (.long da), .second, .val (.double (own_sid (own_dd s1 (0 : Int32)))), .second, .val (.int (1 : Int32)), .val (.long db), .second, .val (.long s2), .second, .val (.double (own_sid (own_dd s2 (0 : Int32)))), .second, .val (.double (own_sid (own_dd s3 (0 : Int32)))), .second, .val (.double (FP.dsub (own_sid (own_dd s3 (0 : Int32))) (own_sid (own_dd s2 (0 : Int32))))), .second, .val (.int (1 : Int32))] [(.int (1 : Int32))]))
    refine own_st (fun t k => XS.ifNo X96.here hx rfl (hb hby at_263) rfl ((if0 _ _).trans (feq (by decide : ¬ ((1 : Int32) = (0 : Int32)))).1) k) ?_
    show own_Run p e below s _ _ _ (T96.setTop (mkF m 266 #[.val (.long j0), .second, .val (.int i1), .val (.int i2), .val (.int i3), .val (.double (4618760256179416344 : UInt64)), .second, .val (.long sc), .second, .val (.int nv), .val (.double (own_sid (own_dd sc nv))), .second, .val (.int (1 : Int32)), .val (.double (own_sid (own_dd (946728000 : Int64) (0 : Int32)))), .second, .val (.int (1 : Int32)), .val (.int qq), .val (.long da), .second, .val (.double (own_sid (own_dd s1 (0 : Int32)))), .second, .val (.int (1 : Int32)), .val (.long db), .second, .val (.long s2), .second, .val (.double (own_sid (own_dd s2 (0 : Int32)))), .second, .val (.double (own_sid (own_dd s3 (0 : Int32)))), .second, .val (.double (FP.dsub (own_sid (own_dd s3 (0 : Int32))) (own_sid (own_dd s2 (0 : Int32))))), .second, .val (.int (1 : Int32))] []))
    refine own_st (fun t k => XS.iconst X96.here hx rfl (hb hby at_266) k) ?_
    show own_Run p e below s _ _ _ (T96.setTop (mkF m 267 #[.val (.long j0), .second, .val (.int i1), .val (.int i2), .val (.int i3), .val (.double (4618760256179416344 : UInt64)), .second, .val (.long sc), .second, .val (.int nv), .val (.double (own_sid (own_dd sc nv))), .second, .val (.int (1 : Int32)), .val (.double (own_sid (own_dd (946728000 : Int64) (0 : Int32)))), .second, .val (.int (1 : Int32)), .val (.int qq), .val (.long da), .second, .val (.double (own_sid (own_dd s1 (0 : Int32)))), .second, .val (.int (1 : Int32)), .val (.long db), .second, .val (.long s2), .second, .val (.double (own_sid (own_dd s2 (0 : Int32)))), .second, .val (.double (own_sid (own_dd s3 (0 : Int32)))), .second, .val (.double (FP.dsub (own_sid (own_dd s3 (0 : Int32))) (own_sid (own_dd s2 (0 : Int32))))), .second, .val (.int (1 : Int32))] [(.int (1 : Int32))]))
    refine own_st (fun t k => XS.goto X96.here hx rfl (pc0 := 267) (pc' := 271) rfl (hb hby at_267) (by decide) (by decide) k) ?_
    show own_Run p e below s _ _ _ (T96.setTop (mkF m 271 #[.val (.long j0), .second, .val (.int i1), .val (.int i2), .val (.int i3), .val (.double (4618760256179416344 : UInt64)), .second, .val (.long sc), .second, .val (.int nv), .val (.double (own_sid (own_dd sc nv))), .second, .val (.int (1 : Int32)), .val (.double (own_sid (own_dd (946728000 : Int64) (0 : Int32)))), .second, .val (.int (1 : Int32)), .val (.int qq), .val (.long da), .second, .val (.double (own_sid (own_dd s1 (0 : Int32)))), .second, .val (.int (1 : Int32)), .val (.long db), .second, .val (.long s2), .second, .val (.double (own_sid (own_dd s2 (0 : Int32)))), .second, .val (.double (own_sid (own_dd s3 (0 : Int32)))), .second, .val (.double (FP.dsub (own_sid (own_dd s3 (0 : Int32))) (own_sid (own_dd s2 (0 : Int32))))), .second, .val (.int (1 : Int32))] [(.int (1 : Int32))]))
    exact own_ret X96 hx hlk (t := .boolean) hret rfl (Or.inl ⟨rfl, by simp, _, rfl⟩) (hb hby at_271) (by decide) (by decide) ⟨rfl, N96⟩
set_option maxRecDepth 65536 in
set_option maxHeartbeats 40000000 in
theorem own_comes_1 {Post : Tables → Env → Array Value → State → Outcome → State → Prop} (hpost : ∀ tb e args s v u, (limb_1_1.after args s (.returned v) u = true ∧ limb_1_2.after args s (.returned v) u = true ∧ True) → FrameEnd s (.returned v) u (Jvm.fieldLocs frame_1_writes args s ++ Jvm.arrayLocs frame_1_arrays args s ++ Jvm.staticLocs frame_1_statics s) 24 128 → Post tb e args s (.returned v) u) :
    ArmFor flags0 classFile x code maxLocals ret World_1 tables_1 room_1 Calls_1 rest_1 Pre_1 Post := by
  intro l hfl _ _ p e ha hc hk s m args below hf hA hF happ hP
  obtain ⟨hcalls, hrest, hpre⟩ := hP
  obtain ⟨-, -, -, hnamed, -, -, -, hat⟩ := (Spec.applies_iff hf).mp happ
  obtain ⟨hg, hn⟩ := and_e (Cond.before_iff.mp (show (Jvm.Cond.and given_1 narrow_1).before args s = true from hpre))
  obtain ⟨gv1, gv2⟩ := and_e hg
  obtain ⟨gv3, gv4⟩ := and_e gv2
  obtain ⟨gv5, gv6⟩ := and_e gv4
  obtain ⟨gv7, gv8⟩ := and_e gv6
  obtain ⟨w0, w1, w2, w3, rfl⟩ : ∃ w0 w1 w2 w3 : Value, args = #[w0, w1, w2, w3] := by
    have hs : args.size = 4 := by simpa [Cond.value, given_1] using gv1
    obtain ⟨L⟩ := args
    match L, hs with
    | [w0, w1, w2, w3], _ => exact ⟨w0, w1, w2, w3, rfl⟩
  have hw := fun d (hd : d ∈ tables_1) => atoms_spec (ws := Jvm.Cond.code x code maxLocals ret :: tables_1) hat d (List.mem_cons_of_mem _ hd)
  have hfit : Fit s := fun {y c} hc i hi => by
    obtain ⟨ha, rfl⟩ := Array.getElem?_eq_some_iff.mp hc
    have q := List.all_eq_true.mp ((Array.all_eq_true_iff_forall_mem.mp hF) _ (Array.getElem_mem ha)) i (List.mem_range.mpr hi)
    simpa [Array.getElem?_eq_getElem hi] using q
  obtain ⟨hsets, hown0⟩ := atoms_of _ (rest_1_c_eq ▸ (show rest_1_c.before _ s = true from hrest))
  obtain ⟨i0, ei0⟩ := isL_v gv3
  obtain rfl : w0 = (.long i0) := Option.some.inj ei0
  obtain ⟨i1, ei1⟩ := is_v gv5
  obtain rfl : w1 = (.int i1) := Option.some.inj ei1
  obtain ⟨i2, ei2⟩ := is_v gv7
  obtain rfl : w2 = (.int i2) := Option.some.inj ei2
  obtain ⟨i3, ei3⟩ := is_v gv8
  obtain rfl : w3 = (.int i3) := Option.some.inj ei3
  have q2 := Cond.before_iff.mp (hsets _ (List.mem_of_getElem? (i := 2) rfl))
  obtain ⟨tE, etE⟩ := exa_v q2
  have S1 := Sta.start etE (Or.inl (hsets _ (List.mem_of_getElem? (i := 1) rfl)))
  have X1 := Exa.start etE q2
  have q3 := eqv_l (long_at (0)) (Cond.before_iff.mp (hsets _ (List.mem_of_getElem? (i := 3) rfl)))
  have F1 := Fld.start ((fld_at etE).symm.trans q3)
  have q4 := eqv_i (Term.int_eval (0)) (Cond.before_iff.mp (hsets _ (List.mem_of_getElem? (i := 4) rfl)))
  have F2 := Fld.start ((fld_at etE).symm.trans q4)
  obtain ⟨n, o, h1, h2, h3, _, L, rfl, ⟨rfl, N⟩, hq⟩ := own_rm0 l s _ hw tables_1 i0 i1 i2 i3 tE s.heap s.heap.size (Nat.le_refl _) (Old.start s) S1 X1 F1 F2 p e ha hc hk s m _ below hf ((Spec.applies_iff_loose hf).mp happ).1 ⟨rfl, State.Warmed39.refl s, rfl⟩ trivial
  refine ⟨n, _, h1, h2, h3, hpost _ _ _ _ _ _ ⟨Cond.after_iff.mpr rfl, Cond.after_iff.mpr (eq_i res_at (Term.int_eval (1)) rfl), trivial⟩ ⟨hq.1, hq.2.1, (hq.2.2.sift fun y hy => Or.inr (N y hy)).mono (by decide) (by decide)⟩⟩
theorem main_1_1 : Claimed_1_1 := own_comes_1 fun _ _ _ _ _ _ h hF => ⟨h.1, hF⟩
theorem main_1_2 : Claimed_1_2 := own_comes_1 fun _ _ _ _ _ _ h hF => ⟨h.2.1, hF⟩
end Jvm.Pilot.@@N@@
namespace Jvm.Pilot.@@N@@
open Jvm Jvm.ClassFile Sem Op Lib Jvm.Free Jvm.Stand Jvm.Pilot.@@N@@.Jvm.D
/-! MADE BY PROGRAM (witnessworld.py) out of the Statement's table words and the real class files: 15 classes; the members and pool entries that the words name. The judged class is class 1, her method 1. -/
namespace start1
open Jvm.ClassFile
def u (s : String) : CpInfo := .utf8 (stringToUtf16 s)
/-- a pool by its gaps: so many unusable entries, then the entry; so many at the end -/
def gap : Nat → List CpInfo → List CpInfo
  | 0, r => r
  | n + 1, r => .unusable :: gap n r
def poolList (es : List (Nat × CpInfo)) (last : Nat) : List CpInfo := es.foldr (fun e r => gap e.1 (e.2 :: r)) (gap last [])
def pool (es : List (Nat × CpInfo)) (last : Nat) : Array CpInfo := ⟨poolList es last⟩
def fileOf (pool : Array CpInfo) (this : Nat) (attrs : Array Attribute := #[]) (ms : Array MethodInfo := #[]) (fl : Nat := 33) (sup : Nat := 0) (ifs : Array Nat := #[]) (fds : Array FieldInfo := #[]) : ClassFile where
  minorVersion := 0
  majorVersion := 65
  constantPool := pool
  accessFlags := fl
  thisClass := this
  superClass := sup
  interfaces := ifs
  fields := fds
  methods := ms
  attributes := attrs
def plain (name : String) (sup : Option ClassId) : Class where
  name := name
  kind := .ordinary
  loader := none
  accessFlags := 33
  super := sup
  interfaces := #[]
  cf := none
  fields := #[]
  methods := #[]
  instanceTypes := #[]
  staticTypes := #[]
  resolved := #[]
  callSites := []
  init := .initialized
  statics := none
  mirror := none

def pool0 : Array CpInfo := pool [(5, u "<init>"), (0, u "()V"), (1, .class_ 10), (1, u "java/lang/Object")] 113

def k0c0 : Code := { maxStack := 0, maxLocals := 1, code := object_method_1_code, exceptionTable := #[], attributes := #[] }
def k0m0 : Method := { name := "<init>", desc := "()V", sig := { parameters := [], returnType := none }, accessFlags := 1, code := some k0c0 }
/-- java/lang/Object -/
def k0 : Class := { plain "java/lang/Object" none with
  accessFlags := 33
  interfaces := #[]
  cf := some (fileOf pool0 8 #[] #[{ accessFlags := 1, nameIndex := 5, descriptorIndex := 6, attributes := #[] }] 33 0 #[] #[])
  fields := #[]
  methods := #[k0m0]
  instanceTypes := #[]
  staticTypes := #[]
  resolved := Array.replicate 124 none
  statics := none }

def pool1 : Array CpInfo := pool [(2, .class_ 4), (1, u "java/lang/Object"), (0, u "<init>"), (0, u "()V"), (2, .double 4618760256179416344), (1, .long 31556889864403200), (1, .integer 2147483647), (0, .integer 1000000000), (0, .methodref 16 17), (0, .class_ 18), (0, .nameAndType 19 20), (0, u "java/time/Instant"), (0, u "ofEpochSecond"), (0, u "(JJ)Ljava/time/Instant;"), (0, .methodref 22 23), (0, .class_ 24), (0, .nameAndType 25 26), (0, u "com/example/swathplan/swathplan/orbit/Earth"), (0, u "siderealAngleRad"), (0, u "(Ljava/time/Instant;)D"), (0, .long 946728000), (1, .methodref 16 30), (0, .nameAndType 19 31), (0, u "(J)Ljava/time/Instant;"), (0, .double 4617197254800903644), (1, .integer 4000000), (0, .long 86400), (1, .long 21600), (1, .double 4598175219545276416), (1, .methodref 22 42), (0, .nameAndType 25 43), (0, u "(D)D"), (0, .integer 100000), (0, .double 4580615302692910451), (1, .double 4580615879153662755), (1, .class_ 50), (0, u "com/example/swathplan/swathplan/orbit/EarthSiderealAngleRadPinLaw"), (2, u "law"), (0, u "(JIII)Z")] 3

def k1m0 : Method := { name := "<init>", desc := "()V", sig := { parameters := [], returnType := none }, accessFlags := 1, code := none }
def k1c1 : Code := { maxStack := 8, maxLocals := 33, code := code, exceptionTable := #[], attributes := #[] }
def k1m1 : Method := { name := "law", desc := "(JIII)Z", sig := { parameters := [.long, .int, .int, .int], returnType := some .boolean }, accessFlags := 9, code := some k1c1 }
/-- com/example/swathplan/swathplan/orbit/EarthSiderealAngleRadPinLaw -/
def k1 : Class := { plain "com/example/swathplan/swathplan/orbit/EarthSiderealAngleRadPinLaw" (some 0) with
  accessFlags := 49
  interfaces := #[]
  cf := some (fileOf pool1 49 #[] #[{ accessFlags := 1, nameIndex := 5, descriptorIndex := 6, attributes := #[] }, { accessFlags := 9, nameIndex := 53, descriptorIndex := 54, attributes := #[] }] 49 2 #[] #[])
  fields := #[]
  methods := #[k1m0, k1m1]
  instanceTypes := #[]
  staticTypes := #[]
  resolved := Array.replicate 58 none
  statics := none }

def pool2 : Array CpInfo := pool [(4, .class_ 6), (1, u "java/time/temporal/TemporalAccessor"), (95, .class_ 103), (0, u "java/lang/Object")] 21

/-- java/time/temporal/TemporalAccessor -/
def k2 : Class := { plain "java/time/temporal/TemporalAccessor" (some 0) with
  accessFlags := 1537
  interfaces := #[]
  cf := some (fileOf pool2 4 #[] #[] 1537 102 #[] #[])
  fields := #[]
  methods := #[]
  instanceTypes := #[]
  staticTypes := #[]
  resolved := Array.replicate 125 none
  statics := none }

def pool3 : Array CpInfo := pool [(22, .class_ 24), (1, u "java/time/temporal/Temporal"), (2, .class_ 28), (0, u "java/lang/Object"), (0, .class_ 30), (0, u "java/time/temporal/TemporalAccessor")] 25

/-- java/time/temporal/Temporal -/
def k3 : Class := { plain "java/time/temporal/Temporal" (some 0) with
  accessFlags := 1537
  interfaces := #[2]
  cf := some (fileOf pool3 22 #[] #[] 1537 27 #[29] #[])
  fields := #[]
  methods := #[]
  instanceTypes := #[]
  staticTypes := #[]
  resolved := Array.replicate 56 none
  statics := none }

def pool4 : Array CpInfo := pool [(1, .class_ 2), (0, u "java/time/temporal/TemporalAdjuster"), (0, .class_ 4), (0, u "java/lang/Object")] 6

/-- java/time/temporal/TemporalAdjuster -/
def k4 : Class := { plain "java/time/temporal/TemporalAdjuster" (some 0) with
  accessFlags := 1537
  interfaces := #[]
  cf := some (fileOf pool4 1 #[] #[] 1537 3 #[] #[])
  fields := #[]
  methods := #[]
  instanceTypes := #[]
  staticTypes := #[]
  resolved := Array.replicate 11 none
  statics := none }

def pool5 : Array CpInfo := pool [(1, .class_ 2), (0, u "java/lang/Comparable"), (0, .class_ 4), (0, u "java/lang/Object")] 7

/-- java/lang/Comparable -/
def k5 : Class := { plain "java/lang/Comparable" (some 0) with
  accessFlags := 1537
  interfaces := #[]
  cf := some (fileOf pool5 1 #[] #[] 1537 3 #[] #[])
  fields := #[]
  methods := #[]
  instanceTypes := #[]
  staticTypes := #[]
  resolved := Array.replicate 12 none
  statics := none }

def pool6 : Array CpInfo := pool [(1, .class_ 2), (0, u "java/io/Serializable"), (0, .class_ 4), (0, u "java/lang/Object")] 2

/-- java/io/Serializable -/
def k6 : Class := { plain "java/io/Serializable" (some 0) with
  accessFlags := 1537
  interfaces := #[]
  cf := some (fileOf pool6 1 #[] #[] 1537 3 #[] #[])
  fields := #[]
  methods := #[]
  instanceTypes := #[]
  staticTypes := #[]
  resolved := Array.replicate 7 none
  statics := none }

def pool7 : Array CpInfo := pool [(20, .methodref 21 22), (0, .class_ 23), (0, .nameAndType 24 25), (0, u "java/time/Instant"), (0, u "create"), (0, u "(JI)Ljava/time/Instant;"), (0, .long 1000000000), (1, .methodref 29 30), (0, .class_ 31), (0, .nameAndType 32 33), (0, u "java/lang/Math"), (0, u "floorDiv"), (0, u "(JJ)J"), (0, .methodref 29 35), (0, .nameAndType 36 33), (0, u "addExact"), (0, .methodref 29 38), (0, .nameAndType 39 33), (0, u "floorMod"), (30, u "ofEpochSecond"), (0, u "(JJ)Ljava/time/Instant;"), (5, .nameAndType 78 79), (0, u "<init>"), (0, u "()V"), (41, .fieldref 21 122), (0, .nameAndType 123 124), (0, u "EPOCH"), (0, u "Ljava/time/Instant;"), (0, .long 18415187059542332416), (1, .long 31556889864403199), (6, .methodref 21 135), (0, .nameAndType 78 136), (0, u "(JI)V"), (0, .methodref 138 77), (0, .class_ 139), (0, u "java/lang/Object"), (0, .fieldref 21 141), (0, .nameAndType 142 143), (0, u "seconds"), (0, u "J"), (0, .fieldref 21 145), (0, .nameAndType 146 147), (0, u "nanos"), (0, u "I"), (28, .class_ 178), (1, u "java/time/temporal/Temporal"), (3, .class_ 184), (1, u "java/time/Instant$1"), (5, u "()I"), (17, .class_ 210), (1, u "java/time/temporal/TemporalAdjuster"), (21, u "()J"), (14, u "(J)Ljava/time/Instant;"), (175, u "MIN"), (4, u "MAX"), (0, .class_ 430), (0, u "java/lang/Comparable"), (0, .class_ 432), (0, u "java/io/Serializable"), (0, u "MIN_SECOND"), (1, u "MAX_SECOND"), (0, u "serialVersionUID"), (33, u "getEpochSecond"), (0, u "getNano")] 107

def k7c0 : Code := { maxStack := 3, maxLocals := 2, code := jdk_2320_method_3_code, exceptionTable := #[], attributes := #[] }
def k7m0 : Method := { name := "ofEpochSecond", desc := "(J)Ljava/time/Instant;", sig := { parameters := [.long], returnType := some (.object "java/time/Instant") }, accessFlags := 9, code := some k7c0 }
def k7c1 : Code := { maxStack := 6, maxLocals := 7, code := jdk_2320_method_4_code, exceptionTable := #[], attributes := #[] }
def k7m1 : Method := { name := "ofEpochSecond", desc := "(JJ)Ljava/time/Instant;", sig := { parameters := [.long, .long], returnType := some (.object "java/time/Instant") }, accessFlags := 9, code := some k7c1 }
def k7c2 : Code := { maxStack := 5, maxLocals := 3, code := jdk_2320_method_8_code, exceptionTable := #[], attributes := #[] }
def k7m2 : Method := { name := "create", desc := "(JI)Ljava/time/Instant;", sig := { parameters := [.long, .int], returnType := some (.object "java/time/Instant") }, accessFlags := 10, code := some k7c2 }
def k7c3 : Code := { maxStack := 3, maxLocals := 4, code := jdk_2320_method_9_code, exceptionTable := #[], attributes := #[] }
def k7m3 : Method := { name := "<init>", desc := "(JI)V", sig := { parameters := [.long, .int], returnType := none }, accessFlags := 2, code := some k7c3 }
def k7c4 : Code := { maxStack := 2, maxLocals := 1, code := jdk_2320_method_15_code, exceptionTable := #[], attributes := #[] }
def k7m4 : Method := { name := "getEpochSecond", desc := "()J", sig := { parameters := [], returnType := some .long }, accessFlags := 1, code := some k7c4 }
def k7c5 : Code := { maxStack := 1, maxLocals := 1, code := jdk_2320_method_16_code, exceptionTable := #[], attributes := #[] }
def k7m5 : Method := { name := "getNano", desc := "()I", sig := { parameters := [], returnType := some .int }, accessFlags := 1, code := some k7c5 }
/-- java/time/Instant -/
def k7 : Class := { plain "java/time/Instant" (some 0) with
  accessFlags := 49
  interfaces := #[3, 4, 5, 6]
  cf := some (fileOf pool7 21 #[.nestMembers #[182]] #[{ accessFlags := 9, nameIndex := 70, descriptorIndex := 247, attributes := #[] }, { accessFlags := 9, nameIndex := 70, descriptorIndex := 71, attributes := #[] }, { accessFlags := 10, nameIndex := 24, descriptorIndex := 25, attributes := #[] }, { accessFlags := 2, nameIndex := 78, descriptorIndex := 136, attributes := #[] }, { accessFlags := 1, nameIndex := 470, descriptorIndex := 232, attributes := #[] }, { accessFlags := 1, nameIndex := 471, descriptorIndex := 190, attributes := #[] }] 49 138 #[176, 208, 429, 431] #[{ accessFlags := 25, nameIndex := 123, descriptorIndex := 124, attributes := #[] }, { accessFlags := 26, nameIndex := 433, descriptorIndex := 143, attributes := #[] }, { accessFlags := 26, nameIndex := 435, descriptorIndex := 143, attributes := #[] }, { accessFlags := 25, nameIndex := 423, descriptorIndex := 124, attributes := #[] }, { accessFlags := 25, nameIndex := 428, descriptorIndex := 124, attributes := #[] }, { accessFlags := 26, nameIndex := 436, descriptorIndex := 143, attributes := #[] }, { accessFlags := 18, nameIndex := 142, descriptorIndex := 143, attributes := #[] }, { accessFlags := 18, nameIndex := 146, descriptorIndex := 147, attributes := #[] }])
  fields := #[{ name := "EPOCH", type := (.object "java/time/Instant"), accessFlags := 25, slot := 0, constantValue := 0 }, { name := "MIN_SECOND", type := .long, accessFlags := 26, slot := 1, constantValue := 0 }, { name := "MAX_SECOND", type := .long, accessFlags := 26, slot := 2, constantValue := 0 }, { name := "MIN", type := (.object "java/time/Instant"), accessFlags := 25, slot := 3, constantValue := 0 }, { name := "MAX", type := (.object "java/time/Instant"), accessFlags := 25, slot := 4, constantValue := 0 }, { name := "serialVersionUID", type := .long, accessFlags := 26, slot := 5, constantValue := 0 }, { name := "seconds", type := .long, accessFlags := 18, slot := 0, constantValue := 0 }, { name := "nanos", type := .int, accessFlags := 18, slot := 1, constantValue := 0 }]
  methods := #[k7m0, k7m1, k7m2, k7m3, k7m4, k7m5]
  instanceTypes := #[.long, .int]
  staticTypes := #[(.object "java/time/Instant"), .long, .long, (.object "java/time/Instant"), (.object "java/time/Instant"), .long]
  resolved := Array.replicate 579 none
  statics := some 0 }

def pool8 : Array CpInfo := pool [(1, .class_ 2), (0, u "java/lang/Math"), (1, .class_ 6), (1, u "java/lang/Object"), (0, u "<init>"), (0, u "()V"), (89, .class_ 100), (1, u "java/lang/Math$RandomNumberGeneratorHolder"), (20, u "(JJ)J"), (23, u "floorDiv"), (2, u "floorMod"), (23, u "negativeZeroFloatBits"), (0, u "J"), (2, u "negativeZeroDoubleBits"), (68, u "$assertionsDisabled"), (0, u "Z"), (91, u "twoToTheDoubleScaleDown"), (0, u "D"), (4, u "twoToTheDoubleScaleUp"), (9, u "E"), (3, u "PI"), (2, u "TAU"), (2, u "DEGREES_TO_RADIANS"), (0, u "RADIANS_TO_DEGREES"), (27, u "addExact")] 66

def k8m0 : Method := { name := "<init>", desc := "()V", sig := { parameters := [], returnType := none }, accessFlags := 2, code := none }
def k8c1 : Code := { maxStack := 6, maxLocals := 6, code := jdk_29_method_25_code, exceptionTable := #[], attributes := #[] }
def k8m1 : Method := { name := "addExact", desc := "(JJ)J", sig := { parameters := [.long, .long], returnType := some .long }, accessFlags := 9, code := some k8c1 }
def k8c2 : Code := { maxStack := 4, maxLocals := 6, code := jdk_29_method_49_code, exceptionTable := #[], attributes := #[] }
def k8m2 : Method := { name := "floorDiv", desc := "(JJ)J", sig := { parameters := [.long, .long], returnType := some .long }, accessFlags := 9, code := some k8c2 }
def k8c3 : Code := { maxStack := 4, maxLocals := 6, code := jdk_29_method_52_code, exceptionTable := #[], attributes := #[] }
def k8m3 : Method := { name := "floorMod", desc := "(JJ)J", sig := { parameters := [.long, .long], returnType := some .long }, accessFlags := 9, code := some k8c3 }
/-- java/lang/Math -/
def k8 : Class := { plain "java/lang/Math" (some 0) with
  accessFlags := 49
  interfaces := #[]
  cf := some (fileOf pool8 1 #[.nestMembers #[98]] #[{ accessFlags := 2, nameIndex := 7, descriptorIndex := 8, attributes := #[] }, { accessFlags := 9, nameIndex := 393, descriptorIndex := 121, attributes := #[] }, { accessFlags := 9, nameIndex := 145, descriptorIndex := 121, attributes := #[] }, { accessFlags := 9, nameIndex := 148, descriptorIndex := 121, attributes := #[] }] 49 4 #[] #[{ accessFlags := 25, nameIndex := 354, descriptorIndex := 339, attributes := #[] }, { accessFlags := 25, nameIndex := 358, descriptorIndex := 339, attributes := #[] }, { accessFlags := 25, nameIndex := 361, descriptorIndex := 339, attributes := #[] }, { accessFlags := 26, nameIndex := 364, descriptorIndex := 339, attributes := #[] }, { accessFlags := 26, nameIndex := 365, descriptorIndex := 339, attributes := #[] }, { accessFlags := 26, nameIndex := 172, descriptorIndex := 173, attributes := #[] }, { accessFlags := 26, nameIndex := 176, descriptorIndex := 173, attributes := #[] }, { accessFlags := 8, nameIndex := 344, descriptorIndex := 339, attributes := #[] }, { accessFlags := 8, nameIndex := 338, descriptorIndex := 339, attributes := #[] }, { accessFlags := 4120, nameIndex := 245, descriptorIndex := 246, attributes := #[] }])
  fields := #[{ name := "E", type := .double, accessFlags := 25, slot := 0, constantValue := 0 }, { name := "PI", type := .double, accessFlags := 25, slot := 1, constantValue := 0 }, { name := "TAU", type := .double, accessFlags := 25, slot := 2, constantValue := 0 }, { name := "DEGREES_TO_RADIANS", type := .double, accessFlags := 26, slot := 3, constantValue := 0 }, { name := "RADIANS_TO_DEGREES", type := .double, accessFlags := 26, slot := 4, constantValue := 0 }, { name := "negativeZeroFloatBits", type := .long, accessFlags := 26, slot := 5, constantValue := 0 }, { name := "negativeZeroDoubleBits", type := .long, accessFlags := 26, slot := 6, constantValue := 0 }, { name := "twoToTheDoubleScaleUp", type := .double, accessFlags := 8, slot := 7, constantValue := 0 }, { name := "twoToTheDoubleScaleDown", type := .double, accessFlags := 8, slot := 8, constantValue := 0 }, { name := "$assertionsDisabled", type := .boolean, accessFlags := 4120, slot := 9, constantValue := 0 }]
  methods := #[k8m0, k8m1, k8m2, k8m3]
  instanceTypes := #[]
  staticTypes := #[.double, .double, .double, .double, .double, .long, .long, .double, .double, .boolean]
  resolved := Array.replicate 460 none
  statics := none }

def pool9 : Array CpInfo := pool [(1, .class_ 2), (0, u "com/example/swathplan/swathplan/orbit/Earth"), (1, .class_ 6), (1, u "java/lang/Object"), (0, u "<init>"), (0, u "()V"), (0, .methodref 1 10), (0, .nameAndType 11 12), (0, u "daysSinceJ2000"), (0, u "(Ljava/time/Instant;)D"), (0, .methodref 1 14), (0, .nameAndType 15 16), (0, u "siderealAngleRad"), (0, u "(D)D"), (0, .double 4675252771358769152), (1, .double 4679361958876123245), (1, .double 4748926635797512960), (1, .double 4591373270898472171), (1, .double 4528933693928425934), (1, .double 4680673776000565248), (1, .double 4611686018427387904), (3, .double 4614256656552045848), (1, .double 4618760256179416344), (1, .methodref 38 39), (0, .class_ 40), (0, .nameAndType 41 42), (0, u "java/time/Instant"), (0, u "getEpochSecond"), (0, u "()J"), (0, .long 946728000), (1, .methodref 38 46), (0, .nameAndType 47 48), (0, u "getNano"), (0, u "()I"), (0, .double 4741671816366391296), (7, u "EQUATORIAL_RADIUS_KM"), (0, u "D"), (3, u "FLATTENING"), (2, u "ECCENTRICITY_SQUARED"), (2, u "J2000_EPOCH_SECOND"), (0, u "J"), (0, u "SECONDS_PER_DAY")] 8

def k9m0 : Method := { name := "<init>", desc := "()V", sig := { parameters := [], returnType := none }, accessFlags := 2, code := none }
def k9c1 : Code := { maxStack := 2, maxLocals := 1, code := prog_44_method_2_code, exceptionTable := #[], attributes := #[] }
def k9m1 : Method := { name := "siderealAngleRad", desc := "(Ljava/time/Instant;)D", sig := { parameters := [(.object "java/time/Instant")], returnType := some .double }, accessFlags := 9, code := some k9c1 }
def k9c2 : Code := { maxStack := 8, maxLocals := 8, code := prog_44_method_3_code, exceptionTable := #[], attributes := #[] }
def k9m2 : Method := { name := "siderealAngleRad", desc := "(D)D", sig := { parameters := [.double], returnType := some .double }, accessFlags := 8, code := some k9c2 }
def k9c3 : Code := { maxStack := 6, maxLocals := 1, code := prog_44_method_4_code, exceptionTable := #[], attributes := #[] }
def k9m3 : Method := { name := "daysSinceJ2000", desc := "(Ljava/time/Instant;)D", sig := { parameters := [(.object "java/time/Instant")], returnType := some .double }, accessFlags := 8, code := some k9c3 }
/-- com/example/swathplan/swathplan/orbit/Earth -/
def k9 : Class := { plain "com/example/swathplan/swathplan/orbit/Earth" (some 0) with
  accessFlags := 49
  interfaces := #[]
  cf := some (fileOf pool9 1 #[] #[{ accessFlags := 2, nameIndex := 7, descriptorIndex := 8, attributes := #[] }, { accessFlags := 9, nameIndex := 15, descriptorIndex := 12, attributes := #[] }, { accessFlags := 8, nameIndex := 15, descriptorIndex := 16, attributes := #[] }, { accessFlags := 8, nameIndex := 11, descriptorIndex := 12, attributes := #[] }] 49 4 #[] #[{ accessFlags := 25, nameIndex := 57, descriptorIndex := 58, attributes := #[] }, { accessFlags := 25, nameIndex := 62, descriptorIndex := 58, attributes := #[] }, { accessFlags := 24, nameIndex := 65, descriptorIndex := 58, attributes := #[] }, { accessFlags := 26, nameIndex := 68, descriptorIndex := 69, attributes := #[] }, { accessFlags := 26, nameIndex := 70, descriptorIndex := 58, attributes := #[] }])
  fields := #[{ name := "EQUATORIAL_RADIUS_KM", type := .double, accessFlags := 25, slot := 0, constantValue := 0 }, { name := "FLATTENING", type := .double, accessFlags := 25, slot := 1, constantValue := 0 }, { name := "ECCENTRICITY_SQUARED", type := .double, accessFlags := 24, slot := 2, constantValue := 0 }, { name := "J2000_EPOCH_SECOND", type := .long, accessFlags := 26, slot := 3, constantValue := 0 }, { name := "SECONDS_PER_DAY", type := .double, accessFlags := 26, slot := 4, constantValue := 0 }]
  methods := #[k9m0, k9m1, k9m2, k9m3]
  instanceTypes := #[]
  staticTypes := #[.double, .double, .double, .long, .double]
  resolved := Array.replicate 79 none
  statics := none }

def pool10 : Array CpInfo := pool [(1, u "java/lang/Cloneable"), (0, .class_ 1), (0, u "java/lang/Object"), (0, .class_ 3)] 3

/-- java/lang/Cloneable -/
def k10 : Class := { plain "java/lang/Cloneable" (some 0) with
  accessFlags := 1537
  interfaces := #[]
  cf := some (fileOf pool10 2 #[] #[] 1537 4 #[] #[])
  fields := #[]
  methods := #[]
  instanceTypes := #[]
  staticTypes := #[]
  resolved := Array.replicate 8 none
  statics := none }

/-- the primitive byte -/
def k11 : Class := { plain "byte" none with kind := .primitive 'B', accessFlags := 0x411 }
/-- [B -/
def k12 : Class := { plain "[B" (some 0) with kind := .array 11 .byte, interfaces := #[10, 6], accessFlags := 1041 }

/-- the primitive int -/
def k13 : Class := { plain "int" none with kind := .primitive 'I', accessFlags := 0x411 }
/-- [I -/
def k14 : Class := { plain "[I" (some 0) with kind := .array 13 .int, interfaces := #[10, 6], accessFlags := 1041 }

def heap : Heap := #[{ cls := 7, slots := #[.ref 1, .long 0, .long 0, .null, .null, .long 0], vm := .statics 7 },
  { cls := 7, slots := #[.long 0, .int 0], vm := .none }]
def classes : Array Class := #[k0, k1, k2, k3, k4, k5, k6, k7, k8, k9, k10, k11, k12, k13, k14]
def interned : List (Array UInt16 × Addr) := []
def slotsUsed : Nat := 8
def theMethod : MethodId := ⟨1, 1⟩
def args0 : Array Value := #[.long 3, .int 200, .int 3, .int 4]
def aboutOver (below : List Frame) : State where
  vm := { classes := classes, interned := interned.toArray }
  heap := heap
  slotsUsed := slotsUsed
  threads := #[{ frames := .invoking theMethod args0 :: below }]
def below0 : List Frame := [.native { method := ⟨0, 0⟩, args := #[] }]
def about1 : State := aboutOver below0
def p0 : Program := .bare "" "" ""
def e0 : Env := launch0.env 0 0 0
theorem w_frames : about1.frames = Frame.invoking theMethod args0 :: below0 := rfl
set_option maxRecDepth 65536 in
theorem w_args : argsFit about1.vm theMethod args0 = true := by decide +kernel
set_option maxRecDepth 65536 in
theorem w_heap : heapFits about1 = true := by decide +kernel
set_option maxRecDepth 65536 in
theorem w_runnable : about1.curStatus? = some .runnable := by decide +kernel
set_option maxRecDepth 65536 in
theorem w_alone : about1.alone = true := by decide +kernel
set_option maxRecDepth 65536 in
theorem w_named : about1.methodNamed? x = some theMethod := by decide +kernel
set_option maxRecDepth 65536 in
theorem w_hears : about1.hears theMethod below0 = true := by decide +kernel
set_option maxRecDepth 65536 in
theorem w_ripe : about1.ripe theMethod args0 below0 = true := by decide +kernel
theorem w_running : about1.status = .running := rfl
set_option maxRecDepth 65536 in
theorem w_room : about1.hasRoom e0.platform room_1 = true :=
  launch0.hasRoom_least _ room_1 (by decide +kernel) (by decide +kernel) (by decide +kernel) (by decide +kernel) (by decide +kernel) (by decide +kernel)
theorem allAtoms_all (ts : List Jvm.Cond) (a : Array Jvm.Value) (st : Jvm.State) : (allAtoms ts).before a st = ts.all (fun c => c.before a st) := by
  induction ts with
  | nil => rfl
  | cons c t ih =>
    show (Jvm.Cond.and c (allAtoms t)).before a st = _
    rw [Jvm.Cond.before_and, ih, List.all_cons]
def words1 : List Jvm.Cond := Jvm.Cond.code x code maxLocals ret :: tables_1
/-- a 'code' word, met by the world's own term for the bytes: nothing is compared byte by byte -/
theorem code_word {y : MethodName} {bytes : ByteArray} {mx : Nat} {rt : Option FieldType} {a : Array Value} {s : State} {m : MethodId} {meth : Method} {c : Code} (h1 : s.methodNamed? y = some m) (h2 : s.vm.method? m = some meth) (h3 : meth.code = some c) (h4 : c.code = bytes)
    (h5 : (c.maxLocals == mx && c.exceptionTable.isEmpty && decide (c.maxStack ≤ mostOperands) && decide (meth.sig.returnType = rt) && !meth.locks && decide (parseMethodDescriptor y.desc = some meth.sig)) = true) : (Jvm.Cond.code y bytes mx rt).before a s = true := by
  simp only [Bool.and_eq_true, beq_iff_eq, Bool.not_eq_true', decide_eq_true_eq] at h5
  obtain ⟨⟨⟨⟨⟨g1, g2⟩, g3⟩, g4⟩, g5⟩, g6⟩ := h5
  simp [Cond.before, Cond.holds, Cond.value, h1, h2, h3, h4, g1, g2, g3, g4, g5, g6]
def isCode : Jvm.Cond → Bool
  | .code _ _ _ _ => true
  | _ => false
theorem all_split {L : List Jvm.Cond} {P : Jvm.Cond → Bool} (h1 : L.all (fun c => isCode c || P c) = true) (h2 : ∀ c ∈ L.filter isCode, P c = true) : L.all P = true := by
  refine List.all_eq_true.mpr fun c hc => ?_
  have h := List.all_eq_true.mp h1 c hc
  rcases Bool.eq_false_or_eq_true (isCode c) with hi | hi
  · exact h2 c (List.mem_filter.mpr ⟨hc, hi⟩)
  · simpa [hi] using h
set_option maxRecDepth 65536 in
theorem w_c0 : (Jvm.Cond.code x code maxLocals ret).before args0 about1 = true := code_word (m := ⟨1, 1⟩) (meth := k1m1) (c := k1c1) (by decide +kernel) rfl rfl rfl (by decide +kernel)
set_option maxRecDepth 65536 in
theorem w_c1 : (Jvm.Cond.code ({ cls := "java/time/Instant", name := "ofEpochSecond", desc := "(JJ)Ljava/time/Instant;" } : Jvm.MethodName) jdk_2320_method_4_code (7 : Nat) (Option.some (Jvm.ClassFile.FieldType.object "java/time/Instant"))).before args0 about1 = true := code_word (m := ⟨7, 1⟩) (meth := k7m1) (c := k7c1) (by decide +kernel) rfl rfl rfl (by decide +kernel)
set_option maxRecDepth 65536 in
theorem w_c2 : (Jvm.Cond.code ({ cls := "java/lang/Math", name := "floorDiv", desc := "(JJ)J" } : Jvm.MethodName) jdk_29_method_49_code (6 : Nat) (Option.some Jvm.ClassFile.FieldType.long)).before args0 about1 = true := code_word (m := ⟨8, 2⟩) (meth := k8m2) (c := k8c2) (by decide +kernel) rfl rfl rfl (by decide +kernel)
set_option maxRecDepth 65536 in
theorem w_c3 : (Jvm.Cond.code ({ cls := "java/lang/Math", name := "addExact", desc := "(JJ)J" } : Jvm.MethodName) jdk_29_method_25_code (6 : Nat) (Option.some Jvm.ClassFile.FieldType.long)).before args0 about1 = true := code_word (m := ⟨8, 1⟩) (meth := k8m1) (c := k8c1) (by decide +kernel) rfl rfl rfl (by decide +kernel)
set_option maxRecDepth 65536 in
theorem w_c4 : (Jvm.Cond.code ({ cls := "java/lang/Math", name := "floorMod", desc := "(JJ)J" } : Jvm.MethodName) jdk_29_method_52_code (6 : Nat) (Option.some Jvm.ClassFile.FieldType.long)).before args0 about1 = true := code_word (m := ⟨8, 3⟩) (meth := k8m3) (c := k8c3) (by decide +kernel) rfl rfl rfl (by decide +kernel)
set_option maxRecDepth 65536 in
theorem w_c5 : (Jvm.Cond.code ({ cls := "java/time/Instant", name := "create", desc := "(JI)Ljava/time/Instant;" } : Jvm.MethodName) jdk_2320_method_8_code (3 : Nat) (Option.some (Jvm.ClassFile.FieldType.object "java/time/Instant"))).before args0 about1 = true := code_word (m := ⟨7, 2⟩) (meth := k7m2) (c := k7c2) (by decide +kernel) rfl rfl rfl (by decide +kernel)
set_option maxRecDepth 65536 in
theorem w_c6 : (Jvm.Cond.code ({ cls := "java/time/Instant", name := "<init>", desc := "(JI)V" } : Jvm.MethodName) jdk_2320_method_9_code (4 : Nat) (Option.none : Option Jvm.ClassFile.FieldType)).before args0 about1 = true := code_word (m := ⟨7, 3⟩) (meth := k7m3) (c := k7c3) (by decide +kernel) rfl rfl rfl (by decide +kernel)
set_option maxRecDepth 65536 in
theorem w_c7 : (Jvm.Cond.code ({ cls := "java/lang/Object", name := "<init>", desc := "()V" } : Jvm.MethodName) object_method_1_code (1 : Nat) (Option.none : Option Jvm.ClassFile.FieldType)).before args0 about1 = true := code_word (m := ⟨0, 0⟩) (meth := k0m0) (c := k0c0) (by decide +kernel) rfl rfl rfl (by decide +kernel)
set_option maxRecDepth 65536 in
theorem w_c8 : (Jvm.Cond.code ({ cls := "com/example/swathplan/swathplan/orbit/Earth", name := "siderealAngleRad", desc := "(Ljava/time/Instant;)D" } : Jvm.MethodName) prog_44_method_2_code (1 : Nat) (Option.some Jvm.ClassFile.FieldType.double)).before args0 about1 = true := code_word (m := ⟨9, 1⟩) (meth := k9m1) (c := k9c1) (by decide +kernel) rfl rfl rfl (by decide +kernel)
set_option maxRecDepth 65536 in
theorem w_c9 : (Jvm.Cond.code ({ cls := "com/example/swathplan/swathplan/orbit/Earth", name := "daysSinceJ2000", desc := "(Ljava/time/Instant;)D" } : Jvm.MethodName) prog_44_method_4_code (1 : Nat) (Option.some Jvm.ClassFile.FieldType.double)).before args0 about1 = true := code_word (m := ⟨9, 3⟩) (meth := k9m3) (c := k9c3) (by decide +kernel) rfl rfl rfl (by decide +kernel)
set_option maxRecDepth 65536 in
theorem w_c10 : (Jvm.Cond.code ({ cls := "java/time/Instant", name := "getEpochSecond", desc := "()J" } : Jvm.MethodName) jdk_2320_method_15_code (1 : Nat) (Option.some Jvm.ClassFile.FieldType.long)).before args0 about1 = true := code_word (m := ⟨7, 4⟩) (meth := k7m4) (c := k7c4) (by decide +kernel) rfl rfl rfl (by decide +kernel)
set_option maxRecDepth 65536 in
theorem w_c11 : (Jvm.Cond.code ({ cls := "java/time/Instant", name := "getNano", desc := "()I" } : Jvm.MethodName) jdk_2320_method_16_code (1 : Nat) (Option.some Jvm.ClassFile.FieldType.int)).before args0 about1 = true := code_word (m := ⟨7, 5⟩) (meth := k7m5) (c := k7c5) (by decide +kernel) rfl rfl rfl (by decide +kernel)
set_option maxRecDepth 65536 in
theorem w_c12 : (Jvm.Cond.code ({ cls := "com/example/swathplan/swathplan/orbit/Earth", name := "siderealAngleRad", desc := "(D)D" } : Jvm.MethodName) prog_44_method_3_code (8 : Nat) (Option.some Jvm.ClassFile.FieldType.double)).before args0 about1 = true := code_word (m := ⟨9, 2⟩) (meth := k9m2) (c := k9c2) (by decide +kernel) rfl rfl rfl (by decide +kernel)
set_option maxRecDepth 65536 in
theorem w_c13 : (Jvm.Cond.code ({ cls := "java/time/Instant", name := "ofEpochSecond", desc := "(J)Ljava/time/Instant;" } : Jvm.MethodName) jdk_2320_method_3_code (2 : Nat) (Option.some (Jvm.ClassFile.FieldType.object "java/time/Instant"))).before args0 about1 = true := code_word (m := ⟨7, 0⟩) (meth := k7m0) (c := k7c0) (by decide +kernel) rfl rfl rfl (by decide +kernel)
def codes1 : List Jvm.Cond := [Jvm.Cond.code x code maxLocals ret, Jvm.Cond.code ({ cls := "java/time/Instant", name := "ofEpochSecond", desc := "(JJ)Ljava/time/Instant;" } : Jvm.MethodName) jdk_2320_method_4_code (7 : Nat) (Option.some (Jvm.ClassFile.FieldType.object "java/time/Instant")), Jvm.Cond.code ({ cls := "java/lang/Math", name := "floorDiv", desc := "(JJ)J" } : Jvm.MethodName) jdk_29_method_49_code (6 : Nat) (Option.some Jvm.ClassFile.FieldType.long), Jvm.Cond.code ({ cls := "java/lang/Math", name := "addExact", desc := "(JJ)J" } : Jvm.MethodName) jdk_29_method_25_code (6 : Nat) (Option.some Jvm.ClassFile.FieldType.long), Jvm.Cond.code ({ cls := "java/lang/Math", name := "floorMod", desc := "(JJ)J" } : Jvm.MethodName) jdk_29_method_52_code (6 : Nat) (Option.some Jvm.ClassFile.FieldType.long), Jvm.Cond.code ({ cls := "java/time/Instant", name := "create", desc := "(JI)Ljava/time/Instant;" } : Jvm.MethodName) jdk_2320_method_8_code (3 : Nat) (Option.some (Jvm.ClassFile.FieldType.object "java/time/Instant")), Jvm.Cond.code ({ cls := "java/time/Instant", name := "<init>", desc := "(JI)V" } : Jvm.MethodName) jdk_2320_method_9_code (4 : Nat) (Option.none : Option Jvm.ClassFile.FieldType), Jvm.Cond.code ({ cls := "java/lang/Object", name := "<init>", desc := "()V" } : Jvm.MethodName) object_method_1_code (1 : Nat) (Option.none : Option Jvm.ClassFile.FieldType), Jvm.Cond.code ({ cls := "com/example/swathplan/swathplan/orbit/Earth", name := "siderealAngleRad", desc := "(Ljava/time/Instant;)D" } : Jvm.MethodName) prog_44_method_2_code (1 : Nat) (Option.some Jvm.ClassFile.FieldType.double), Jvm.Cond.code ({ cls := "com/example/swathplan/swathplan/orbit/Earth", name := "daysSinceJ2000", desc := "(Ljava/time/Instant;)D" } : Jvm.MethodName) prog_44_method_4_code (1 : Nat) (Option.some Jvm.ClassFile.FieldType.double), Jvm.Cond.code ({ cls := "java/time/Instant", name := "getEpochSecond", desc := "()J" } : Jvm.MethodName) jdk_2320_method_15_code (1 : Nat) (Option.some Jvm.ClassFile.FieldType.long), Jvm.Cond.code ({ cls := "java/time/Instant", name := "getNano", desc := "()I" } : Jvm.MethodName) jdk_2320_method_16_code (1 : Nat) (Option.some Jvm.ClassFile.FieldType.int), Jvm.Cond.code ({ cls := "com/example/swathplan/swathplan/orbit/Earth", name := "siderealAngleRad", desc := "(D)D" } : Jvm.MethodName) prog_44_method_3_code (8 : Nat) (Option.some Jvm.ClassFile.FieldType.double), Jvm.Cond.code ({ cls := "java/time/Instant", name := "ofEpochSecond", desc := "(J)Ljava/time/Instant;" } : Jvm.MethodName) jdk_2320_method_3_code (2 : Nat) (Option.some (Jvm.ClassFile.FieldType.object "java/time/Instant"))]
set_option maxRecDepth 65536 in
theorem codes_eq : words1.filter isCode = codes1 := rfl
theorem w_codes : ∀ c ∈ words1.filter isCode, c.before args0 about1 = true := by
  rw [codes_eq]
  intro c hc
  simp only [codes1, List.mem_cons, List.not_mem_nil, or_false] at hc
  rcases hc with rfl | rfl | rfl | rfl | rfl | rfl | rfl | rfl | rfl | rfl | rfl | rfl | rfl | rfl
  · exact w_c0
  · exact w_c1
  · exact w_c2
  · exact w_c3
  · exact w_c4
  · exact w_c5
  · exact w_c6
  · exact w_c7
  · exact w_c8
  · exact w_c9
  · exact w_c10
  · exact w_c11
  · exact w_c12
  · exact w_c13
set_option maxRecDepth 65536 in
theorem w_t1 : (words1.take 24).all (fun c => isCode c || c.before args0 about1) = true := by decide +kernel
set_option maxRecDepth 65536 in
theorem w_t2 : ((words1.drop 24).take 24).all (fun c => isCode c || c.before args0 about1) = true := by decide +kernel
set_option maxRecDepth 65536 in
theorem w_t3 : (((words1.drop 24).drop 24).take 24).all (fun c => isCode c || c.before args0 about1) = true := by decide +kernel
set_option maxRecDepth 65536 in
theorem w_t4 : (((words1.drop 24).drop 24).drop 24).all (fun c => isCode c || c.before args0 about1) = true := by decide +kernel
theorem w_tables : (allAtoms (Jvm.Cond.code x code maxLocals ret :: tables_1)).before args0 about1 = true := by
  rw [allAtoms_all]
  show words1.all (fun c => c.before args0 about1) = true
  refine all_split ?_ w_codes
  rw [← List.take_append_drop 24 words1, List.all_append, w_t1, ← List.take_append_drop 24 (words1.drop 24), List.all_append, w_t2, ← List.take_append_drop 24 ((words1.drop 24).drop 24), List.all_append, w_t3, w_t4]
  rfl
set_option maxRecDepth 65536 in
theorem w_rest : rest_1_c.before args0 about1 = true := by decide +kernel
set_option maxRecDepth 65536 in
theorem w_case : (Jvm.Cond.and given_1 narrow_1).before args0 about1 = true := by decide +kernel
theorem w_applies : (headSpec (Jvm.Cond.code x code maxLocals ret :: tables_1) room_1).applies x e0.platform about1 = true :=
  (Spec.applies_iff w_frames).mpr ⟨w_running, w_runnable, w_alone, w_named, w_hears, w_ripe, w_room, w_tables⟩
theorem atStart : AtStart classFile x code maxLocals ret World_1 tables_1 room_1 Calls_1 rest_1 Pre_1 launch0 p0 e0 about1 theMethod args0 below0 :=
  ⟨lists_1, trivial, launch0.admits_env _ _ _, launch0.least_env, fairChoices_fair.cas, fairChoices_fair.clock, w_frames, w_args, w_heap, w_applies, trivial, w_rest, w_case⟩
end start1
theorem witness_1 : WitnessClaimed_1 := ⟨start1.p0, start1.e0, start1.about1, start1.theMethod, start1.args0, start1.below0, start1.atStart⟩
end Jvm.Pilot.@@N@@
