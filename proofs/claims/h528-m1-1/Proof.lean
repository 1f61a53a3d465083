import JvmDerived
import JvmDerived.Pilot.@@N@@Statement
import JvmDerived.Pilot.@@N@@Code
set_option linter.unusedVariables false
set_option linter.unusedSimpArgs false
namespace Jvm.Pilot.@@N@@
open Jvm Jvm.ClassFile Sem Op Lib Jvm.Free Jvm.Stand Jvm.LawKit Jvm.RoadKit Bundle Jvm.Pilot.@@N@@.Jvm.D
def own_Run (p : Program) (e : Env) (below : List Frame) (s : State) (Q : Option Value → Heap → List Loc → Prop) (ck sk : Nat) (U : State) : Prop :=
  ∃ s₂ o, Steps p.tables e below U s₂ ∧ s₂.status = .running ∧ Ended s₂ below o ∧ ∃ v L, o = .returned v ∧ Q v s₂.heap L ∧ FrameEnd s o s₂ L ck sk
section OwnLayer
variable {p : Program} {l : Launch} {e : Env} {R : Room} {s : State} {m : MethodId} {args : Array Value} {below : List Frame} {meth : Method} {c : Code} {T : State} {locs : List Loc} {cells slots : Nat} {Z : State} {a0 : Array Value} {h : Heap} {Q : Option Value → Heap → List Loc → Prop} {ck sk : Nat}
theorem own_st {U U' : State} (hh : ∀ t, Steps p.tables e below U' t → Steps p.tables e below U t) (K : own_Run p e below s Q ck sk U') : own_Run p e below s Q ck sk U := by
  obtain ⟨s2, o, h1, r⟩ := K
  exact ⟨s2, o, hh _ h1, r⟩
theorem own_topI {pc : Nat} {Ls : Array Slot} {st : List Value} {v v' : Int32} (hv : v = v') (K : own_Run p e below s Q ck sk (T.setTop (mkF m pc Ls (.int v' :: st)))) : own_Run p e below s Q ck sk (T.setTop (mkF m pc Ls (.int v :: st))) := hv ▸ K
theorem own_topJ {pc : Nat} {Ls : Array Slot} {st : List Value} {v v' : Int64} (hv : v = v') (K : own_Run p e below s Q ck sk (T.setTop (mkF m pc Ls (.long v' :: st)))) : own_Run p e below s Q ck sk (T.setTop (mkF m pc Ls (.long v :: st))) := hv ▸ K
theorem own_topD {pc : Nat} {Ls : Array Slot} {st : List Value} {v v' : UInt64} (hv : v = v') (K : own_Run p e below s Q ck sk (T.setTop (mkF m pc Ls (.double v' :: st)))) : own_Run p e below s Q ck sk (T.setTop (mkF m pc Ls (.double v :: st))) := hv ▸ K
theorem own_ret (X : Stand p l e R s m args below meth c T locs cells slots) (hx : p.tables.exec = Jvm.exec) (hlk : meth.locks = false) {pc : Nat} {Ls : Array Slot} {w : Value} {t : FieldType} {i : Instr} {rest : List Value} (hret : meth.sig.returnType = some t) (hn : narrow t w = w)
    (hi : (i = .ireturn ∧ (t = .int ∨ t = .boolean ∨ t = .byte ∨ t = .char ∨ t = .short) ∧ ∃ z, w = .int z) ∨ (i = .lreturn ∧ t = .long ∧ ∃ z, w = .long z) ∨ (i = .dreturn ∧ t = .double ∧ ∃ z, w = .double z) ∨ (i = .freturn ∧ t = .float ∧ ∃ z, w = .float z) ∨ (i = .areturn ∧ t.isReference = true ∧ w.isRef = true))
    (hd : decode c.code pc = .ok (i, 1)) (hc : cells ≤ ck) (hs : slots ≤ sk) (hq : Q (some w) T.heap locs) : own_Run p e below s Q ck sk (T.setTop (mkF m pc Ls (w :: rest))) := by
  obtain ⟨fs, hr, hrun, hended, hW, hsame⟩ := X.leave (v := some w) (fun q => by rw [hret] at q; cases q) hlk
  exact ⟨_, _, retOut X hx hret hn hi hd hr, hrun, hended, _, _, rfl, hq, ⟨_, rfl⟩, hW, hsame.mono hc hs⟩
theorem own_retV (X : Stand p l e R s m args below meth c T locs cells slots) (hx : p.tables.exec = Jvm.exec) (hlk : meth.locks = false) {pc : Nat} {Ls : Array Slot} (hret : meth.sig.returnType = none)
    (hd : decode c.code pc = .ok (.return_, 1)) (hc : cells ≤ ck) (hs : slots ≤ sk) (hq : Q none T.heap locs) : own_Run p e below s Q ck sk (T.setTop (mkF m pc Ls [])) := by
  obtain ⟨fs, hr, hrun, hended, hW, hsame⟩ := X.leave (v := none) (fun _ => rfl) hlk
  exact ⟨_, _, X.returnOut hx hret hd hr, hrun, hended, _, _, rfl, hq, ⟨_, rfl⟩, hW, hsame.mono hc hs⟩
theorem own_body {y : MethodName} {bytes : ByteArray} {maxL : Nat} {ret : Option FieldType} {ws : List Jvm.Cond} {rm : Room} {as' : Array Value} {h0 : Heap} (hpl : plainFor y = true)
    (hbody : ∀ (p : Program) (e : Env) (s : State) (m : MethodId) (below : List Frame) (meth : Method) (c : Code) (s₁ : State), p.tables.exec = Jvm.exec → c.code = bytes → c.maxLocals = maxL → Z.Warmed39 s.vm → s.vm.findClass y.cls = some m.cls → meth.name = y.name → meth.sig.returnType = ret → meth.locks = false → Stand p l e rm s m as' below meth c s₁ [] 0 0 → s₁.heap = h0 → own_Run p e below s Q rm.cells rm.slots (s₁.setTop (entryFrame m as' maxL))) :
    MetFree l y (head1 (Jvm.Cond.code y bytes maxL ret :: ws) rm) (fun a U => a = as' ∧ Z.Warmed39 U.vm ∧ U.heap = h0) (fun _ _ _ _ _ => True) (fun _ U o U' => ∃ v L, o = .returned v ∧ Q v U'.heap L ∧ FrameEnd U o U' L rm.cells rm.slots) := by
  refine MetFree.of_bodySF hpl hisR ?_
  intro p e s m args below meth c s₁ Bd hml0 hP hK
  obtain ⟨rfl, hZ, hh⟩ := hP
  exact hbody p e s m below meth c s₁ Bd.exec Bd.bytes hml0 hZ (findClass_of_methodNamed Bd.named) (name_of_methodNamed Bd.named Bd.method).1 Bd.returns Bd.notSynchronized (Stand.of_body Bd) (by rw [← hh, Bd.state]; rfl)
theorem own_callI (X : Stand p l e R s m args below meth c T locs cells slots) (hx : p.tables.exec = Jvm.exec) (hZ : Z.Warmed39 s.vm) {own : String} {idx : Nat} {y : MethodName} (hy1 : y.name = "<init>") (hown : s.vm.findClass own = some m.cls) (w1 : (Jvm.Cond.methodLink own idx y).before a0 Z = true) (w2 : (Jvm.Cond.instanceMethod y).before a0 Z = true)
    {bytes : ByteArray} {maxL : Nat} (w3 : (Jvm.Cond.code y bytes maxL none).before a0 Z = true) (wz : (Jvm.Cond.initialized y.cls).before a0 Z = true) (hy : y.cls ≠ "java/lang/invoke/MethodHandle" ∧ y.cls ≠ "java/lang/invoke/VarHandle") (eT : T.heap = h) {rm : Room} {Qc : Option Value → Heap → List Loc → Prop} {a : Addr} {argsL rest : List Value}
    (hM : MetFree l y (head1 [Jvm.Cond.code y bytes maxL none] rm) (fun b U => b = (Value.ref a :: argsL).toArray ∧ Z.Warmed39 U.vm ∧ U.heap = h) (fun _ _ _ _ _ => True) (fun _ U o U' => ∃ v L, o = .returned v ∧ Qc v U'.heap L ∧ FrameEnd U o U' L rm.cells rm.slots))
    {W : Nat} (hf : rm.frames + 1 ≤ R.frames) (hl : W + (maxL + 11) + rm.locals ≤ R.locals) {pc : Nat} {Ls : Array Slot} {st : List Value} (hsize : Ls.size = c.maxLocals) (hlen : ∀ sig, parseMethodDescriptor y.desc = some sig → argsL.length = sig.parameters.length) (hst : st = argsL.reverse ++ .ref a :: rest) (hW : (rest.map fun v => v.category).sum ≤ W) (hd : decode c.code pc = .ok (.invokespecial idx, 3)) (hc : cells + rm.cells ≤ R.cells) (hs : slots + rm.slots ≤ R.slots)
    (K : ∀ (T' : State) (v : Option Value) (L : List Loc), Stand p l e R s m args below meth c T' (locs ++ L) (cells + rm.cells) (slots + rm.slots) → Qc v T'.heap L → own_Run p e below s Q ck sk (T'.setTop (mkF m (pc + 3) Ls (v.toList ++ rest)))) :
    own_Run p e below s Q ck sk (T.setTop (mkF m pc Ls st)) := by
  obtain ⟨v, _, ⟨T', L', k', n'⟩, -, X', ⟨Lc, hQ, hl', hk', hn'⟩, st'⟩ := X.specialBack hx (y := y) hy1 hown (mvT hZ w1) (mvT hZ w2) (mvT hZ w3) hy (backOf (W := W) hM hZ w3 wz hf hl) (g := mkF m pc Ls st) rfl hsize (Steps.refl _) (a := a) (argsL := argsL) (rest := rest) hlen hst (by show 2 * 0 + _ ≤ _; omega) hd (fun _ _ => ⟨rfl, eT, hc, hs⟩)
  dsimp only [Pt.U, Pt.locs, Pt.cells, Pt.slots] at X' hl' hk' hn' st' hQ
  subst hl' hk' hn'
  exact own_st (fun t k => st'.trans k) (K T' v Lc X' hQ)
theorem own_callV (X : Stand p l e R s m args below meth c T locs cells slots) (hx : p.tables.exec = Jvm.exec) (hZ : Z.Warmed39 s.vm) {own C : String} {idx : Nat} {y : MethodName} (hown : s.vm.findClass own = some m.cls) (w1 : (Jvm.Cond.methodLink own idx y).before a0 Z = true) (w2 : (Jvm.Cond.declares y).before a0 Z = true) (w3 : (Jvm.Cond.selects C y y).before a0 Z = true) (w4 : (Jvm.Cond.instanceMethod y).before a0 Z = true)
    {bytes : ByteArray} {maxL : Nat} {ret : Option FieldType} (w5 : (Jvm.Cond.code y bytes maxL ret).before a0 Z = true) (wz : (Jvm.Cond.initialized y.cls).before a0 Z = true) (hy : y.cls ≠ "java/lang/invoke/MethodHandle" ∧ y.cls ≠ "java/lang/invoke/VarHandle") (eT : T.heap = h) {a : Addr} (E : Exa Z h a C) {rm : Room} {Qc : Option Value → Heap → List Loc → Prop} {argsL rest : List Value}
    (hM : MetFree l y (head1 [Jvm.Cond.code y bytes maxL ret] rm) (fun b U => b = (Value.ref a :: argsL).toArray ∧ Z.Warmed39 U.vm ∧ U.heap = h) (fun _ _ _ _ _ => True) (fun _ U o U' => ∃ v L, o = .returned v ∧ Qc v U'.heap L ∧ FrameEnd U o U' L rm.cells rm.slots))
    {W : Nat} (hf : rm.frames + 1 ≤ R.frames) (hl : W + (maxL + 11) + rm.locals ≤ R.locals) {pc : Nat} {Ls : Array Slot} {st : List Value} (hsize : Ls.size = c.maxLocals) (hlen : ∀ sig, parseMethodDescriptor y.desc = some sig → argsL.length = sig.parameters.length) (hst : st = argsL.reverse ++ .ref a :: rest) (hW : (rest.map fun v => v.category).sum ≤ W) (hd : decode c.code pc = .ok (.invokevirtual idx, 3)) (hc : cells + rm.cells ≤ R.cells) (hs : slots + rm.slots ≤ R.slots)
    (K : ∀ (T' : State) (v : Option Value) (L : List Loc), Stand p l e R s m args below meth c T' (locs ++ L) (cells + rm.cells) (slots + rm.slots) → Qc v T'.heap L → own_Run p e below s Q ck sk (T'.setTop (mkF m (pc + 3) Ls (v.toList ++ rest)))) :
    own_Run p e below s Q ck sk (T.setTop (mkF m pc Ls st)) := by
  obtain ⟨cq, kq, qa, qb, qc⟩ := isOf hZ eT E
  obtain ⟨v, _, ⟨T', L', k', n'⟩, -, X', ⟨Lc, hQ, hl', hk', hn'⟩, st'⟩ := X.virtualBack hx (y := y) (z := y) hown (mvT hZ w1) (mvT hZ w2) (notFace_of_selects (args := #[]) (mvT hZ w3)) (mvT hZ w3) (mvT hZ w4) hy (backOf (W := W) hM hZ w5 wz hf hl) qa qc (g := mkF m pc Ls st) rfl hsize (Steps.refl _) (argsL := argsL) (rest := rest) hlen hst (by show 2 * 0 + _ ≤ _; omega) hd (fun _ _ => ⟨rfl, eT, hc, hs⟩)
  dsimp only [Pt.U, Pt.locs, Pt.cells, Pt.slots] at X' hl' hk' hn' st' hQ
  subst hl' hk' hn'
  exact own_st (fun t k => st'.trans k) (K T' v Lc X' hQ)
theorem own_callS (X : Stand p l e R s m args below meth c T locs cells slots) (hx : p.tables.exec = Jvm.exec) (hZ : Z.Warmed39 s.vm) {own : String} {idx : Nat} {y : MethodName} (hown : s.vm.findClass own = some m.cls) (w1 : (Jvm.Cond.methodLink own idx y).before a0 Z = true) (w2 : (Jvm.Cond.static y).before a0 Z = true)
    {bytes : ByteArray} {maxL : Nat} {ret : Option FieldType} (w5 : (Jvm.Cond.code y bytes maxL ret).before a0 Z = true) (wz : (Jvm.Cond.initialized y.cls).before a0 Z = true) (hy : y.cls ≠ "java/lang/invoke/MethodHandle" ∧ y.cls ≠ "java/lang/invoke/VarHandle") (eT : T.heap = h) {rm : Room} {Qc : Option Value → Heap → List Loc → Prop} {argsL rest : List Value}
    (hM : MetFree l y (head1 [Jvm.Cond.code y bytes maxL ret] rm) (fun b U => b = argsL.toArray ∧ Z.Warmed39 U.vm ∧ U.heap = h) (fun _ _ _ _ _ => True) (fun _ U o U' => ∃ v L, o = .returned v ∧ Qc v U'.heap L ∧ FrameEnd U o U' L rm.cells rm.slots))
    {W : Nat} (hf : rm.frames + 1 ≤ R.frames) (hl : W + (maxL + 11) + rm.locals ≤ R.locals) {pc : Nat} {Ls : Array Slot} {st : List Value} (hsize : Ls.size = c.maxLocals) (hlen : ∀ sig, parseMethodDescriptor y.desc = some sig → argsL.length = sig.parameters.length) (hst : st = argsL.reverse ++ rest) (hW : (rest.map fun v => v.category).sum ≤ W) (hd : decode c.code pc = .ok (.invokestatic idx, 3)) (hc : cells + rm.cells ≤ R.cells) (hs : slots + rm.slots ≤ R.slots)
    (K : ∀ (T' : State) (v : Option Value) (L : List Loc), Stand p l e R s m args below meth c T' (locs ++ L) (cells + rm.cells) (slots + rm.slots) → Qc v T'.heap L → own_Run p e below s Q ck sk (T'.setTop (mkF m (pc + 3) Ls (v.toList ++ rest)))) :
    own_Run p e below s Q ck sk (T.setTop (mkF m pc Ls st)) := by
  obtain ⟨v, _, ⟨T', L', k', n'⟩, -, X', ⟨Lc, hQ, hl', hk', hn'⟩, st'⟩ := Jvm.LawKit.callS X hx (y := y) hown (mvT hZ w1) (mvT hZ w2) (mvT hZ wz) (mvT hZ w5) hy (backOf (W := W) hM hZ w5 wz hf hl) (g := mkF m pc Ls st) rfl hsize (argsL := argsL) (rest := rest) hlen hst (by show 2 * 0 + _ ≤ _; omega) hd (fun _ _ => ⟨rfl, eT, hc, hs⟩)
  dsimp only [Pt.U, Pt.locs, Pt.cells, Pt.slots] at X' hl' hk' hn' st' hQ
  subst hl' hk' hn'
  exact own_st st' (K T' v Lc X' hQ)
end OwnLayer
section OwnNums
open Jvm.FP Jvm.Free.Fl
theorem own_b53 (x : Int32) : B53 x.toInt64 := by
  have := x.le_toInt; have := x.toInt_lt
  unfold B53; rw [Int32.toInt_toInt64]; omega
theorem own_i64lt (x y : Int32) : x.toInt64 < y.toInt64 ↔ x < y := by
  rw [Int64.lt_iff_toInt_lt, Int32.lt_iff_toInt_lt, Int32.toInt_toInt64, Int32.toInt_toInt64]
theorem own_i64eq (x y : Int32) : x.toInt64 = y.toInt64 ↔ x = y := by
  rw [← Int64.toInt_inj, ← Int32.toInt_inj, Int32.toInt_toInt64, Int32.toInt_toInt64]
theorem own_dcmp_lt (x y : Int32) (o : CmpOp) : cmpValue (FP.dcmp (FP.i2d x) (FP.i2d y)) o < 0 ↔ x < y := by
  rw [i2d_w, i2d_w, dcmpV_w (own_b53 x) (own_b53 y), lw_lt, own_i64lt]
theorem own_dcmp_gt (x y : Int32) (o : CmpOp) : 0 < cmpValue (FP.dcmp (FP.i2d x) (FP.i2d y)) o ↔ y < x := by
  rw [i2d_w, i2d_w, dcmpV_w (own_b53 x) (own_b53 y), lw_gt, own_i64lt]
theorem own_dcmp_eq (x y : Int32) (o : CmpOp) : cmpValue (FP.dcmp (FP.i2d x) (FP.i2d y)) o = 0 ↔ x = y := by
  rw [i2d_w, i2d_w, dcmpV_w (own_b53 x) (own_b53 y), lw_eq, own_i64eq]
theorem own_sub_lt (x y : Int32) : lcmpW (x.toInt64 - y.toInt64) 0 < 0 ↔ x < y := by
  have h := sub64 (own_b53 x) (own_b53 y)
  rw [lw_lt, Int64.lt_iff_toInt_lt, Int32.lt_iff_toInt_lt, h, Int32.toInt_toInt64, Int32.toInt_toInt64]
  have : (0 : Int64).toInt = 0 := rfl
  omega
end OwnNums
section OwnWords
theorem own_eqint {args : Array Value} {first s : State} {o : Option Outcome} {idx : List Nat} {t : Term} {k : Int32} (h : (Jvm.Cond.eq t (.int k)).value args first o s idx = some true) : t.eval args first o idx s = some (.int k) := by
  simp only [Cond.value, Term.eval] at h
  cases ht : t.eval args first o idx s with
  | none => simp [ht] at h
  | some x => cases x <;> simp [ht] at h ⊢; exact h
end OwnWords
section OwnInts
theorem own_prod {a b : Int} {A B : Nat} (ha : a.natAbs ≤ A) (hb : b.natAbs ≤ B) : (a * b).natAbs ≤ A * B := by
  rw [Int.natAbs_mul]; exact Nat.mul_le_mul ha hb
theorem own_shr (x : Int32) : (x >>> ((11 : Int32) &&& 31)).toInt.natAbs ≤ 1048576 := by
  rw [c_ishr x 11 11 (by decide)]
  have := x.le_toInt; have := x.toInt_lt
  show (x.toInt / (2048 : Nat)).natAbs ≤ _
  omega
end OwnInts
section OwnFl
open Jvm.FP Jvm.Free.Fl
abbrev own_zv (a : UInt64) : Int := Core.zval Core.b64 (Core.val64 a)
abbrev own_zm (a : UInt64) : Nat := Core.zmag Core.b64 (Core.val64 a)
theorem own_one : (Core.one64 : Nat) = 2 ^ 1074 := rfl
theorem own_finnn {a : UInt64} (h : Core.DFin a) : NoNaN64 a := (fin64_core.mpr h).noNaN
theorem own_finne {a : UInt64} (h : Core.DFin a) : Core.val64 a ≠ .nan := h.ne_nan
theorem own_addle {a b V : UInt64} (ha : Core.DFin a) (hb : Core.DFin b) (hV : Core.val64 V ≠ .nan) (h : own_zv a + own_zv b ≤ own_zv V) : own_zv (FP.dadd a b) ≤ own_zv V := by
  show Core.zval Core.b64 (Core.val64 (Core.dadd a b)) ≤ _
  rw [Core.val64_dadd]
  exact Core.sum_le Core.good_b64 ha hb (Core.val64_fits a) (Core.val64_fits b) (Core.val64_fits V) hV h
theorem own_addge {a b V : UInt64} (ha : Core.DFin a) (hb : Core.DFin b) (hV : Core.val64 V ≠ .nan) (h : own_zv V ≤ own_zv a + own_zv b) : own_zv V ≤ own_zv (FP.dadd a b) := by
  show _ ≤ Core.zval Core.b64 (Core.val64 (Core.dadd a b))
  rw [Core.val64_dadd]
  exact Core.sum_ge Core.good_b64 ha hb (Core.val64_fits a) (Core.val64_fits b) (Core.val64_fits V) hV h
theorem own_negfin {b : UInt64} (hb : Core.DFin b) : ∃ s c q, Core.negate (Core.val64 b) = .fin s c q := by
  obtain ⟨s, c, q, h⟩ := hb
  exact ⟨!s, c, q, by rw [h]; rfl⟩
theorem own_suble {a b V : UInt64} (ha : Core.DFin a) (hb : Core.DFin b) (hV : Core.val64 V ≠ .nan) (h : own_zv a - own_zv b ≤ own_zv V) : own_zv (FP.dsub a b) ≤ own_zv V := by
  show Core.zval Core.b64 (Core.val64 (Core.dsub a b)) ≤ _
  rw [Core.val64_dsub]
  exact Core.sum_le Core.good_b64 ha (own_negfin hb) (Core.val64_fits a) (Core.negate_fits (Core.val64_fits b)) (Core.val64_fits V) hV (by rw [Core.zval_negate]; exact h)
theorem own_subge {a b V : UInt64} (ha : Core.DFin a) (hb : Core.DFin b) (hV : Core.val64 V ≠ .nan) (h : own_zv V ≤ own_zv a - own_zv b) : own_zv V ≤ own_zv (FP.dsub a b) := by
  show _ ≤ Core.zval Core.b64 (Core.val64 (Core.dsub a b))
  rw [Core.val64_dsub]
  exact Core.sum_ge Core.good_b64 ha (own_negfin hb) (Core.val64_fits a) (Core.negate_fits (Core.val64_fits b)) (Core.val64_fits V) hV (by rw [Core.zval_negate]; exact h)
theorem own_pow2q : (2 ^ (Core.b64.qmin - 2 * Core.b64.qmin).toNat : Nat) = Core.one64 := by
  rw [show Core.b64.qmin - 2 * Core.b64.qmin = -Core.b64.qmin by omega]; exact Core.pow_qmin64
theorem own_mulle {a b V : UInt64} (ha : Core.DFin a) (hb : Core.DFin b) (hV : Core.val64 V ≠ .nan) (h : own_zv a * own_zv b ≤ own_zv V * (Core.one64 : Int)) : own_zv (FP.dmul a b) ≤ own_zv V := by
  obtain ⟨s, c, q, ea⟩ := ha
  obtain ⟨t, d, r, eb⟩ := hb
  have fa := Core.val64_fits a
  have fb := Core.val64_fits b
  rw [ea] at fa; rw [eb] at fb
  obtain ⟨h1, h2, h3⟩ := Core.product_units fa fb
  show Core.zval Core.b64 (Core.val64 (Core.dmul a b)) ≤ _
  rw [Core.val64_dmul, ea, eb, h1]
  refine Core.zval_round_le Core.good_b64 (Core.val64_fits V) hV (e0 := 2 * Core.b64.qmin) (by decide) h2 ?_
  rw [h3, Core.signed_xor, own_pow2q]
  simp only [own_zv, ea, eb] at h
  exact h
theorem own_mulge {a b V : UInt64} (ha : Core.DFin a) (hb : Core.DFin b) (hV : Core.val64 V ≠ .nan) (h : own_zv V * (Core.one64 : Int) ≤ own_zv a * own_zv b) : own_zv V ≤ own_zv (FP.dmul a b) := by
  obtain ⟨s, c, q, ea⟩ := ha
  obtain ⟨t, d, r, eb⟩ := hb
  have fa := Core.val64_fits a
  have fb := Core.val64_fits b
  rw [ea] at fa; rw [eb] at fb
  obtain ⟨h1, h2, h3⟩ := Core.product_units fa fb
  show _ ≤ Core.zval Core.b64 (Core.val64 (Core.dmul a b))
  rw [Core.val64_dmul, ea, eb, h1]
  refine Core.zval_round_ge Core.good_b64 (Core.val64_fits V) hV (e0 := 2 * Core.b64.qmin) (by decide) h2 ?_
  rw [h3, Core.signed_xor, own_pow2q]
  simp only [own_zv, ea, eb] at h
  exact h
theorem own_divdat {a b : UInt64} (ha : Core.DFin a) (hb : Core.DFin b) (hz : own_zm b ≠ 0) : ∃ (s t : Bool) (c d : Nat) (q r : Int), Core.val64 a = .fin s c q ∧ Core.val64 b = .fin t d r ∧ 0 < d ∧ Core.b64.qmin ≤ q ∧ Core.b64.qmin ≤ r ∧ Core.val64 (FP.ddiv a b) = Core.roundRatio Core.b64 (s != t) c d (q - r) := by
  obtain ⟨s, c, q, ea⟩ := ha
  obtain ⟨t, d, r, eb⟩ := hb
  have fa := Core.val64_fits a
  have fb := Core.val64_fits b
  rw [ea] at fa; rw [eb] at fb
  have hd : d ≠ 0 := fun q => hz (by unfold own_zm; rw [eb, q]; show Core.inUnits 0 _ _ = 0; unfold Core.inUnits; exact Nat.zero_mul _)
  refine ⟨s, t, c, d, q, r, ea, eb, Nat.pos_of_ne_zero hd, fa.2.1, fb.2.1, ?_⟩
  show Core.val64 (Core.ddiv a b) = _
  rw [Core.val64_ddiv, ea, eb]
  show (if d = 0 then _ else _) = _
  rw [if_neg hd]
theorem own_divunits {c d : Nat} {q r : Int} (hq : Core.b64.qmin ≤ q) (hr : Core.b64.qmin ≤ r) : 2 * Core.b64.qmin - r ≤ Core.b64.qmin ∧ 2 * Core.b64.qmin - r ≤ q - r ∧ Core.inUnits c (q - r) (2 * Core.b64.qmin - r) = Core.inUnits c q Core.b64.qmin * Core.one64 ∧ ∀ m : Nat, m * 2 ^ (Core.b64.qmin - (2 * Core.b64.qmin - r)).toNat * d = m * Core.inUnits d r Core.b64.qmin := by
  have hqm : Core.b64.qmin = -1074 := Core.qmin_b64
  refine ⟨by omega, by omega, ?_, fun m => ?_⟩
  · unfold Core.inUnits
    rw [show (q - r - (2 * Core.b64.qmin - r)).toNat = (q - Core.b64.qmin).toNat + (-Core.b64.qmin).toNat by omega, Nat.pow_add, Core.pow_qmin64, Nat.mul_assoc]
  · unfold Core.inUnits
    rw [show (Core.b64.qmin - (2 * Core.b64.qmin - r)).toNat = (r - Core.b64.qmin).toNat by omega, Nat.mul_assoc, Nat.mul_comm d]
theorem own_divle {a b V : UInt64} (ha : Core.DFin a) (hb : Core.DFin b) (hz : own_zm b ≠ 0) (hV : Core.val64 V ≠ .nan) (h : own_zm a * Core.one64 ≤ own_zm V * own_zm b) : own_zm (FP.ddiv a b) ≤ own_zm V := by
  obtain ⟨s, t, c, d, q, r, ea, eb, hd, hq, hr, e⟩ := own_divdat ha hb hz
  obtain ⟨u1, u2, u3, u4⟩ := own_divunits (c := c) (d := d) hq hr
  unfold own_zm
  rw [e]
  refine Core.zmag_roundRatio_le Core.good_b64 hd (Core.val64_fits V) hV u1 u2 ?_
  rw [u3, u4]
  simp only [own_zm, ea, eb] at h
  exact h
theorem own_divge {a b V : UInt64} (ha : Core.DFin a) (hb : Core.DFin b) (hz : own_zm b ≠ 0) (h : own_zm V * own_zm b ≤ own_zm a * Core.one64) : own_zm V ≤ own_zm (FP.ddiv a b) := by
  obtain ⟨s, t, c, d, q, r, ea, eb, hd, hq, hr, e⟩ := own_divdat ha hb hz
  obtain ⟨u1, u2, u3, u4⟩ := own_divunits (c := c) (d := d) hq hr
  unfold own_zm
  rw [e]
  refine Core.zmag_roundRatio_ge Core.good_b64 hd (Core.val64_fits V) u1 u2 ?_
  rw [u3, u4]
  simp only [own_zm, ea, eb] at h
  exact h
theorem own_divsgn {a b : UInt64} (ha : Core.DFin a) (hb : Core.DFin b) (hz : own_zm b ≠ 0) : Core.sgn (Core.val64 (FP.ddiv a b)) = (Core.sgn (Core.val64 a) != Core.sgn (Core.val64 b)) ∧ Core.val64 (FP.ddiv a b) ≠ .nan := by
  obtain ⟨s, t, c, d, q, r, ea, eb, hd, hq, hr, e⟩ := own_divdat ha hb hz
  rw [e, ea, eb]
  exact ⟨Core.sgn_roundRatio _ _ _ _ _, Core.roundRatio_ne_nan _ _ _ _ _⟩
theorem own_fintop {a : UInt64} (hn : Core.val64 a ≠ .nan) (h : own_zm a < Core.b64.tails * 2 ^ (Core.b64.exps - 2)) : Core.DFin a := by
  cases e : Core.val64 a with
  | nan => exact absurd e hn
  | inf s => rw [own_zm, e] at h; exact absurd h (Nat.lt_irrefl _)
  | fin s c q => exact ⟨s, c, q, e⟩
theorem own_finle {a V : UInt64} (hn : Core.val64 a ≠ .nan) (hV : Core.DFin V) (h : own_zm a ≤ own_zm V) : Core.DFin a := own_fintop hn (Nat.lt_of_le_of_lt h hV.zval_lt)
theorem own_zmabs (a : UInt64) : (own_zv a).natAbs = own_zm a := Core.natAbs_signed _ _
theorem own_addne {a b : UInt64} (ha : Core.DFin a) (hb : Core.DFin b) : Core.val64 (FP.dadd a b) ≠ .nan := (Core.notNaN_iff _).mp (Core.dadd_out ha.notNaN hb)
theorem own_subne {a b : UInt64} (ha : Core.DFin a) (hb : Core.DFin b) : Core.val64 (FP.dsub a b) ≠ .nan := (Core.notNaN_iff _).mp (Core.dsub_out ha.notNaN hb)
theorem own_mulne {a b : UInt64} (ha : Core.DFin a) (hb : Core.DFin b) : Core.val64 (FP.dmul a b) ≠ .nan := (Core.notNaN_iff _).mp (Core.dmul_out ha hb)
theorem own_nnof {a : UInt64} (h : Core.val64 a ≠ .nan) : NoNaN64 a := val64_no.mpr h
/-- the double a is i times two to the power (j - 1074) -/
def own_Z (j : Nat) (i : Int) (a : UInt64) : Prop := Core.DFin a ∧ own_zv a = i * ((2 ^ j : Nat) : Int)
theorem own_rep (n : Int) (j : Nat) (hn : n.natAbs < 2 ^ 53) (hj : j ≤ 2045) : ∃ V, own_Z j n V := by
  have hqm : Core.b64.qmin = -1074 := Core.qmin_b64
  have hqx : Core.b64.qmax = 971 := by decide
  obtain ⟨c', q', h1, h2⟩ := Core.round_exact Core.good_b64 (decide (n < 0)) (c := n.natAbs) (q := Core.b64.qmin + j) hn (by omega) (by omega)
  have hv : Core.val64 (Core.of64 (Core.round Core.b64 (.fin (decide (n < 0)) n.natAbs (Core.b64.qmin + j)))) = .fin (decide (n < 0)) c' q' := by
    rw [Core.val64_of64 (Core.round_fits Core.good_b64 _), h1]
  refine ⟨_, ⟨_, _, _, hv⟩, ?_⟩
  unfold own_zv
  rw [hv]
  show Core.signed (decide (n < 0)) (Core.inUnits c' q' Core.b64.qmin) = _
  rw [h2]
  unfold Core.inUnits
  rw [show (Core.b64.qmin + (j : Int) - Core.b64.qmin).toNat = j by omega, Core.signed_mul]
  congr 1
  unfold Core.signed
  by_cases h : n < 0 <;> simp [h] <;> omega
theorem own_Z.nn {j : Nat} {i : Int} {a : UInt64} (h : own_Z j i a) : NoNaN64 a := own_finnn h.1
theorem own_Z.eqv {j : Nat} {i : Int} {a V : UInt64} (hV : own_Z j i V) (hn : Core.val64 a ≠ .nan) (h1 : own_zv a ≤ own_zv V) (h2 : own_zv V ≤ own_zv a) : own_Z j i a := by
  have e : own_zv a = own_zv V := Int.le_antisymm h1 h2
  refine ⟨own_finle hn hV.1 ?_, e.trans hV.2⟩
  rw [← own_zmabs, ← own_zmabs, e]; exact Nat.le_refl _
theorem own_Z.add {j : Nat} {i k : Int} {a b : UInt64} (ha : own_Z j i a) (hb : own_Z j k b) (hn : (i + k).natAbs < 2 ^ 53) (hj : j ≤ 2045 := by decide) : own_Z j (i + k) (FP.dadd a b) := by
  obtain ⟨V, hV⟩ := own_rep (i + k) j hn hj
  have e : own_zv a + own_zv b = own_zv V := by rw [ha.2, hb.2, hV.2, Int.add_mul]
  exact hV.eqv (own_addne ha.1 hb.1) (own_addle ha.1 hb.1 (own_finne hV.1) (Int.le_of_eq e)) (own_addge ha.1 hb.1 (own_finne hV.1) (Int.le_of_eq e.symm))
theorem own_Z.sub {j : Nat} {i k : Int} {a b : UInt64} (ha : own_Z j i a) (hb : own_Z j k b) (hn : (i - k).natAbs < 2 ^ 53) (hj : j ≤ 2045 := by decide) : own_Z j (i - k) (FP.dsub a b) := by
  obtain ⟨V, hV⟩ := own_rep (i - k) j hn hj
  have e : own_zv a - own_zv b = own_zv V := by rw [ha.2, hb.2, hV.2, Int.sub_mul]
  exact hV.eqv (own_subne ha.1 hb.1) (own_suble ha.1 hb.1 (own_finne hV.1) (Int.le_of_eq e)) (own_subge ha.1 hb.1 (own_finne hV.1) (Int.le_of_eq e.symm))
theorem own_Z.mul {j j' J : Nat} {i k : Int} {a b : UInt64} (ha : own_Z j i a) (hb : own_Z j' k b) (hn : (i * k).natAbs < 2 ^ 53) (hJ : J + 1074 = j + j' := by decide) (hj : J ≤ 2045 := by decide) : own_Z J (i * k) (FP.dmul a b) := by
  obtain ⟨V, hV⟩ := own_rep (i * k) J hn hj
  have e : own_zv a * own_zv b = own_zv V * (Core.one64 : Int) := by
    rw [ha.2, hb.2, hV.2, own_one, Int.mul_assoc (i * k), ← Int.natCast_mul, ← Nat.pow_add, hJ, Nat.pow_add, Int.natCast_mul]
    simp only [Int.mul_assoc, Int.mul_left_comm, Int.mul_comm]
  exact hV.eqv (own_mulne ha.1 hb.1) (own_mulle ha.1 hb.1 (own_finne hV.1) (Int.le_of_eq e)) (own_mulge ha.1 hb.1 (own_finne hV.1) (Int.le_of_eq e.symm))
theorem own_zmZ {j : Nat} {i : Int} {a : UInt64} (h : own_Z j i a) : own_zm a = i.natAbs * 2 ^ j := by
  rw [← own_zmabs, h.2, Int.natAbs_mul, Int.natAbs_natCast]
theorem own_Z.div {j j' J : Nat} {i m : Int} {a b : UInt64} (ha : own_Z j (i * m) a) (hb : own_Z j' m b) (hm : m ≠ 0) (hn : i.natAbs < 2 ^ 53) (hJ : J + j' = j + 1074 := by decide) (hj : J ≤ 2045 := by decide) : own_Z J i (FP.ddiv a b) := by
  obtain ⟨V, hV⟩ := own_rep i J hn hj
  have hb0 : own_zm b ≠ 0 := by
    rw [own_zmZ hb]
    exact Nat.mul_ne_zero (by omega) (Nat.ne_of_gt (Nat.two_pow_pos _))
  have e : own_zm a * Core.one64 = own_zm V * own_zm b := by
    rw [own_zmZ ha, own_zmZ hb, own_zmZ hV, own_one, Int.natAbs_mul, Nat.mul_assoc, ← Nat.pow_add, ← hJ, Nat.pow_add]
    simp only [Nat.mul_assoc, Nat.mul_left_comm, Nat.mul_comm]
  obtain ⟨hs, hne⟩ := own_divsgn ha.1 hb.1 hb0
  have em : own_zm (FP.ddiv a b) = own_zm V := Nat.le_antisymm (own_divle ha.1 hb.1 hb0 (own_finne hV.1) (Nat.le_of_eq e)) (own_divge ha.1 hb.1 hb0 (Nat.le_of_eq e.symm))
  refine ⟨own_finle hne hV.1 (Nat.le_of_eq em), ?_⟩
  have ev : own_zv (FP.ddiv a b) * own_zv b = own_zv a * (Core.one64 : Int) := by
    show Core.signed _ _ * Core.signed _ _ = Core.signed _ _ * _
    rw [← Core.signed_xor, hs, ← Core.signed_mul]
    have e2 : Core.zmag Core.b64 (Core.val64 (FP.ddiv a b)) * Core.zmag Core.b64 (Core.val64 b) = Core.zmag Core.b64 (Core.val64 a) * Core.one64 := by
      rw [show Core.zmag Core.b64 (Core.val64 (FP.ddiv a b)) = own_zm V from em]; exact e.symm
    rw [e2]
    cases Core.sgn (Core.val64 a) <;> cases Core.sgn (Core.val64 b) <;> rfl
  rw [ha.2, hb.2, own_one] at ev
  have hp : ((2 ^ j' : Nat) : Int) ≠ 0 := by have := Nat.two_pow_pos j'; omega
  refine Int.eq_of_mul_eq_mul_right (Int.mul_ne_zero hm hp) (ev.trans ?_)
  rw [Int.mul_assoc (i * m), ← Int.natCast_mul, ← Nat.pow_add, ← hJ, Nat.pow_add, Int.natCast_mul]
  simp only [Int.mul_assoc, Int.mul_left_comm, Int.mul_comm]
theorem own_Z.neg {j : Nat} {i : Int} {a : UInt64} (h : own_Z j i a) : own_Z j (-i) (FP.dneg a) := by
  refine ⟨?_, ?_⟩
  · obtain ⟨s, c, q, e⟩ := own_negfin h.1
    exact ⟨s, c, q, by rw [FP.val64_dneg]; exact e⟩
  · unfold own_zv
    rw [FP.val64_dneg, Core.zval_negate]
    have := h.2; unfold own_zv at this; rw [this, Int.neg_mul]
theorem own_Z.of_int {i : Int} {a : UInt64} (h : Core.DInt i a) : own_Z 1074 i a := by
  refine ⟨?_, Core.DInt_zval h⟩
  unfold Core.DInt at h
  cases e : Core.val64 a with
  | nan => rw [e] at h; exact h.elim
  | inf s => rw [e] at h; exact h.elim
  | fin s c q => exact ⟨s, c, q, e⟩
theorem own_Z.i2d (x : Int32) : own_Z 1074 x.toInt (FP.i2d x) := own_Z.of_int (Core.i2d_int x)
theorem own_Z.l2d {x : Int64} (h : x.toInt.natAbs ≤ 2 ^ 53) : own_Z 1074 x.toInt (FP.l2d x) := own_Z.of_int (Core.l2d_int h)
theorem own_Z.shift {j k : Nat} {i : Int} {a : UInt64} (h : own_Z (j + k) i a) : own_Z j (i * ((2 ^ k : Nat) : Int)) a := by
  refine ⟨h.1, h.2.trans ?_⟩
  rw [Nat.add_comm, Nat.pow_add, Int.natCast_mul, Int.mul_assoc]
theorem own_Z.cmp {j : Nat} {i k : Int} {a b : UInt64} (ha : own_Z j i a) (hb : own_Z j k b) : FP.dcmp a b = some (compare i k) := by
  have h := Core.dcmp_zval (own_finne ha.1) (own_finne hb.1)
  have h1 := ha.2; have h2 := hb.2
  unfold own_zv at h1 h2
  rw [h1, h2, Core.compare_mul_pos _ _ _ (by have := Nat.two_pow_pos j; omega)] at h
  exact h
theorem own_Z.cmpE {j : Nat} {i k : Int} {a b : UInt64} (ha : own_Z j i a) (hb : own_Z j k b) (h : i = k) (o : CmpOp) : cmpValue (FP.dcmp a b) o = 0 := by
  rw [ha.cmp hb, (Core.compare_eq_iff _ _).mpr h]; cases o <;> rfl
theorem own_Z.cmpL {j : Nat} {i k : Int} {a b : UInt64} (ha : own_Z j i a) (hb : own_Z j k b) (h : i < k) (o : CmpOp) : cmpValue (FP.dcmp a b) o = -1 := by
  rw [ha.cmp hb, (Core.compare_lt_iff _ _).mpr h]; cases o <;> rfl
theorem own_Z.cmpG {j : Nat} {i k : Int} {a b : UInt64} (ha : own_Z j i a) (hb : own_Z j k b) (h : k < i) (o : CmpOp) : cmpValue (FP.dcmp a b) o = 1 := by
  rw [ha.cmp hb, (Core.compare_gt_iff _ _).mpr h]; cases o <;> rfl
theorem own_Z.eq {j : Nat} {i k : Int} {a : UInt64} (ha : own_Z j i a) (h : i = k) : own_Z j k a := h ▸ ha
theorem own_mulb {a b : Int} {A B : Nat} (ha : a.natAbs ≤ A) (hb : b.natAbs ≤ B) : (a * b).natAbs ≤ A * B := by
  rw [Int.natAbs_mul]; exact Nat.mul_le_mul ha hb
theorem own_Z0 : own_Z 1074 0 0 := by
  refine ⟨⟨false, 0, Core.b64.qmin, by decide +kernel⟩, by decide +kernel⟩
theorem own_Z1 : own_Z 1074 1 4607182418800017408 := own_Z.of_int Core.dint_one
end OwnFl
section OwnFl2
open Jvm.FP Jvm.Free.Fl
theorem own_Z.sgn {j : Nat} {i : Int} {a : UInt64} (h : own_Z j i a) (hi : i ≠ 0) : Core.sgn (Core.val64 a) = decide (i < 0) := by
  have hz := h.2
  have hp := Nat.two_pow_pos j
  have hm : 0 < own_zm a := by rw [own_zmZ h]; exact Nat.mul_pos (by omega) hp
  have hs : decide (Core.signed (Core.sgn (Core.val64 a)) (own_zm a) < 0) = Core.sgn (Core.val64 a) := Core.signed_lt_zero _ hm
  rw [← hs]
  have : Core.signed (Core.sgn (Core.val64 a)) (own_zm a) = i * ((2 ^ j : Nat) : Int) := hz
  rw [this]
  congr 1
  refine propext ⟨fun q => ?_, fun q => ?_⟩
  · exact Int.lt_of_not_ge fun r => absurd (Int.mul_nonneg r (Int.natCast_nonneg (2 ^ j))) (by omega)
  · exact Int.mul_neg_of_neg_of_pos q (by omega)
theorem own_divcongr {a b a' b' : UInt64} (ha : Core.DFin a) (hb : Core.DFin b) (ha' : Core.DFin a') (hb' : Core.DFin b') (hz : own_zm b ≠ 0) (hz' : own_zm b' ≠ 0)
    (hs : (Core.sgn (Core.val64 a) != Core.sgn (Core.val64 b)) = (Core.sgn (Core.val64 a') != Core.sgn (Core.val64 b'))) (h : own_zm a * own_zm b' = own_zm a' * own_zm b) : FP.ddiv a b = FP.ddiv a' b' := by
  obtain ⟨s, t, c, d, q, r, ea, eb, hd, hq, hr, e⟩ := own_divdat ha hb hz
  obtain ⟨s', t', c', d', q', r', ea', eb', hd', hq', hr', e'⟩ := own_divdat ha' hb' hz'
  have hn := (own_divsgn ha hb hz).2
  refine Core.val64_inj hn ?_
  show Core.val64 (FP.ddiv a b) = Core.val64 (FP.ddiv a' b')
  rw [e, e']
  simp only [ea, eb, ea', eb'] at hs
  have hs2 : (s != t) = (s' != t') := hs
  rw [hs2]
  refine Core.roundRatio_congr hd hd' ?_
  have h2 : Core.inUnits c q Core.b64.qmin * Core.inUnits d' r' Core.b64.qmin = Core.inUnits c' q' Core.b64.qmin * Core.inUnits d r Core.b64.qmin := by
    have := h; simp only [own_zm, ea, eb, ea', eb'] at this; exact this
  unfold Core.inUnits at h2
  have h3 : c * d' * 2 ^ ((q - Core.b64.qmin).toNat + (r' - Core.b64.qmin).toNat) = c' * d * 2 ^ ((q' - Core.b64.qmin).toNat + (r - Core.b64.qmin).toNat) := by
    rw [Nat.pow_add, Nat.pow_add]
    simp only [Nat.mul_assoc, Nat.mul_left_comm, Nat.mul_comm] at h2 ⊢
    exact h2
  rcases Int.le_total (q' + r) (q + r') with hle | hle
  · rw [show (q' - r' - (q - r)).toNat = 0 by omega, Nat.pow_zero, Nat.mul_one]
    have h4 : 2 ^ ((q - Core.b64.qmin).toNat + (r' - Core.b64.qmin).toNat) = 2 ^ (q - r - (q' - r')).toNat * 2 ^ ((q' - Core.b64.qmin).toNat + (r - Core.b64.qmin).toNat) := by rw [← Nat.pow_add]; congr 1; omega
    rw [h4, ← Nat.mul_assoc] at h3
    exact Nat.eq_of_mul_eq_mul_right (Nat.two_pow_pos _) h3
  · rw [show (q - r - (q' - r')).toNat = 0 by omega, Nat.pow_zero, Nat.mul_one]
    have h4 : 2 ^ ((q' - Core.b64.qmin).toNat + (r - Core.b64.qmin).toNat) = 2 ^ (q' - r' - (q - r)).toNat * 2 ^ ((q - Core.b64.qmin).toNat + (r' - Core.b64.qmin).toNat) := by rw [← Nat.pow_add]; congr 1; omega
    rw [h4, ← Nat.mul_assoc] at h3
    exact Nat.eq_of_mul_eq_mul_right (Nat.two_pow_pos _) h3
theorem own_Z.zm {j : Nat} {i : Int} {a : UInt64} (h : own_Z j i a) (hi : i ≠ 0) : own_zm a ≠ 0 := by
  rw [own_zmZ h]; exact Nat.mul_ne_zero (by omega) (Nat.ne_of_gt (Nat.two_pow_pos _))
theorem own_Z.divnn {j k : Nat} {i m : Int} {a b : UInt64} (ha : own_Z j i a) (hb : own_Z k m b) (hm : m ≠ 0) : NoNaN64 (FP.ddiv a b) := own_nnof (own_divsgn ha.1 hb.1 (hb.zm hm)).2
/-- two quotients of one worth: the same double -/
theorem own_Z.divsame {j k j' k' : Nat} {i m i' m' : Int} {a b a' b' : UInt64} (ha : own_Z j i a) (hb : own_Z k m b) (ha' : own_Z j' i' a') (hb' : own_Z k' m' b') (pi : 0 < i) (pm : 0 < m) (pi' : 0 < i') (pm' : 0 < m')
    (h : i.natAbs * 2 ^ j * (m'.natAbs * 2 ^ k') = i'.natAbs * 2 ^ j' * (m.natAbs * 2 ^ k)) : FP.ddiv a b = FP.ddiv a' b' := by
  refine own_divcongr ha.1 hb.1 ha'.1 hb'.1 (hb.zm (by omega)) (hb'.zm (by omega)) ?_ ?_
  · rw [ha.sgn (by omega), hb.sgn (by omega), ha'.sgn (by omega), hb'.sgn (by omega)]
    rw [decide_eq_false (by omega : ¬ i < 0), decide_eq_false (by omega : ¬ m < 0), decide_eq_false (by omega : ¬ i' < 0), decide_eq_false (by omega : ¬ m' < 0)]
  · rw [own_zmZ ha, own_zmZ hb, own_zmZ ha', own_zmZ hb']; exact h
end OwnFl2
section OwnSum
open Jvm.FP Jvm.Free.Fl
theorem own_m31 (x : Int32) : 0 ≤ (x &&& (2147483647 : Int32)).toInt := (c_and x 2147483647 (by decide)).1
theorem own_five (x : Int32) {n : Int32} (h : (x &&& (2147483647 : Int32)) % (5 : Int32) = n) : n = (0 : Int32) ∨ n = (1 : Int32) ∨ n = (2 : Int32) ∨ n = (3 : Int32) ∨ n = (4 : Int32) := by
  have q := (c_irem (x &&& (2147483647 : Int32)) 5 5 rfl).1 (own_m31 x)
  rw [h] at q
  have : n.toInt = 0 ∨ n.toInt = 1 ∨ n.toInt = 2 ∨ n.toInt = 3 ∨ n.toInt = 4 := by omega
  rcases this with r | r | r | r | r
  · exact Or.inl (Int32.toInt_inj.mp r)
  · exact Or.inr (Or.inl (Int32.toInt_inj.mp r))
  · exact Or.inr (Or.inr (Or.inl (Int32.toInt_inj.mp r)))
  · exact Or.inr (Or.inr (Or.inr (Or.inl (Int32.toInt_inj.mp r))))
  · exact Or.inr (Or.inr (Or.inr (Or.inr (Int32.toInt_inj.mp r))))
theorem own_zz {x : UInt64} {i : Int} {y : Int32} (h : own_Z 1074 i x) (hi : i.natAbs ≤ 17179869184) : own_Z 1074 (i + y.toInt) (FP.dadd x (FP.i2d y)) := h.add (own_Z.i2d y) (by have := y.le_toInt; have := y.toInt_lt; omega)
theorem own_ls {x : Int64} {i : Int} {y : Int32} (h : x.toInt = i) (hi : i.natAbs ≤ 17179869184) : (x + y.toInt64).toInt = i + y.toInt := by
  have := y.le_toInt; have := y.toInt_lt
  have w := Int32.toInt_toInt64 y
  rw [Core.int64_add (by rw [w]; omega) (by rw [w]; omega), w, h]
end OwnSum
section OwnTri
open Jvm.FP Jvm.Free.Fl
theorem own_three : own_Z 1074 3 4613937818241073152 := by refine ⟨⟨false, 6755399441055744, -51, by decide +kernel⟩, by decide +kernel⟩
theorem own_e1 (y : Int32) : FP.dadd 0 (FP.i2d y) = FP.l2d y.toInt64 := by
  rw [← l2d_zero, i2d_w, dadd_w ⟨by decide, by decide⟩ (own_b53 y), Int64.zero_add]
theorem own_e2 {x : UInt64} {a : Int64} {y : Int32} (h : x = FP.l2d a) (h1 : -9007199254740992 < a.toInt) (h2 : a.toInt < 9007199254740992) : FP.dadd x (FP.i2d y) = FP.l2d (a + y.toInt64) := by
  rw [h, i2d_w, dadd_w ⟨h1, h2⟩ (own_b53 y)]
end OwnTri
theorem own_d1_0 : decode prog_47_method_4_code 0 = .ok (.dconst 0, 1) := by decide +kernel
theorem own_d1_1 : decode prog_47_method_4_code 1 = .ok (.dstore_n 1, 1) := by decide +kernel
theorem own_d1_2 : decode prog_47_method_4_code 2 = .ok (.aload_n 0, 1) := by decide +kernel
theorem own_d1_3 : decode prog_47_method_4_code 3 = .ok (.astore_n 3, 1) := by decide +kernel
theorem own_d1_4 : decode prog_47_method_4_code 4 = .ok (.aload_n 3, 1) := by decide +kernel
theorem own_d1_5 : decode prog_47_method_4_code 5 = .ok (.arraylength, 1) := by decide +kernel
theorem own_d1_6 : decode prog_47_method_4_code 6 = .ok (.istore 4, 2) := by decide +kernel
theorem own_d1_8 : decode prog_47_method_4_code 8 = .ok (.iconst 0, 1) := by decide +kernel
theorem own_d1_9 : decode prog_47_method_4_code 9 = .ok (.istore 5, 2) := by decide +kernel
theorem own_d1_11 : decode prog_47_method_4_code 11 = .ok (.iload 5, 2) := by decide +kernel
theorem own_d1_13 : decode prog_47_method_4_code 13 = .ok (.iload 4, 2) := by decide +kernel
theorem own_d1_15 : decode prog_47_method_4_code 15 = .ok (.if_icmp .ge 20, 3) := by decide +kernel
theorem own_d1_35 : decode prog_47_method_4_code 35 = .ok (.dload_n 1, 1) := by decide +kernel
theorem own_d1_36 : decode prog_47_method_4_code 36 = .ok (.ldc2_w 55, 3) := by decide +kernel
theorem own_d1_39 : decode prog_47_method_4_code 39 = .ok (.ddiv, 1) := by decide +kernel
theorem own_d1_40 : decode prog_47_method_4_code 40 = .ok (.dreturn, 1) := by decide +kernel
set_option maxHeartbeats 4000000 in
theorem own_ef1pn0 (m : MethodId) (x0 : Addr) : entryFrame m #[(.ref x0)] 8 = mkF m 0 #[.val (.ref x0), .unset, .unset, .unset, .unset, .unset, .unset, .unset] [] := by first | (simp [entryFrame, mkF, argsToLocals, Value.category]; done) | rfl
theorem own_pn0 : plainName "com/example/triflux/triflux/eval/Accuracy" = true := by first | (simp [plainName, overriddenIn]; done) | decide +kernel
def own_Q1pn0 (Z : State) (a0 : Array Value) (o0 : Addr) (kc : ClassId) (h0 : Heap) (n0 : Nat) (v : Option Value) (h : Heap) (L : List Loc) : Prop := v = some (.double (FP.ddiv (0 : UInt64) (4613937818241073152 : UInt64))) ∧ Fr n0 L ∧ h = h0
set_option maxRecDepth 65536 in
set_option maxHeartbeats 40000000 in
theorem own_rm1pn0 (l : Launch) (Z : State) (a0 : Array Value) (hw : ∀ d ∈ tables_1, d.before a0 Z = true) (ws : List Jvm.Cond) (o0 : Addr) (kc : ClassId) (h0 : Heap) (n0 : Nat) (Z0 : n0 ≤ h0.size) (A_v : Arv Z h0 o0 kc .double (0 : Int32) [] (.double (0 : UInt64))) (pnq : Jvm.Free.Fl.NoNaN64 (FP.ddiv (0 : UInt64) (4613937818241073152 : UInt64))) :
    MetFree l (⟨"com/example/triflux/triflux/eval/Accuracy", "triangles", "([D)D"⟩ : MethodName) (head1 (Jvm.Cond.code (⟨"com/example/triflux/triflux/eval/Accuracy", "triangles", "([D)D"⟩ : MethodName) prog_47_method_4_code 8 (some .double) :: ws) ({ frames := 0, cells := 0, slots := 0, locals := 0 } : Room)) (fun a U => a = #[(.ref o0)] ∧ Z.Warmed39 U.vm ∧ U.heap = h0) (fun _ _ _ _ _ => True) (fun _ U o U' => ∃ v L, o = .returned v ∧ own_Q1pn0 Z a0 o0 kc h0 n0 v U'.heap L ∧ FrameEnd U o U' L ({ frames := 0, cells := 0, slots := 0, locals := 0 } : Room).cells ({ frames := 0, cells := 0, slots := 0, locals := 0 } : Room).slots) := by
  refine own_body (Q := fun v h L => own_Q1pn0 Z a0 o0 kc h0 n0 v h L) (plainFor_of_name own_pn0) ?_
  intro p e s m below meth c s₁ hx hby hml hZ hown hnm hret hlk X0 e0
  replace hml : c.maxLocals = 8 := hml
  have N0 := Fr.nil n0
  have K0 : Keep h0 h0 [] := Keep.refl _ _
  refine own_st (fun t k => castTop (own_ef1pn0 m o0) k) ?_
  show own_Run p e below s _ _ _ (s₁.setTop (mkF m 0 #[.val (.ref o0), .unset, .unset, .unset, .unset, .unset, .unset, .unset] []))
  refine own_st (fun t k => XS.dconst0 X0.here hx rfl (hb hby own_d1_0) (v := 0) rfl k) ?_
  show own_Run p e below s _ _ _ (s₁.setTop (mkF m 1 #[.val (.ref o0), .unset, .unset, .unset, .unset, .unset, .unset, .unset] [(.double (0 : UInt64))]))
  refine own_st (fun t k => XS.dstoreN X0.here hx rfl (hb hby own_d1_1) rfl (l' := #[.val (.ref o0), .val (.double (0 : UInt64)), .second, .unset, .unset, .unset, .unset, .unset]) rfl k) ?_
  show own_Run p e below s _ _ _ (s₁.setTop (mkF m 2 #[.val (.ref o0), .val (.double (0 : UInt64)), .second, .unset, .unset, .unset, .unset, .unset] []))
  refine own_st (fun t k => XS.aloadN X0.here hx rfl (hb hby own_d1_2) rfl rfl k) ?_
  show own_Run p e below s _ _ _ (s₁.setTop (mkF m 3 #[.val (.ref o0), .val (.double (0 : UInt64)), .second, .unset, .unset, .unset, .unset, .unset] [(.ref o0)]))
  refine own_st (fun t k => XS.astoreN X0.here hx rfl (hb hby own_d1_3) rfl rfl (l' := #[.val (.ref o0), .val (.double (0 : UInt64)), .second, .val (.ref o0), .unset, .unset, .unset, .unset]) rfl k) ?_
  show own_Run p e below s _ _ _ (s₁.setTop (mkF m 4 #[.val (.ref o0), .val (.double (0 : UInt64)), .second, .val (.ref o0), .unset, .unset, .unset, .unset] []))
  refine own_st (fun t k => XS.aloadN X0.here hx rfl (hb hby own_d1_4) rfl rfl k) ?_
  show own_Run p e below s _ _ _ (s₁.setTop (mkF m 5 #[.val (.ref o0), .val (.double (0 : UInt64)), .second, .val (.ref o0), .unset, .unset, .unset, .unset] [(.ref o0)]))
  obtain ⟨cl1, Ar1, -, S1, N1, -, -⟩ := id A_v
  refine own_st (X0.arraylength hx (by rw [e0]; exact Ar1.1) (State.isArrayOf_alike hZ.alike Ar1.2.1) (g := (mkF m 5 #[.val (.ref o0), .val (.double (0 : UInt64)), .second, .val (.ref o0), .unset, .unset, .unset, .unset] [(.ref o0)])) rfl rfl (hb hby own_d1_5)) ?_
  rw [len_of S1 N1]
  show own_Run p e below s _ _ _ (s₁.setTop (mkF m 6 #[.val (.ref o0), .val (.double (0 : UInt64)), .second, .val (.ref o0), .unset, .unset, .unset, .unset] [(.int (0 : Int32))]))
  refine own_st (fun t k => XS.istore X0.here hx rfl (hb hby own_d1_6) rfl (l' := #[.val (.ref o0), .val (.double (0 : UInt64)), .second, .val (.ref o0), .val (.int (0 : Int32)), .unset, .unset, .unset]) rfl k) ?_
  show own_Run p e below s _ _ _ (s₁.setTop (mkF m 8 #[.val (.ref o0), .val (.double (0 : UInt64)), .second, .val (.ref o0), .val (.int (0 : Int32)), .unset, .unset, .unset] []))
  refine own_st (fun t k => XS.iconst X0.here hx rfl (hb hby own_d1_8) k) ?_
  show own_Run p e below s _ _ _ (s₁.setTop (mkF m 9 #[.val (.ref o0), .val (.double (0 : UInt64)), .second, .val (.ref o0), .val (.int (0 : Int32)), .unset, .unset, .unset] [(.int (0 : Int32))]))
  refine own_st (fun t k => XS.istore X0.here hx rfl (hb hby own_d1_9) rfl (l' := #[.val (.ref o0), .val (.double (0 : UInt64)), .second, .val (.ref o0), .val (.int (0 : Int32)), .val (.int (0 : Int32)), .unset, .unset]) rfl k) ?_
  show own_Run p e below s _ _ _ (s₁.setTop (mkF m 11 #[.val (.ref o0), .val (.double (0 : UInt64)), .second, .val (.ref o0), .val (.int (0 : Int32)), .val (.int (0 : Int32)), .unset, .unset] []))
  refine own_st (fun t k => XS.iload X0.here hx rfl (hb hby own_d1_11) rfl k) ?_
  show own_Run p e below s _ _ _ (s₁.setTop (mkF m 13 #[.val (.ref o0), .val (.double (0 : UInt64)), .second, .val (.ref o0), .val (.int (0 : Int32)), .val (.int (0 : Int32)), .unset, .unset] [(.int (0 : Int32))]))
  refine own_st (fun t k => XS.iload X0.here hx rfl (hb hby own_d1_13) rfl k) ?_
  show own_Run p e below s _ _ _ (s₁.setTop (mkF m 15 #[.val (.ref o0), .val (.double (0 : UInt64)), .second, .val (.ref o0), .val (.int (0 : Int32)), .val (.int (0 : Int32)), .unset, .unset] [(.int (0 : Int32)), (.int (0 : Int32))]))
  refine own_st (fun t k => XS.icmpYes X0.here hx rfl (pc0 := 15) (pc' := 35) rfl (hb hby own_d1_15) rfl (flt (by decide : ¬ ((0 : Int32) < (0 : Int32)))).2.1 (by decide) (by decide) k) ?_
  show own_Run p e below s _ _ _ (s₁.setTop (mkF m 35 #[.val (.ref o0), .val (.double (0 : UInt64)), .second, .val (.ref o0), .val (.int (0 : Int32)), .val (.int (0 : Int32)), .unset, .unset] []))
  refine own_st (fun t k => XS.dloadN X0.here hx rfl (hb hby own_d1_35) rfl k) ?_
  show own_Run p e below s _ _ _ (s₁.setTop (mkF m 36 #[.val (.ref o0), .val (.double (0 : UInt64)), .second, .val (.ref o0), .val (.int (0 : Int32)), .val (.int (0 : Int32)), .unset, .unset] [(.double (0 : UInt64))]))
  refine own_st (X0.ldc2DoubleC hx hown (mvT hZ (hw _ (List.mem_of_getElem? (i := 6) rfl))) (g := (mkF m 36 #[.val (.ref o0), .val (.double (0 : UInt64)), .second, .val (.ref o0), .val (.int (0 : Int32)), .val (.int (0 : Int32)), .unset, .unset] [(.double (0 : UInt64))])) rfl (hb hby own_d1_36)) ?_
  show own_Run p e below s _ _ _ (s₁.setTop (mkF m 39 #[.val (.ref o0), .val (.double (0 : UInt64)), .second, .val (.ref o0), .val (.int (0 : Int32)), .val (.int (0 : Int32)), .unset, .unset] [(.double (4613937818241073152 : UInt64)), (.double (0 : UInt64))]))
  refine own_st (fun t k => XS.ddivS X0.here hx rfl (hb hby own_d1_39) rfl (pnq) (v := (FP.ddiv (0 : UInt64) (4613937818241073152 : UInt64))) (rfl) k) ?_
  show own_Run p e below s _ _ _ (s₁.setTop (mkF m 40 #[.val (.ref o0), .val (.double (0 : UInt64)), .second, .val (.ref o0), .val (.int (0 : Int32)), .val (.int (0 : Int32)), .unset, .unset] [(.double (FP.ddiv (0 : UInt64) (4613937818241073152 : UInt64)))]))
  exact own_ret X0 hx hlk (t := .double) hret rfl (Or.inr (Or.inr (Or.inl ⟨rfl, rfl, _, rfl⟩))) (hb hby own_d1_40) (by decide) (by decide) ⟨rfl, N0, e0⟩
theorem own_d1_18 : decode prog_47_method_4_code 18 = .ok (.aload_n 3, 1) := by decide +kernel
theorem own_d1_19 : decode prog_47_method_4_code 19 = .ok (.iload 5, 2) := by decide +kernel
theorem own_d1_21 : decode prog_47_method_4_code 21 = .ok (.daload, 1) := by decide +kernel
theorem own_d1_22 : decode prog_47_method_4_code 22 = .ok (.dstore 6, 2) := by decide +kernel
theorem own_d1_24 : decode prog_47_method_4_code 24 = .ok (.dload_n 1, 1) := by decide +kernel
theorem own_d1_25 : decode prog_47_method_4_code 25 = .ok (.dload 6, 2) := by decide +kernel
theorem own_d1_27 : decode prog_47_method_4_code 27 = .ok (.dadd, 1) := by decide +kernel
theorem own_d1_28 : decode prog_47_method_4_code 28 = .ok (.dstore_n 1, 1) := by decide +kernel
theorem own_d1_29 : decode prog_47_method_4_code 29 = .ok (.iinc 5 1, 3) := by decide +kernel
theorem own_d1_32 : decode prog_47_method_4_code 32 = .ok (.goto (-21), 3) := by decide +kernel
set_option maxHeartbeats 4000000 in
theorem own_ef1pn1 (m : MethodId) (x0 : Addr) : entryFrame m #[(.ref x0)] 8 = mkF m 0 #[.val (.ref x0), .unset, .unset, .unset, .unset, .unset, .unset, .unset] [] := by first | (simp [entryFrame, mkF, argsToLocals, Value.category]; done) | rfl
def own_Q1pn1 (Z : State) (a0 : Array Value) (o0 : Addr) (kc : ClassId) (v0 : UInt64) (h0 : Heap) (n0 : Nat) (v : Option Value) (h : Heap) (L : List Loc) : Prop := v = some (.double (FP.ddiv (FP.dadd (0 : UInt64) v0) (4613937818241073152 : UInt64))) ∧ Fr n0 L ∧ h = h0
set_option maxRecDepth 65536 in
set_option maxHeartbeats 40000000 in
theorem own_rm1pn1 (l : Launch) (Z : State) (a0 : Array Value) (hw : ∀ d ∈ tables_1, d.before a0 Z = true) (ws : List Jvm.Cond) (o0 : Addr) (kc : ClassId) (v0 : UInt64) (h0 : Heap) (n0 : Nat) (Z0 : n0 ≤ h0.size) (A_v : Arv Z h0 o0 kc .double (1 : Int32) [(.double v0)] (.double (0 : UInt64))) (pn0 : Jvm.Free.Fl.NoNaN64 (FP.dadd (0 : UInt64) v0)) (pnq : Jvm.Free.Fl.NoNaN64 (FP.ddiv (FP.dadd (0 : UInt64) v0) (4613937818241073152 : UInt64))) :
    MetFree l (⟨"com/example/triflux/triflux/eval/Accuracy", "triangles", "([D)D"⟩ : MethodName) (head1 (Jvm.Cond.code (⟨"com/example/triflux/triflux/eval/Accuracy", "triangles", "([D)D"⟩ : MethodName) prog_47_method_4_code 8 (some .double) :: ws) ({ frames := 0, cells := 0, slots := 0, locals := 0 } : Room)) (fun a U => a = #[(.ref o0)] ∧ Z.Warmed39 U.vm ∧ U.heap = h0) (fun _ _ _ _ _ => True) (fun _ U o U' => ∃ v L, o = .returned v ∧ own_Q1pn1 Z a0 o0 kc v0 h0 n0 v U'.heap L ∧ FrameEnd U o U' L ({ frames := 0, cells := 0, slots := 0, locals := 0 } : Room).cells ({ frames := 0, cells := 0, slots := 0, locals := 0 } : Room).slots) := by
  refine own_body (Q := fun v h L => own_Q1pn1 Z a0 o0 kc v0 h0 n0 v h L) (plainFor_of_name own_pn0) ?_
  intro p e s m below meth c s₁ hx hby hml hZ hown hnm hret hlk X0 e0
  replace hml : c.maxLocals = 8 := hml
  have N0 := Fr.nil n0
  have K0 : Keep h0 h0 [] := Keep.refl _ _
  refine own_st (fun t k => castTop (own_ef1pn1 m o0) k) ?_
  show own_Run p e below s _ _ _ (s₁.setTop (mkF m 0 #[.val (.ref o0), .unset, .unset, .unset, .unset, .unset, .unset, .unset] []))
  refine own_st (fun t k => XS.dconst0 X0.here hx rfl (hb hby own_d1_0) (v := 0) rfl k) ?_
  show own_Run p e below s _ _ _ (s₁.setTop (mkF m 1 #[.val (.ref o0), .unset, .unset, .unset, .unset, .unset, .unset, .unset] [(.double (0 : UInt64))]))
  refine own_st (fun t k => XS.dstoreN X0.here hx rfl (hb hby own_d1_1) rfl (l' := #[.val (.ref o0), .val (.double (0 : UInt64)), .second, .unset, .unset, .unset, .unset, .unset]) rfl k) ?_
  show own_Run p e below s _ _ _ (s₁.setTop (mkF m 2 #[.val (.ref o0), .val (.double (0 : UInt64)), .second, .unset, .unset, .unset, .unset, .unset] []))
  refine own_st (fun t k => XS.aloadN X0.here hx rfl (hb hby own_d1_2) rfl rfl k) ?_
  show own_Run p e below s _ _ _ (s₁.setTop (mkF m 3 #[.val (.ref o0), .val (.double (0 : UInt64)), .second, .unset, .unset, .unset, .unset, .unset] [(.ref o0)]))
  refine own_st (fun t k => XS.astoreN X0.here hx rfl (hb hby own_d1_3) rfl rfl (l' := #[.val (.ref o0), .val (.double (0 : UInt64)), .second, .val (.ref o0), .unset, .unset, .unset, .unset]) rfl k) ?_
  show own_Run p e below s _ _ _ (s₁.setTop (mkF m 4 #[.val (.ref o0), .val (.double (0 : UInt64)), .second, .val (.ref o0), .unset, .unset, .unset, .unset] []))
  refine own_st (fun t k => XS.aloadN X0.here hx rfl (hb hby own_d1_4) rfl rfl k) ?_
  show own_Run p e below s _ _ _ (s₁.setTop (mkF m 5 #[.val (.ref o0), .val (.double (0 : UInt64)), .second, .val (.ref o0), .unset, .unset, .unset, .unset] [(.ref o0)]))
  obtain ⟨cl2, Ar2, -, S2, N2, -, -⟩ := id A_v
  refine own_st (X0.arraylength hx (by rw [e0]; exact Ar2.1) (State.isArrayOf_alike hZ.alike Ar2.2.1) (g := (mkF m 5 #[.val (.ref o0), .val (.double (0 : UInt64)), .second, .val (.ref o0), .unset, .unset, .unset, .unset] [(.ref o0)])) rfl rfl (hb hby own_d1_5)) ?_
  rw [len_of S2 N2]
  show own_Run p e below s _ _ _ (s₁.setTop (mkF m 6 #[.val (.ref o0), .val (.double (0 : UInt64)), .second, .val (.ref o0), .unset, .unset, .unset, .unset] [(.int (1 : Int32))]))
  refine own_st (fun t k => XS.istore X0.here hx rfl (hb hby own_d1_6) rfl (l' := #[.val (.ref o0), .val (.double (0 : UInt64)), .second, .val (.ref o0), .val (.int (1 : Int32)), .unset, .unset, .unset]) rfl k) ?_
  show own_Run p e below s _ _ _ (s₁.setTop (mkF m 8 #[.val (.ref o0), .val (.double (0 : UInt64)), .second, .val (.ref o0), .val (.int (1 : Int32)), .unset, .unset, .unset] []))
  refine own_st (fun t k => XS.iconst X0.here hx rfl (hb hby own_d1_8) k) ?_
  show own_Run p e below s _ _ _ (s₁.setTop (mkF m 9 #[.val (.ref o0), .val (.double (0 : UInt64)), .second, .val (.ref o0), .val (.int (1 : Int32)), .unset, .unset, .unset] [(.int (0 : Int32))]))
  refine own_st (fun t k => XS.istore X0.here hx rfl (hb hby own_d1_9) rfl (l' := #[.val (.ref o0), .val (.double (0 : UInt64)), .second, .val (.ref o0), .val (.int (1 : Int32)), .val (.int (0 : Int32)), .unset, .unset]) rfl k) ?_
  show own_Run p e below s _ _ _ (s₁.setTop (mkF m 11 #[.val (.ref o0), .val (.double (0 : UInt64)), .second, .val (.ref o0), .val (.int (1 : Int32)), .val (.int (0 : Int32)), .unset, .unset] []))
  refine own_st (fun t k => XS.iload X0.here hx rfl (hb hby own_d1_11) rfl k) ?_
  show own_Run p e below s _ _ _ (s₁.setTop (mkF m 13 #[.val (.ref o0), .val (.double (0 : UInt64)), .second, .val (.ref o0), .val (.int (1 : Int32)), .val (.int (0 : Int32)), .unset, .unset] [(.int (0 : Int32))]))
  refine own_st (fun t k => XS.iload X0.here hx rfl (hb hby own_d1_13) rfl k) ?_
  show own_Run p e below s _ _ _ (s₁.setTop (mkF m 15 #[.val (.ref o0), .val (.double (0 : UInt64)), .second, .val (.ref o0), .val (.int (1 : Int32)), .val (.int (0 : Int32)), .unset, .unset] [(.int (1 : Int32)), (.int (0 : Int32))]))
  refine own_st (fun t k => XS.icmpNo X0.here hx rfl (hb hby own_d1_15) rfl (tlt (by decide : (0 : Int32) < (1 : Int32))).2.1 k) ?_
  show own_Run p e below s _ _ _ (s₁.setTop (mkF m 18 #[.val (.ref o0), .val (.double (0 : UInt64)), .second, .val (.ref o0), .val (.int (1 : Int32)), .val (.int (0 : Int32)), .unset, .unset] []))
  refine own_st (fun t k => XS.aloadN X0.here hx rfl (hb hby own_d1_18) rfl rfl k) ?_
  show own_Run p e below s _ _ _ (s₁.setTop (mkF m 19 #[.val (.ref o0), .val (.double (0 : UInt64)), .second, .val (.ref o0), .val (.int (1 : Int32)), .val (.int (0 : Int32)), .unset, .unset] [(.ref o0)]))
  refine own_st (fun t k => XS.iload X0.here hx rfl (hb hby own_d1_19) rfl k) ?_
  show own_Run p e below s _ _ _ (s₁.setTop (mkF m 21 #[.val (.ref o0), .val (.double (0 : UInt64)), .second, .val (.ref o0), .val (.int (1 : Int32)), .val (.int (0 : Int32)), .unset, .unset] [(.int (0 : Int32)), (.ref o0)]))
  obtain ⟨cl3, Ar3, -, S3, N3, H3, G3⟩ := id A_v
  have hin3 : ¬ ((0 : Int32) < 0 ∨ cl3.slots.size ≤ ((0 : Int32)).toNatClampNeg) := inb_of S3 ⟨by decide, by decide⟩
  refine own_st (X0.daload hx (j := (0 : Int32)) (v := (.double v0)) (by rw [e0]; exact Ar3.1) (State.isArrayOf_alike hZ.alike Ar3.2.1) Ar3.2.2 hin3 (Has.at H3 hin3 rfl) (g := (mkF m 21 #[.val (.ref o0), .val (.double (0 : UInt64)), .second, .val (.ref o0), .val (.int (1 : Int32)), .val (.int (0 : Int32)), .unset, .unset] [(.int (0 : Int32)), (.ref o0)])) rfl rfl (hb hby own_d1_21)) ?_
  show own_Run p e below s _ _ _ (s₁.setTop (mkF m 22 #[.val (.ref o0), .val (.double (0 : UInt64)), .second, .val (.ref o0), .val (.int (1 : Int32)), .val (.int (0 : Int32)), .unset, .unset] [(.double v0)]))
  refine own_st (fun t k => XS.dstore X0.here hx rfl (hb hby own_d1_22) rfl (l' := #[.val (.ref o0), .val (.double (0 : UInt64)), .second, .val (.ref o0), .val (.int (1 : Int32)), .val (.int (0 : Int32)), .val (.double v0), .second]) rfl k) ?_
  show own_Run p e below s _ _ _ (s₁.setTop (mkF m 24 #[.val (.ref o0), .val (.double (0 : UInt64)), .second, .val (.ref o0), .val (.int (1 : Int32)), .val (.int (0 : Int32)), .val (.double v0), .second] []))
  refine own_st (fun t k => XS.dloadN X0.here hx rfl (hb hby own_d1_24) rfl k) ?_
  show own_Run p e below s _ _ _ (s₁.setTop (mkF m 25 #[.val (.ref o0), .val (.double (0 : UInt64)), .second, .val (.ref o0), .val (.int (1 : Int32)), .val (.int (0 : Int32)), .val (.double v0), .second] [(.double (0 : UInt64))]))
  refine own_st (fun t k => XS.dload X0.here hx rfl (hb hby own_d1_25) rfl k) ?_
  show own_Run p e below s _ _ _ (s₁.setTop (mkF m 27 #[.val (.ref o0), .val (.double (0 : UInt64)), .second, .val (.ref o0), .val (.int (1 : Int32)), .val (.int (0 : Int32)), .val (.double v0), .second] [(.double v0), (.double (0 : UInt64))]))
  refine own_st (fun t k => XS.daddS X0.here hx rfl (hb hby own_d1_27) rfl (pn0) (v := (FP.dadd (0 : UInt64) v0)) (rfl) k) ?_
  show own_Run p e below s _ _ _ (s₁.setTop (mkF m 28 #[.val (.ref o0), .val (.double (0 : UInt64)), .second, .val (.ref o0), .val (.int (1 : Int32)), .val (.int (0 : Int32)), .val (.double v0), .second] [(.double (FP.dadd (0 : UInt64) v0))]))
  refine own_st (fun t k => XS.dstoreN X0.here hx rfl (hb hby own_d1_28) rfl (l' := #[.val (.ref o0), .val (.double (FP.dadd (0 : UInt64) v0)), .second, .val (.ref o0), .val (.int (1 : Int32)), .val (.int (0 : Int32)), .val (.double v0), .second]) rfl k) ?_
  show own_Run p e below s _ _ _ (s₁.setTop (mkF m 29 #[.val (.ref o0), .val (.double (FP.dadd (0 : UInt64) v0)), .second, .val (.ref o0), .val (.int (1 : Int32)), .val (.int (0 : Int32)), .val (.double v0), .second] []))
  refine own_st (fun t k => XS.iinc X0.here hx rfl (hb hby own_d1_29) rfl (l' := #[.val (.ref o0), .val (.double (FP.dadd (0 : UInt64) v0)), .second, .val (.ref o0), .val (.int (1 : Int32)), .val (.int (1 : Int32)), .val (.double v0), .second]) rfl k) ?_
  show own_Run p e below s _ _ _ (s₁.setTop (mkF m 32 #[.val (.ref o0), .val (.double (FP.dadd (0 : UInt64) v0)), .second, .val (.ref o0), .val (.int (1 : Int32)), .val (.int (1 : Int32)), .val (.double v0), .second] []))
  refine own_st (fun t k => XS.goto X0.here hx rfl (pc0 := 32) (pc' := 11) rfl (hb hby own_d1_32) (by decide) (by decide) k) ?_
  show own_Run p e below s _ _ _ (s₁.setTop (mkF m 11 #[.val (.ref o0), .val (.double (FP.dadd (0 : UInt64) v0)), .second, .val (.ref o0), .val (.int (1 : Int32)), .val (.int (1 : Int32)), .val (.double v0), .second] []))
  refine own_st (fun t k => XS.iload X0.here hx rfl (hb hby own_d1_11) rfl k) ?_
  show own_Run p e below s _ _ _ (s₁.setTop (mkF m 13 #[.val (.ref o0), .val (.double (FP.dadd (0 : UInt64) v0)), .second, .val (.ref o0), .val (.int (1 : Int32)), .val (.int (1 : Int32)), .val (.double v0), .second] [(.int (1 : Int32))]))
  refine own_st (fun t k => XS.iload X0.here hx rfl (hb hby own_d1_13) rfl k) ?_
  show own_Run p e below s _ _ _ (s₁.setTop (mkF m 15 #[.val (.ref o0), .val (.double (FP.dadd (0 : UInt64) v0)), .second, .val (.ref o0), .val (.int (1 : Int32)), .val (.int (1 : Int32)), .val (.double v0), .second] [(.int (1 : Int32)), (.int (1 : Int32))]))
  refine own_st (fun t k => XS.icmpYes X0.here hx rfl (pc0 := 15) (pc' := 35) rfl (hb hby own_d1_15) rfl (flt (by decide : ¬ ((1 : Int32) < (1 : Int32)))).2.1 (by decide) (by decide) k) ?_
  show own_Run p e below s _ _ _ (s₁.setTop (mkF m 35 #[.val (.ref o0), .val (.double (FP.dadd (0 : UInt64) v0)), .second, .val (.ref o0), .val (.int (1 : Int32)), .val (.int (1 : Int32)), .val (.double v0), .second] []))
  refine own_st (fun t k => XS.dloadN X0.here hx rfl (hb hby own_d1_35) rfl k) ?_
  show own_Run p e below s _ _ _ (s₁.setTop (mkF m 36 #[.val (.ref o0), .val (.double (FP.dadd (0 : UInt64) v0)), .second, .val (.ref o0), .val (.int (1 : Int32)), .val (.int (1 : Int32)), .val (.double v0), .second] [(.double (FP.dadd (0 : UInt64) v0))]))
  refine own_st (X0.ldc2DoubleC hx hown (mvT hZ (hw _ (List.mem_of_getElem? (i := 6) rfl))) (g := (mkF m 36 #[.val (.ref o0), .val (.double (FP.dadd (0 : UInt64) v0)), .second, .val (.ref o0), .val (.int (1 : Int32)), .val (.int (1 : Int32)), .val (.double v0), .second] [(.double (FP.dadd (0 : UInt64) v0))])) rfl (hb hby own_d1_36)) ?_
  show own_Run p e below s _ _ _ (s₁.setTop (mkF m 39 #[.val (.ref o0), .val (.double (FP.dadd (0 : UInt64) v0)), .second, .val (.ref o0), .val (.int (1 : Int32)), .val (.int (1 : Int32)), .val (.double v0), .second] [(.double (4613937818241073152 : UInt64)), (.double (FP.dadd (0 : UInt64) v0))]))
  refine own_st (fun t k => XS.ddivS X0.here hx rfl (hb hby own_d1_39) rfl (pnq) (v := (FP.ddiv (FP.dadd (0 : UInt64) v0) (4613937818241073152 : UInt64))) (rfl) k) ?_
  show own_Run p e below s _ _ _ (s₁.setTop (mkF m 40 #[.val (.ref o0), .val (.double (FP.dadd (0 : UInt64) v0)), .second, .val (.ref o0), .val (.int (1 : Int32)), .val (.int (1 : Int32)), .val (.double v0), .second] [(.double (FP.ddiv (FP.dadd (0 : UInt64) v0) (4613937818241073152 : UInt64)))]))
  exact own_ret X0 hx hlk (t := .double) hret rfl (Or.inr (Or.inr (Or.inl ⟨rfl, rfl, _, rfl⟩))) (hb hby own_d1_40) (by decide) (by decide) ⟨rfl, N0, e0⟩
set_option maxHeartbeats 4000000 in
theorem own_ef1pn2 (m : MethodId) (x0 : Addr) : entryFrame m #[(.ref x0)] 8 = mkF m 0 #[.val (.ref x0), .unset, .unset, .unset, .unset, .unset, .unset, .unset] [] := by first | (simp [entryFrame, mkF, argsToLocals, Value.category]; done) | rfl
def own_Q1pn2 (Z : State) (a0 : Array Value) (o0 : Addr) (kc : ClassId) (v0 : UInt64) (v1 : UInt64) (h0 : Heap) (n0 : Nat) (v : Option Value) (h : Heap) (L : List Loc) : Prop := v = some (.double (FP.ddiv (FP.dadd (FP.dadd (0 : UInt64) v0) v1) (4613937818241073152 : UInt64))) ∧ Fr n0 L ∧ h = h0
set_option maxRecDepth 65536 in
set_option maxHeartbeats 40000000 in
theorem own_rm1pn2 (l : Launch) (Z : State) (a0 : Array Value) (hw : ∀ d ∈ tables_1, d.before a0 Z = true) (ws : List Jvm.Cond) (o0 : Addr) (kc : ClassId) (v0 : UInt64) (v1 : UInt64) (h0 : Heap) (n0 : Nat) (Z0 : n0 ≤ h0.size) (A_v : Arv Z h0 o0 kc .double (2 : Int32) [(.double v0), (.double v1)] (.double (0 : UInt64))) (pn0 : Jvm.Free.Fl.NoNaN64 (FP.dadd (0 : UInt64) v0)) (pn1 : Jvm.Free.Fl.NoNaN64 (FP.dadd (FP.dadd (0 : UInt64) v0) v1)) (pnq : Jvm.Free.Fl.NoNaN64 (FP.ddiv (FP.dadd (FP.dadd (0 : UInt64) v0) v1) (4613937818241073152 : UInt64))) :
    MetFree l (⟨"com/example/triflux/triflux/eval/Accuracy", "triangles", "([D)D"⟩ : MethodName) (head1 (Jvm.Cond.code (⟨"com/example/triflux/triflux/eval/Accuracy", "triangles", "([D)D"⟩ : MethodName) prog_47_method_4_code 8 (some .double) :: ws) ({ frames := 0, cells := 0, slots := 0, locals := 0 } : Room)) (fun a U => a = #[(.ref o0)] ∧ Z.Warmed39 U.vm ∧ U.heap = h0) (fun _ _ _ _ _ => True) (fun _ U o U' => ∃ v L, o = .returned v ∧ own_Q1pn2 Z a0 o0 kc v0 v1 h0 n0 v U'.heap L ∧ FrameEnd U o U' L ({ frames := 0, cells := 0, slots := 0, locals := 0 } : Room).cells ({ frames := 0, cells := 0, slots := 0, locals := 0 } : Room).slots) := by
  refine own_body (Q := fun v h L => own_Q1pn2 Z a0 o0 kc v0 v1 h0 n0 v h L) (plainFor_of_name own_pn0) ?_
  intro p e s m below meth c s₁ hx hby hml hZ hown hnm hret hlk X0 e0
  replace hml : c.maxLocals = 8 := hml
  have N0 := Fr.nil n0
  have K0 : Keep h0 h0 [] := Keep.refl _ _
  refine own_st (fun t k => castTop (own_ef1pn2 m o0) k) ?_
  show own_Run p e below s _ _ _ (s₁.setTop (mkF m 0 #[.val (.ref o0), .unset, .unset, .unset, .unset, .unset, .unset, .unset] []))
  refine own_st (fun t k => XS.dconst0 X0.here hx rfl (hb hby own_d1_0) (v := 0) rfl k) ?_
  show own_Run p e below s _ _ _ (s₁.setTop (mkF m 1 #[.val (.ref o0), .unset, .unset, .unset, .unset, .unset, .unset, .unset] [(.double (0 : UInt64))]))
  refine own_st (fun t k => XS.dstoreN X0.here hx rfl (hb hby own_d1_1) rfl (l' := #[.val (.ref o0), .val (.double (0 : UInt64)), .second, .unset, .unset, .unset, .unset, .unset]) rfl k) ?_
  show own_Run p e below s _ _ _ (s₁.setTop (mkF m 2 #[.val (.ref o0), .val (.double (0 : UInt64)), .second, .unset, .unset, .unset, .unset, .unset] []))
  refine own_st (fun t k => XS.aloadN X0.here hx rfl (hb hby own_d1_2) rfl rfl k) ?_
  show own_Run p e below s _ _ _ (s₁.setTop (mkF m 3 #[.val (.ref o0), .val (.double (0 : UInt64)), .second, .unset, .unset, .unset, .unset, .unset] [(.ref o0)]))
  refine own_st (fun t k => XS.astoreN X0.here hx rfl (hb hby own_d1_3) rfl rfl (l' := #[.val (.ref o0), .val (.double (0 : UInt64)), .second, .val (.ref o0), .unset, .unset, .unset, .unset]) rfl k) ?_
  show own_Run p e below s _ _ _ (s₁.setTop (mkF m 4 #[.val (.ref o0), .val (.double (0 : UInt64)), .second, .val (.ref o0), .unset, .unset, .unset, .unset] []))
  refine own_st (fun t k => XS.aloadN X0.here hx rfl (hb hby own_d1_4) rfl rfl k) ?_
  show own_Run p e below s _ _ _ (s₁.setTop (mkF m 5 #[.val (.ref o0), .val (.double (0 : UInt64)), .second, .val (.ref o0), .unset, .unset, .unset, .unset] [(.ref o0)]))
  obtain ⟨cl4, Ar4, -, S4, N4, -, -⟩ := id A_v
  refine own_st (X0.arraylength hx (by rw [e0]; exact Ar4.1) (State.isArrayOf_alike hZ.alike Ar4.2.1) (g := (mkF m 5 #[.val (.ref o0), .val (.double (0 : UInt64)), .second, .val (.ref o0), .unset, .unset, .unset, .unset] [(.ref o0)])) rfl rfl (hb hby own_d1_5)) ?_
  rw [len_of S4 N4]
  show own_Run p e below s _ _ _ (s₁.setTop (mkF m 6 #[.val (.ref o0), .val (.double (0 : UInt64)), .second, .val (.ref o0), .unset, .unset, .unset, .unset] [(.int (2 : Int32))]))
  refine own_st (fun t k => XS.istore X0.here hx rfl (hb hby own_d1_6) rfl (l' := #[.val (.ref o0), .val (.double (0 : UInt64)), .second, .val (.ref o0), .val (.int (2 : Int32)), .unset, .unset, .unset]) rfl k) ?_
  show own_Run p e below s _ _ _ (s₁.setTop (mkF m 8 #[.val (.ref o0), .val (.double (0 : UInt64)), .second, .val (.ref o0), .val (.int (2 : Int32)), .unset, .unset, .unset] []))
  refine own_st (fun t k => XS.iconst X0.here hx rfl (hb hby own_d1_8) k) ?_
  show own_Run p e below s _ _ _ (s₁.setTop (mkF m 9 #[.val (.ref o0), .val (.double (0 : UInt64)), .second, .val (.ref o0), .val (.int (2 : Int32)), .unset, .unset, .unset] [(.int (0 : Int32))]))
  refine own_st (fun t k => XS.istore X0.here hx rfl (hb hby own_d1_9) rfl (l' := #[.val (.ref o0), .val (.double (0 : UInt64)), .second, .val (.ref o0), .val (.int (2 : Int32)), .val (.int (0 : Int32)), .unset, .unset]) rfl k) ?_
  show own_Run p e below s _ _ _ (s₁.setTop (mkF m 11 #[.val (.ref o0), .val (.double (0 : UInt64)), .second, .val (.ref o0), .val (.int (2 : Int32)), .val (.int (0 : Int32)), .unset, .unset] []))
  refine own_st (fun t k => XS.iload X0.here hx rfl (hb hby own_d1_11) rfl k) ?_
  show own_Run p e below s _ _ _ (s₁.setTop (mkF m 13 #[.val (.ref o0), .val (.double (0 : UInt64)), .second, .val (.ref o0), .val (.int (2 : Int32)), .val (.int (0 : Int32)), .unset, .unset] [(.int (0 : Int32))]))
  refine own_st (fun t k => XS.iload X0.here hx rfl (hb hby own_d1_13) rfl k) ?_
  show own_Run p e below s _ _ _ (s₁.setTop (mkF m 15 #[.val (.ref o0), .val (.double (0 : UInt64)), .second, .val (.ref o0), .val (.int (2 : Int32)), .val (.int (0 : Int32)), .unset, .unset] [(.int (2 : Int32)), (.int (0 : Int32))]))
  refine own_st (fun t k => XS.icmpNo X0.here hx rfl (hb hby own_d1_15) rfl (tlt (by decide : (0 : Int32) < (2 : Int32))).2.1 k) ?_
  show own_Run p e below s _ _ _ (s₁.setTop (mkF m 18 #[.val (.ref o0), .val (.double (0 : UInt64)), .second, .val (.ref o0), .val (.int (2 : Int32)), .val (.int (0 : Int32)), .unset, .unset] []))
  refine own_st (fun t k => XS.aloadN X0.here hx rfl (hb hby own_d1_18) rfl rfl k) ?_
  show own_Run p e below s _ _ _ (s₁.setTop (mkF m 19 #[.val (.ref o0), .val (.double (0 : UInt64)), .second, .val (.ref o0), .val (.int (2 : Int32)), .val (.int (0 : Int32)), .unset, .unset] [(.ref o0)]))
  refine own_st (fun t k => XS.iload X0.here hx rfl (hb hby own_d1_19) rfl k) ?_
  show own_Run p e below s _ _ _ (s₁.setTop (mkF m 21 #[.val (.ref o0), .val (.double (0 : UInt64)), .second, .val (.ref o0), .val (.int (2 : Int32)), .val (.int (0 : Int32)), .unset, .unset] [(.int (0 : Int32)), (.ref o0)]))
  obtain ⟨cl5, Ar5, -, S5, N5, H5, G5⟩ := id A_v
  have hin5 : ¬ ((0 : Int32) < 0 ∨ cl5.slots.size ≤ ((0 : Int32)).toNatClampNeg) := inb_of S5 ⟨by decide, by decide⟩
  refine own_st (X0.daload hx (j := (0 : Int32)) (v := (.double v0)) (by rw [e0]; exact Ar5.1) (State.isArrayOf_alike hZ.alike Ar5.2.1) Ar5.2.2 hin5 (Has.at H5 hin5 rfl) (g := (mkF m 21 #[.val (.ref o0), .val (.double (0 : UInt64)), .second, .val (.ref o0), .val (.int (2 : Int32)), .val (.int (0 : Int32)), .unset, .unset] [(.int (0 : Int32)), (.ref o0)])) rfl rfl (hb hby own_d1_21)) ?_
  show own_Run p e below s _ _ _ (s₁.setTop (mkF m 22 #[.val (.ref o0), .val (.double (0 : UInt64)), .second, .val (.ref o0), .val (.int (2 : Int32)), .val (.int (0 : Int32)), .unset, .unset] [(.double v0)]))
  refine own_st (fun t k => XS.dstore X0.here hx rfl (hb hby own_d1_22) rfl (l' := #[.val (.ref o0), .val (.double (0 : UInt64)), .second, .val (.ref o0), .val (.int (2 : Int32)), .val (.int (0 : Int32)), .val (.double v0), .second]) rfl k) ?_
  show own_Run p e below s _ _ _ (s₁.setTop (mkF m 24 #[.val (.ref o0), .val (.double (0 : UInt64)), .second, .val (.ref o0), .val (.int (2 : Int32)), .val (.int (0 : Int32)), .val (.double v0), .second] []))
  refine own_st (fun t k => XS.dloadN X0.here hx rfl (hb hby own_d1_24) rfl k) ?_
  show own_Run p e below s _ _ _ (s₁.setTop (mkF m 25 #[.val (.ref o0), .val (.double (0 : UInt64)), .second, .val (.ref o0), .val (.int (2 : Int32)), .val (.int (0 : Int32)), .val (.double v0), .second] [(.double (0 : UInt64))]))
  refine own_st (fun t k => XS.dload X0.here hx rfl (hb hby own_d1_25) rfl k) ?_
  show own_Run p e below s _ _ _ (s₁.setTop (mkF m 27 #[.val (.ref o0), .val (.double (0 : UInt64)), .second, .val (.ref o0), .val (.int (2 : Int32)), .val (.int (0 : Int32)), .val (.double v0), .second] [(.double v0), (.double (0 : UInt64))]))
  refine own_st (fun t k => XS.daddS X0.here hx rfl (hb hby own_d1_27) rfl (pn0) (v := (FP.dadd (0 : UInt64) v0)) (rfl) k) ?_
  show own_Run p e below s _ _ _ (s₁.setTop (mkF m 28 #[.val (.ref o0), .val (.double (0 : UInt64)), .second, .val (.ref o0), .val (.int (2 : Int32)), .val (.int (0 : Int32)), .val (.double v0), .second] [(.double (FP.dadd (0 : UInt64) v0))]))
  refine own_st (fun t k => XS.dstoreN X0.here hx rfl (hb hby own_d1_28) rfl (l' := #[.val (.ref o0), .val (.double (FP.dadd (0 : UInt64) v0)), .second, .val (.ref o0), .val (.int (2 : Int32)), .val (.int (0 : Int32)), .val (.double v0), .second]) rfl k) ?_
  show own_Run p e below s _ _ _ (s₁.setTop (mkF m 29 #[.val (.ref o0), .val (.double (FP.dadd (0 : UInt64) v0)), .second, .val (.ref o0), .val (.int (2 : Int32)), .val (.int (0 : Int32)), .val (.double v0), .second] []))
  refine own_st (fun t k => XS.iinc X0.here hx rfl (hb hby own_d1_29) rfl (l' := #[.val (.ref o0), .val (.double (FP.dadd (0 : UInt64) v0)), .second, .val (.ref o0), .val (.int (2 : Int32)), .val (.int (1 : Int32)), .val (.double v0), .second]) rfl k) ?_
  show own_Run p e below s _ _ _ (s₁.setTop (mkF m 32 #[.val (.ref o0), .val (.double (FP.dadd (0 : UInt64) v0)), .second, .val (.ref o0), .val (.int (2 : Int32)), .val (.int (1 : Int32)), .val (.double v0), .second] []))
  refine own_st (fun t k => XS.goto X0.here hx rfl (pc0 := 32) (pc' := 11) rfl (hb hby own_d1_32) (by decide) (by decide) k) ?_
  show own_Run p e below s _ _ _ (s₁.setTop (mkF m 11 #[.val (.ref o0), .val (.double (FP.dadd (0 : UInt64) v0)), .second, .val (.ref o0), .val (.int (2 : Int32)), .val (.int (1 : Int32)), .val (.double v0), .second] []))
  refine own_st (fun t k => XS.iload X0.here hx rfl (hb hby own_d1_11) rfl k) ?_
  show own_Run p e below s _ _ _ (s₁.setTop (mkF m 13 #[.val (.ref o0), .val (.double (FP.dadd (0 : UInt64) v0)), .second, .val (.ref o0), .val (.int (2 : Int32)), .val (.int (1 : Int32)), .val (.double v0), .second] [(.int (1 : Int32))]))
  refine own_st (fun t k => XS.iload X0.here hx rfl (hb hby own_d1_13) rfl k) ?_
  show own_Run p e below s _ _ _ (s₁.setTop (mkF m 15 #[.val (.ref o0), .val (.double (FP.dadd (0 : UInt64) v0)), .second, .val (.ref o0), .val (.int (2 : Int32)), .val (.int (1 : Int32)), .val (.double v0), .second] [(.int (2 : Int32)), (.int (1 : Int32))]))
  refine own_st (fun t k => XS.icmpNo X0.here hx rfl (hb hby own_d1_15) rfl (tlt (by decide : (1 : Int32) < (2 : Int32))).2.1 k) ?_
  show own_Run p e below s _ _ _ (s₁.setTop (mkF m 18 #[.val (.ref o0), .val (.double (FP.dadd (0 : UInt64) v0)), .second, .val (.ref o0), .val (.int (2 : Int32)), .val (.int (1 : Int32)), .val (.double v0), .second] []))
  refine own_st (fun t k => XS.aloadN X0.here hx rfl (hb hby own_d1_18) rfl rfl k) ?_
  show own_Run p e below s _ _ _ (s₁.setTop (mkF m 19 #[.val (.ref o0), .val (.double (FP.dadd (0 : UInt64) v0)), .second, .val (.ref o0), .val (.int (2 : Int32)), .val (.int (1 : Int32)), .val (.double v0), .second] [(.ref o0)]))
  refine own_st (fun t k => XS.iload X0.here hx rfl (hb hby own_d1_19) rfl k) ?_
  show own_Run p e below s _ _ _ (s₁.setTop (mkF m 21 #[.val (.ref o0), .val (.double (FP.dadd (0 : UInt64) v0)), .second, .val (.ref o0), .val (.int (2 : Int32)), .val (.int (1 : Int32)), .val (.double v0), .second] [(.int (1 : Int32)), (.ref o0)]))
  obtain ⟨cl6, Ar6, -, S6, N6, H6, G6⟩ := id A_v
  have hin6 : ¬ ((1 : Int32) < 0 ∨ cl6.slots.size ≤ ((1 : Int32)).toNatClampNeg) := inb_of S6 ⟨by decide, by decide⟩
  refine own_st (X0.daload hx (j := (1 : Int32)) (v := (.double v1)) (by rw [e0]; exact Ar6.1) (State.isArrayOf_alike hZ.alike Ar6.2.1) Ar6.2.2 hin6 (Has.at H6 hin6 rfl) (g := (mkF m 21 #[.val (.ref o0), .val (.double (FP.dadd (0 : UInt64) v0)), .second, .val (.ref o0), .val (.int (2 : Int32)), .val (.int (1 : Int32)), .val (.double v0), .second] [(.int (1 : Int32)), (.ref o0)])) rfl rfl (hb hby own_d1_21)) ?_
  show own_Run p e below s _ _ _ (s₁.setTop (mkF m 22 #[.val (.ref o0), .val (.double (FP.dadd (0 : UInt64) v0)), .second, .val (.ref o0), .val (.int (2 : Int32)), .val (.int (1 : Int32)), .val (.double v0), .second] [(.double v1)]))
  refine own_st (fun t k => XS.dstore X0.here hx rfl (hb hby own_d1_22) rfl (l' := #[.val (.ref o0), .val (.double (FP.dadd (0 : UInt64) v0)), .second, .val (.ref o0), .val (.int (2 : Int32)), .val (.int (1 : Int32)), .val (.double v1), .second]) rfl k) ?_
  show own_Run p e below s _ _ _ (s₁.setTop (mkF m 24 #[.val (.ref o0), .val (.double (FP.dadd (0 : UInt64) v0)), .second, .val (.ref o0), .val (.int (2 : Int32)), .val (.int (1 : Int32)), .val (.double v1), .second] []))
  refine own_st (fun t k => XS.dloadN X0.here hx rfl (hb hby own_d1_24) rfl k) ?_
  show own_Run p e below s _ _ _ (s₁.setTop (mkF m 25 #[.val (.ref o0), .val (.double (FP.dadd (0 : UInt64) v0)), .second, .val (.ref o0), .val (.int (2 : Int32)), .val (.int (1 : Int32)), .val (.double v1), .second] [(.double (FP.dadd (0 : UInt64) v0))]))
  refine own_st (fun t k => XS.dload X0.here hx rfl (hb hby own_d1_25) rfl k) ?_
  show own_Run p e below s _ _ _ (s₁.setTop (mkF m 27 #[.val (.ref o0), .val (.double (FP.dadd (0 : UInt64) v0)), .second, .val (.ref o0), .val (.int (2 : Int32)), .val (.int (1 : Int32)), .val (.double v1), .second] [(.double v1), (.double (FP.dadd (0 : UInt64) v0))]))
  refine own_st (fun t k => XS.daddS X0.here hx rfl (hb hby own_d1_27) rfl (pn1) (v := (FP.dadd (FP.dadd (0 : UInt64) v0) v1)) (rfl) k) ?_
  show own_Run p e below s _ _ _ (s₁.setTop (mkF m 28 #[.val (.ref o0), .val (.double (FP.dadd (0 : UInt64) v0)), .second, .val (.ref o0), .val (.int (2 : Int32)), .val (.int (1 : Int32)), .val (.double v1), .second] [(.double (FP.dadd (FP.dadd (0 : UInt64) v0) v1))]))
  refine own_st (fun t k => XS.dstoreN X0.here hx rfl (hb hby own_d1_28) rfl (l' := #[.val (.ref o0), .val (.double (FP.dadd (FP.dadd (0 : UInt64) v0) v1)), .second, .val (.ref o0), .val (.int (2 : Int32)), .val (.int (1 : Int32)), .val (.double v1), .second]) rfl k) ?_
  show own_Run p e below s _ _ _ (s₁.setTop (mkF m 29 #[.val (.ref o0), .val (.double (FP.dadd (FP.dadd (0 : UInt64) v0) v1)), .second, .val (.ref o0), .val (.int (2 : Int32)), .val (.int (1 : Int32)), .val (.double v1), .second] []))
  refine own_st (fun t k => XS.iinc X0.here hx rfl (hb hby own_d1_29) rfl (l' := #[.val (.ref o0), .val (.double (FP.dadd (FP.dadd (0 : UInt64) v0) v1)), .second, .val (.ref o0), .val (.int (2 : Int32)), .val (.int (2 : Int32)), .val (.double v1), .second]) rfl k) ?_
  show own_Run p e below s _ _ _ (s₁.setTop (mkF m 32 #[.val (.ref o0), .val (.double (FP.dadd (FP.dadd (0 : UInt64) v0) v1)), .second, .val (.ref o0), .val (.int (2 : Int32)), .val (.int (2 : Int32)), .val (.double v1), .second] []))
  refine own_st (fun t k => XS.goto X0.here hx rfl (pc0 := 32) (pc' := 11) rfl (hb hby own_d1_32) (by decide) (by decide) k) ?_
  show own_Run p e below s _ _ _ (s₁.setTop (mkF m 11 #[.val (.ref o0), .val (.double (FP.dadd (FP.dadd (0 : UInt64) v0) v1)), .second, .val (.ref o0), .val (.int (2 : Int32)), .val (.int (2 : Int32)), .val (.double v1), .second] []))
  refine own_st (fun t k => XS.iload X0.here hx rfl (hb hby own_d1_11) rfl k) ?_
  show own_Run p e below s _ _ _ (s₁.setTop (mkF m 13 #[.val (.ref o0), .val (.double (FP.dadd (FP.dadd (0 : UInt64) v0) v1)), .second, .val (.ref o0), .val (.int (2 : Int32)), .val (.int (2 : Int32)), .val (.double v1), .second] [(.int (2 : Int32))]))
  refine own_st (fun t k => XS.iload X0.here hx rfl (hb hby own_d1_13) rfl k) ?_
  show own_Run p e below s _ _ _ (s₁.setTop (mkF m 15 #[.val (.ref o0), .val (.double (FP.dadd (FP.dadd (0 : UInt64) v0) v1)), .second, .val (.ref o0), .val (.int (2 : Int32)), .val (.int (2 : Int32)), .val (.double v1), .second] [(.int (2 : Int32)), (.int (2 : Int32))]))
  refine own_st (fun t k => XS.icmpYes X0.here hx rfl (pc0 := 15) (pc' := 35) rfl (hb hby own_d1_15) rfl (flt (by decide : ¬ ((2 : Int32) < (2 : Int32)))).2.1 (by decide) (by decide) k) ?_
  show own_Run p e below s _ _ _ (s₁.setTop (mkF m 35 #[.val (.ref o0), .val (.double (FP.dadd (FP.dadd (0 : UInt64) v0) v1)), .second, .val (.ref o0), .val (.int (2 : Int32)), .val (.int (2 : Int32)), .val (.double v1), .second] []))
  refine own_st (fun t k => XS.dloadN X0.here hx rfl (hb hby own_d1_35) rfl k) ?_
  show own_Run p e below s _ _ _ (s₁.setTop (mkF m 36 #[.val (.ref o0), .val (.double (FP.dadd (FP.dadd (0 : UInt64) v0) v1)), .second, .val (.ref o0), .val (.int (2 : Int32)), .val (.int (2 : Int32)), .val (.double v1), .second] [(.double (FP.dadd (FP.dadd (0 : UInt64) v0) v1))]))
  refine own_st (X0.ldc2DoubleC hx hown (mvT hZ (hw _ (List.mem_of_getElem? (i := 6) rfl))) (g := (mkF m 36 #[.val (.ref o0), .val (.double (FP.dadd (FP.dadd (0 : UInt64) v0) v1)), .second, .val (.ref o0), .val (.int (2 : Int32)), .val (.int (2 : Int32)), .val (.double v1), .second] [(.double (FP.dadd (FP.dadd (0 : UInt64) v0) v1))])) rfl (hb hby own_d1_36)) ?_
  show own_Run p e below s _ _ _ (s₁.setTop (mkF m 39 #[.val (.ref o0), .val (.double (FP.dadd (FP.dadd (0 : UInt64) v0) v1)), .second, .val (.ref o0), .val (.int (2 : Int32)), .val (.int (2 : Int32)), .val (.double v1), .second] [(.double (4613937818241073152 : UInt64)), (.double (FP.dadd (FP.dadd (0 : UInt64) v0) v1))]))
  refine own_st (fun t k => XS.ddivS X0.here hx rfl (hb hby own_d1_39) rfl (pnq) (v := (FP.ddiv (FP.dadd (FP.dadd (0 : UInt64) v0) v1) (4613937818241073152 : UInt64))) (rfl) k) ?_
  show own_Run p e below s _ _ _ (s₁.setTop (mkF m 40 #[.val (.ref o0), .val (.double (FP.dadd (FP.dadd (0 : UInt64) v0) v1)), .second, .val (.ref o0), .val (.int (2 : Int32)), .val (.int (2 : Int32)), .val (.double v1), .second] [(.double (FP.ddiv (FP.dadd (FP.dadd (0 : UInt64) v0) v1) (4613937818241073152 : UInt64)))]))
  exact own_ret X0 hx hlk (t := .double) hret rfl (Or.inr (Or.inr (Or.inl ⟨rfl, rfl, _, rfl⟩))) (hb hby own_d1_40) (by decide) (by decide) ⟨rfl, N0, e0⟩
set_option maxHeartbeats 4000000 in
theorem own_ef1pn3 (m : MethodId) (x0 : Addr) : entryFrame m #[(.ref x0)] 8 = mkF m 0 #[.val (.ref x0), .unset, .unset, .unset, .unset, .unset, .unset, .unset] [] := by first | (simp [entryFrame, mkF, argsToLocals, Value.category]; done) | rfl
def own_Q1pn3 (Z : State) (a0 : Array Value) (o0 : Addr) (kc : ClassId) (v0 : UInt64) (v1 : UInt64) (v2 : UInt64) (h0 : Heap) (n0 : Nat) (v : Option Value) (h : Heap) (L : List Loc) : Prop := v = some (.double (FP.ddiv (FP.dadd (FP.dadd (FP.dadd (0 : UInt64) v0) v1) v2) (4613937818241073152 : UInt64))) ∧ Fr n0 L ∧ h = h0
set_option maxRecDepth 65536 in
set_option maxHeartbeats 40000000 in
theorem own_rm1pn3 (l : Launch) (Z : State) (a0 : Array Value) (hw : ∀ d ∈ tables_1, d.before a0 Z = true) (ws : List Jvm.Cond) (o0 : Addr) (kc : ClassId) (v0 : UInt64) (v1 : UInt64) (v2 : UInt64) (h0 : Heap) (n0 : Nat) (Z0 : n0 ≤ h0.size) (A_v : Arv Z h0 o0 kc .double (3 : Int32) [(.double v0), (.double v1), (.double v2)] (.double (0 : UInt64))) (pn0 : Jvm.Free.Fl.NoNaN64 (FP.dadd (0 : UInt64) v0)) (pn1 : Jvm.Free.Fl.NoNaN64 (FP.dadd (FP.dadd (0 : UInt64) v0) v1)) (pn2 : Jvm.Free.Fl.NoNaN64 (FP.dadd (FP.dadd (FP.dadd (0 : UInt64) v0) v1) v2)) (pnq : Jvm.Free.Fl.NoNaN64 (FP.ddiv (FP.dadd (FP.dadd (FP.dadd (0 : UInt64) v0) v1) v2) (4613937818241073152 : UInt64))) :
    MetFree l (⟨"com/example/triflux/triflux/eval/Accuracy", "triangles", "([D)D"⟩ : MethodName) (head1 (Jvm.Cond.code (⟨"com/example/triflux/triflux/eval/Accuracy", "triangles", "([D)D"⟩ : MethodName) prog_47_method_4_code 8 (some .double) :: ws) ({ frames := 0, cells := 0, slots := 0, locals := 0 } : Room)) (fun a U => a = #[(.ref o0)] ∧ Z.Warmed39 U.vm ∧ U.heap = h0) (fun _ _ _ _ _ => True) (fun _ U o U' => ∃ v L, o = .returned v ∧ own_Q1pn3 Z a0 o0 kc v0 v1 v2 h0 n0 v U'.heap L ∧ FrameEnd U o U' L ({ frames := 0, cells := 0, slots := 0, locals := 0 } : Room).cells ({ frames := 0, cells := 0, slots := 0, locals := 0 } : Room).slots) := by
  refine own_body (Q := fun v h L => own_Q1pn3 Z a0 o0 kc v0 v1 v2 h0 n0 v h L) (plainFor_of_name own_pn0) ?_
  intro p e s m below meth c s₁ hx hby hml hZ hown hnm hret hlk X0 e0
  replace hml : c.maxLocals = 8 := hml
  have N0 := Fr.nil n0
  have K0 : Keep h0 h0 [] := Keep.refl _ _
  refine own_st (fun t k => castTop (own_ef1pn3 m o0) k) ?_
  show own_Run p e below s _ _ _ (s₁.setTop (mkF m 0 #[.val (.ref o0), .unset, .unset, .unset, .unset, .unset, .unset, .unset] []))
  refine own_st (fun t k => XS.dconst0 X0.here hx rfl (hb hby own_d1_0) (v := 0) rfl k) ?_
  show own_Run p e below s _ _ _ (s₁.setTop (mkF m 1 #[.val (.ref o0), .unset, .unset, .unset, .unset, .unset, .unset, .unset] [(.double (0 : UInt64))]))
  refine own_st (fun t k => XS.dstoreN X0.here hx rfl (hb hby own_d1_1) rfl (l' := #[.val (.ref o0), .val (.double (0 : UInt64)), .second, .unset, .unset, .unset, .unset, .unset]) rfl k) ?_
  show own_Run p e below s _ _ _ (s₁.setTop (mkF m 2 #[.val (.ref o0), .val (.double (0 : UInt64)), .second, .unset, .unset, .unset, .unset, .unset] []))
  refine own_st (fun t k => XS.aloadN X0.here hx rfl (hb hby own_d1_2) rfl rfl k) ?_
  show own_Run p e below s _ _ _ (s₁.setTop (mkF m 3 #[.val (.ref o0), .val (.double (0 : UInt64)), .second, .unset, .unset, .unset, .unset, .unset] [(.ref o0)]))
  refine own_st (fun t k => XS.astoreN X0.here hx rfl (hb hby own_d1_3) rfl rfl (l' := #[.val (.ref o0), .val (.double (0 : UInt64)), .second, .val (.ref o0), .unset, .unset, .unset, .unset]) rfl k) ?_
  show own_Run p e below s _ _ _ (s₁.setTop (mkF m 4 #[.val (.ref o0), .val (.double (0 : UInt64)), .second, .val (.ref o0), .unset, .unset, .unset, .unset] []))
  refine own_st (fun t k => XS.aloadN X0.here hx rfl (hb hby own_d1_4) rfl rfl k) ?_
  show own_Run p e below s _ _ _ (s₁.setTop (mkF m 5 #[.val (.ref o0), .val (.double (0 : UInt64)), .second, .val (.ref o0), .unset, .unset, .unset, .unset] [(.ref o0)]))
  obtain ⟨cl7, Ar7, -, S7, N7, -, -⟩ := id A_v
  refine own_st (X0.arraylength hx (by rw [e0]; exact Ar7.1) (State.isArrayOf_alike hZ.alike Ar7.2.1) (g := (mkF m 5 #[.val (.ref o0), .val (.double (0 : UInt64)), .second, .val (.ref o0), .unset, .unset, .unset, .unset] [(.ref o0)])) rfl rfl (hb hby own_d1_5)) ?_
  rw [len_of S7 N7]
  show own_Run p e below s _ _ _ (s₁.setTop (mkF m 6 #[.val (.ref o0), .val (.double (0 : UInt64)), .second, .val (.ref o0), .unset, .unset, .unset, .unset] [(.int (3 : Int32))]))
  refine own_st (fun t k => XS.istore X0.here hx rfl (hb hby own_d1_6) rfl (l' := #[.val (.ref o0), .val (.double (0 : UInt64)), .second, .val (.ref o0), .val (.int (3 : Int32)), .unset, .unset, .unset]) rfl k) ?_
  show own_Run p e below s _ _ _ (s₁.setTop (mkF m 8 #[.val (.ref o0), .val (.double (0 : UInt64)), .second, .val (.ref o0), .val (.int (3 : Int32)), .unset, .unset, .unset] []))
  refine own_st (fun t k => XS.iconst X0.here hx rfl (hb hby own_d1_8) k) ?_
  show own_Run p e below s _ _ _ (s₁.setTop (mkF m 9 #[.val (.ref o0), .val (.double (0 : UInt64)), .second, .val (.ref o0), .val (.int (3 : Int32)), .unset, .unset, .unset] [(.int (0 : Int32))]))
  refine own_st (fun t k => XS.istore X0.here hx rfl (hb hby own_d1_9) rfl (l' := #[.val (.ref o0), .val (.double (0 : UInt64)), .second, .val (.ref o0), .val (.int (3 : Int32)), .val (.int (0 : Int32)), .unset, .unset]) rfl k) ?_
  show own_Run p e below s _ _ _ (s₁.setTop (mkF m 11 #[.val (.ref o0), .val (.double (0 : UInt64)), .second, .val (.ref o0), .val (.int (3 : Int32)), .val (.int (0 : Int32)), .unset, .unset] []))
  refine own_st (fun t k => XS.iload X0.here hx rfl (hb hby own_d1_11) rfl k) ?_
  show own_Run p e below s _ _ _ (s₁.setTop (mkF m 13 #[.val (.ref o0), .val (.double (0 : UInt64)), .second, .val (.ref o0), .val (.int (3 : Int32)), .val (.int (0 : Int32)), .unset, .unset] [(.int (0 : Int32))]))
  refine own_st (fun t k => XS.iload X0.here hx rfl (hb hby own_d1_13) rfl k) ?_
  show own_Run p e below s _ _ _ (s₁.setTop (mkF m 15 #[.val (.ref o0), .val (.double (0 : UInt64)), .second, .val (.ref o0), .val (.int (3 : Int32)), .val (.int (0 : Int32)), .unset, .unset] [(.int (3 : Int32)), (.int (0 : Int32))]))
  refine own_st (fun t k => XS.icmpNo X0.here hx rfl (hb hby own_d1_15) rfl (tlt (by decide : (0 : Int32) < (3 : Int32))).2.1 k) ?_
  show own_Run p e below s _ _ _ (s₁.setTop (mkF m 18 #[.val (.ref o0), .val (.double (0 : UInt64)), .second, .val (.ref o0), .val (.int (3 : Int32)), .val (.int (0 : Int32)), .unset, .unset] []))
  refine own_st (fun t k => XS.aloadN X0.here hx rfl (hb hby own_d1_18) rfl rfl k) ?_
  show own_Run p e below s _ _ _ (s₁.setTop (mkF m 19 #[.val (.ref o0), .val (.double (0 : UInt64)), .second, .val (.ref o0), .val (.int (3 : Int32)), .val (.int (0 : Int32)), .unset, .unset] [(.ref o0)]))
  refine own_st (fun t k => XS.iload X0.here hx rfl (hb hby own_d1_19) rfl k) ?_
  show own_Run p e below s _ _ _ (s₁.setTop (mkF m 21 #[.val (.ref o0), .val (.double (0 : UInt64)), .second, .val (.ref o0), .val (.int (3 : Int32)), .val (.int (0 : Int32)), .unset, .unset] [(.int (0 : Int32)), (.ref o0)]))
  obtain ⟨cl8, Ar8, -, S8, N8, H8, G8⟩ := id A_v
  have hin8 : ¬ ((0 : Int32) < 0 ∨ cl8.slots.size ≤ ((0 : Int32)).toNatClampNeg) := inb_of S8 ⟨by decide, by decide⟩
  refine own_st (X0.daload hx (j := (0 : Int32)) (v := (.double v0)) (by rw [e0]; exact Ar8.1) (State.isArrayOf_alike hZ.alike Ar8.2.1) Ar8.2.2 hin8 (Has.at H8 hin8 rfl) (g := (mkF m 21 #[.val (.ref o0), .val (.double (0 : UInt64)), .second, .val (.ref o0), .val (.int (3 : Int32)), .val (.int (0 : Int32)), .unset, .unset] [(.int (0 : Int32)), (.ref o0)])) rfl rfl (hb hby own_d1_21)) ?_
  show own_Run p e below s _ _ _ (s₁.setTop (mkF m 22 #[.val (.ref o0), .val (.double (0 : UInt64)), .second, .val (.ref o0), .val (.int (3 : Int32)), .val (.int (0 : Int32)), .unset, .unset] [(.double v0)]))
  refine own_st (fun t k => XS.dstore X0.here hx rfl (hb hby own_d1_22) rfl (l' := #[.val (.ref o0), .val (.double (0 : UInt64)), .second, .val (.ref o0), .val (.int (3 : Int32)), .val (.int (0 : Int32)), .val (.double v0), .second]) rfl k) ?_
  show own_Run p e below s _ _ _ (s₁.setTop (mkF m 24 #[.val (.ref o0), .val (.double (0 : UInt64)), .second, .val (.ref o0), .val (.int (3 : Int32)), .val (.int (0 : Int32)), .val (.double v0), .second] []))
  refine own_st (fun t k => XS.dloadN X0.here hx rfl (hb hby own_d1_24) rfl k) ?_
  show own_Run p e below s _ _ _ (s₁.setTop (mkF m 25 #[.val (.ref o0), .val (.double (0 : UInt64)), .second, .val (.ref o0), .val (.int (3 : Int32)), .val (.int (0 : Int32)), .val (.double v0), .second] [(.double (0 : UInt64))]))
  refine own_st (fun t k => XS.dload X0.here hx rfl (hb hby own_d1_25) rfl k) ?_
  show own_Run p e below s _ _ _ (s₁.setTop (mkF m 27 #[.val (.ref o0), .val (.double (0 : UInt64)), .second, .val (.ref o0), .val (.int (3 : Int32)), .val (.int (0 : Int32)), .val (.double v0), .second] [(.double v0), (.double (0 : UInt64))]))
  refine own_st (fun t k => XS.daddS X0.here hx rfl (hb hby own_d1_27) rfl (pn0) (v := (FP.dadd (0 : UInt64) v0)) (rfl) k) ?_
  show own_Run p e below s _ _ _ (s₁.setTop (mkF m 28 #[.val (.ref o0), .val (.double (0 : UInt64)), .second, .val (.ref o0), .val (.int (3 : Int32)), .val (.int (0 : Int32)), .val (.double v0), .second] [(.double (FP.dadd (0 : UInt64) v0))]))
  refine own_st (fun t k => XS.dstoreN X0.here hx rfl (hb hby own_d1_28) rfl (l' := #[.val (.ref o0), .val (.double (FP.dadd (0 : UInt64) v0)), .second, .val (.ref o0), .val (.int (3 : Int32)), .val (.int (0 : Int32)), .val (.double v0), .second]) rfl k) ?_
  show own_Run p e below s _ _ _ (s₁.setTop (mkF m 29 #[.val (.ref o0), .val (.double (FP.dadd (0 : UInt64) v0)), .second, .val (.ref o0), .val (.int (3 : Int32)), .val (.int (0 : Int32)), .val (.double v0), .second] []))
  refine own_st (fun t k => XS.iinc X0.here hx rfl (hb hby own_d1_29) rfl (l' := #[.val (.ref o0), .val (.double (FP.dadd (0 : UInt64) v0)), .second, .val (.ref o0), .val (.int (3 : Int32)), .val (.int (1 : Int32)), .val (.double v0), .second]) rfl k) ?_
  show own_Run p e below s _ _ _ (s₁.setTop (mkF m 32 #[.val (.ref o0), .val (.double (FP.dadd (0 : UInt64) v0)), .second, .val (.ref o0), .val (.int (3 : Int32)), .val (.int (1 : Int32)), .val (.double v0), .second] []))
  refine own_st (fun t k => XS.goto X0.here hx rfl (pc0 := 32) (pc' := 11) rfl (hb hby own_d1_32) (by decide) (by decide) k) ?_
  show own_Run p e below s _ _ _ (s₁.setTop (mkF m 11 #[.val (.ref o0), .val (.double (FP.dadd (0 : UInt64) v0)), .second, .val (.ref o0), .val (.int (3 : Int32)), .val (.int (1 : Int32)), .val (.double v0), .second] []))
  refine own_st (fun t k => XS.iload X0.here hx rfl (hb hby own_d1_11) rfl k) ?_
  show own_Run p e below s _ _ _ (s₁.setTop (mkF m 13 #[.val (.ref o0), .val (.double (FP.dadd (0 : UInt64) v0)), .second, .val (.ref o0), .val (.int (3 : Int32)), .val (.int (1 : Int32)), .val (.double v0), .second] [(.int (1 : Int32))]))
  refine own_st (fun t k => XS.iload X0.here hx rfl (hb hby own_d1_13) rfl k) ?_
  show own_Run p e below s _ _ _ (s₁.setTop (mkF m 15 #[.val (.ref o0), .val (.double (FP.dadd (0 : UInt64) v0)), .second, .val (.ref o0), .val (.int (3 : Int32)), .val (.int (1 : Int32)), .val (.double v0), .second] [(.int (3 : Int32)), (.int (1 : Int32))]))
  refine own_st (fun t k => XS.icmpNo X0.here hx rfl (hb hby own_d1_15) rfl (tlt (by decide : (1 : Int32) < (3 : Int32))).2.1 k) ?_
  show own_Run p e below s _ _ _ (s₁.setTop (mkF m 18 #[.val (.ref o0), .val (.double (FP.dadd (0 : UInt64) v0)), .second, .val (.ref o0), .val (.int (3 : Int32)), .val (.int (1 : Int32)), .val (.double v0), .second] []))
  refine own_st (fun t k => XS.aloadN X0.here hx rfl (hb hby own_d1_18) rfl rfl k) ?_
  show own_Run p e below s _ _ _ (s₁.setTop (mkF m 19 #[.val (.ref o0), .val (.double (FP.dadd (0 : UInt64) v0)), .second, .val (.ref o0), .val (.int (3 : Int32)), .val (.int (1 : Int32)), .val (.double v0), .second] [(.ref o0)]))
  refine own_st (fun t k => XS.iload X0.here hx rfl (hb hby own_d1_19) rfl k) ?_
  show own_Run p e below s _ _ _ (s₁.setTop (mkF m 21 #[.val (.ref o0), .val (.double (FP.dadd (0 : UInt64) v0)), .second, .val (.ref o0), .val (.int (3 : Int32)), .val (.int (1 : Int32)), .val (.double v0), .second] [(.int (1 : Int32)), (.ref o0)]))
  obtain ⟨cl9, Ar9, -, S9, N9, H9, G9⟩ := id A_v
  have hin9 : ¬ ((1 : Int32) < 0 ∨ cl9.slots.size ≤ ((1 : Int32)).toNatClampNeg) := inb_of S9 ⟨by decide, by decide⟩
  refine own_st (X0.daload hx (j := (1 : Int32)) (v := (.double v1)) (by rw [e0]; exact Ar9.1) (State.isArrayOf_alike hZ.alike Ar9.2.1) Ar9.2.2 hin9 (Has.at H9 hin9 rfl) (g := (mkF m 21 #[.val (.ref o0), .val (.double (FP.dadd (0 : UInt64) v0)), .second, .val (.ref o0), .val (.int (3 : Int32)), .val (.int (1 : Int32)), .val (.double v0), .second] [(.int (1 : Int32)), (.ref o0)])) rfl rfl (hb hby own_d1_21)) ?_
  show own_Run p e below s _ _ _ (s₁.setTop (mkF m 22 #[.val (.ref o0), .val (.double (FP.dadd (0 : UInt64) v0)), .second, .val (.ref o0), .val (.int (3 : Int32)), .val (.int (1 : Int32)), .val (.double v0), .second] [(.double v1)]))
  refine own_st (fun t k => XS.dstore X0.here hx rfl (hb hby own_d1_22) rfl (l' := #[.val (.ref o0), .val (.double (FP.dadd (0 : UInt64) v0)), .second, .val (.ref o0), .val (.int (3 : Int32)), .val (.int (1 : Int32)), .val (.double v1), .second]) rfl k) ?_
  show own_Run p e below s _ _ _ (s₁.setTop (mkF m 24 #[.val (.ref o0), .val (.double (FP.dadd (0 : UInt64) v0)), .second, .val (.ref o0), .val (.int (3 : Int32)), .val (.int (1 : Int32)), .val (.double v1), .second] []))
  refine own_st (fun t k => XS.dloadN X0.here hx rfl (hb hby own_d1_24) rfl k) ?_
  show own_Run p e below s _ _ _ (s₁.setTop (mkF m 25 #[.val (.ref o0), .val (.double (FP.dadd (0 : UInt64) v0)), .second, .val (.ref o0), .val (.int (3 : Int32)), .val (.int (1 : Int32)), .val (.double v1), .second] [(.double (FP.dadd (0 : UInt64) v0))]))
  refine own_st (fun t k => XS.dload X0.here hx rfl (hb hby own_d1_25) rfl k) ?_
  show own_Run p e below s _ _ _ (s₁.setTop (mkF m 27 #[.val (.ref o0), .val (.double (FP.dadd (0 : UInt64) v0)), .second, .val (.ref o0), .val (.int (3 : Int32)), .val (.int (1 : Int32)), .val (.double v1), .second] [(.double v1), (.double (FP.dadd (0 : UInt64) v0))]))
  refine own_st (fun t k => XS.daddS X0.here hx rfl (hb hby own_d1_27) rfl (pn1) (v := (FP.dadd (FP.dadd (0 : UInt64) v0) v1)) (rfl) k) ?_
  show own_Run p e below s _ _ _ (s₁.setTop (mkF m 28 #[.val (.ref o0), .val (.double (FP.dadd (0 : UInt64) v0)), .second, .val (.ref o0), .val (.int (3 : Int32)), .val (.int (1 : Int32)), .val (.double v1), .second] [(.double (FP.dadd (FP.dadd (0 : UInt64) v0) v1))]))
  refine own_st (fun t k => XS.dstoreN X0.here hx rfl (hb hby own_d1_28) rfl (l' := #[.val (.ref o0), .val (.double (FP.dadd (FP.dadd (0 : UInt64) v0) v1)), .second, .val (.ref o0), .val (.int (3 : Int32)), .val (.int (1 : Int32)), .val (.double v1), .second]) rfl k) ?_
  show own_Run p e below s _ _ _ (s₁.setTop (mkF m 29 #[.val (.ref o0), .val (.double (FP.dadd (FP.dadd (0 : UInt64) v0) v1)), .second, .val (.ref o0), .val (.int (3 : Int32)), .val (.int (1 : Int32)), .val (.double v1), .second] []))
  refine own_st (fun t k => XS.iinc X0.here hx rfl (hb hby own_d1_29) rfl (l' := #[.val (.ref o0), .val (.double (FP.dadd (FP.dadd (0 : UInt64) v0) v1)), .second, .val (.ref o0), .val (.int (3 : Int32)), .val (.int (2 : Int32)), .val (.double v1), .second]) rfl k) ?_
  show own_Run p e below s _ _ _ (s₁.setTop (mkF m 32 #[.val (.ref o0), .val (.double (FP.dadd (FP.dadd (0 : UInt64) v0) v1)), .second, .val (.ref o0), .val (.int (3 : Int32)), .val (.int (2 : Int32)), .val (.double v1), .second] []))
  refine own_st (fun t k => XS.goto X0.here hx rfl (pc0 := 32) (pc' := 11) rfl (hb hby own_d1_32) (by decide) (by decide) k) ?_
  show own_Run p e below s _ _ _ (s₁.setTop (mkF m 11 #[.val (.ref o0), .val (.double (FP.dadd (FP.dadd (0 : UInt64) v0) v1)), .second, .val (.ref o0), .val (.int (3 : Int32)), .val (.int (2 : Int32)), .val (.double v1), .second] []))
  refine own_st (fun t k => XS.iload X0.here hx rfl (hb hby own_d1_11) rfl k) ?_
  show own_Run p e below s _ _ _ (s₁.setTop (mkF m 13 #[.val (.ref o0), .val (.double (FP.dadd (FP.dadd (0 : UInt64) v0) v1)), .second, .val (.ref o0), .val (.int (3 : Int32)), .val (.int (2 : Int32)), .val (.double v1), .second] [(.int (2 : Int32))]))
  refine own_st (fun t k => XS.iload X0.here hx rfl (hb hby own_d1_13) rfl k) ?_
  show own_Run p e below s _ _ _ (s₁.setTop (mkF m 15 #[.val (.ref o0), .val (.double (FP.dadd (FP.dadd (0 : UInt64) v0) v1)), .second, .val (.ref o0), .val (.int (3 : Int32)), .val (.int (2 : Int32)), .val (.double v1), .second] [(.int (3 : Int32)), (.int (2 : Int32))]))
  refine own_st (fun t k => XS.icmpNo X0.here hx rfl (hb hby own_d1_15) rfl (tlt (by decide : (2 : Int32) < (3 : Int32))).2.1 k) ?_
  show own_Run p e below s _ _ _ (s₁.setTop (mkF m 18 #[.val (.ref o0), .val (.double (FP.dadd (FP.dadd (0 : UInt64) v0) v1)), .second, .val (.ref o0), .val (.int (3 : Int32)), .val (.int (2 : Int32)), .val (.double v1), .second] []))
  refine own_st (fun t k => XS.aloadN X0.here hx rfl (hb hby own_d1_18) rfl rfl k) ?_
  show own_Run p e below s _ _ _ (s₁.setTop (mkF m 19 #[.val (.ref o0), .val (.double (FP.dadd (FP.dadd (0 : UInt64) v0) v1)), .second, .val (.ref o0), .val (.int (3 : Int32)), .val (.int (2 : Int32)), .val (.double v1), .second] [(.ref o0)]))
  refine own_st (fun t k => XS.iload X0.here hx rfl (hb hby own_d1_19) rfl k) ?_
  show own_Run p e below s _ _ _ (s₁.setTop (mkF m 21 #[.val (.ref o0), .val (.double (FP.dadd (FP.dadd (0 : UInt64) v0) v1)), .second, .val (.ref o0), .val (.int (3 : Int32)), .val (.int (2 : Int32)), .val (.double v1), .second] [(.int (2 : Int32)), (.ref o0)]))
  obtain ⟨cl10, Ar10, -, S10, N10, H10, G10⟩ := id A_v
  have hin10 : ¬ ((2 : Int32) < 0 ∨ cl10.slots.size ≤ ((2 : Int32)).toNatClampNeg) := inb_of S10 ⟨by decide, by decide⟩
  refine own_st (X0.daload hx (j := (2 : Int32)) (v := (.double v2)) (by rw [e0]; exact Ar10.1) (State.isArrayOf_alike hZ.alike Ar10.2.1) Ar10.2.2 hin10 (Has.at H10 hin10 rfl) (g := (mkF m 21 #[.val (.ref o0), .val (.double (FP.dadd (FP.dadd (0 : UInt64) v0) v1)), .second, .val (.ref o0), .val (.int (3 : Int32)), .val (.int (2 : Int32)), .val (.double v1), .second] [(.int (2 : Int32)), (.ref o0)])) rfl rfl (hb hby own_d1_21)) ?_
  show own_Run p e below s _ _ _ (s₁.setTop (mkF m 22 #[.val (.ref o0), .val (.double (FP.dadd (FP.dadd (0 : UInt64) v0) v1)), .second, .val (.ref o0), .val (.int (3 : Int32)), .val (.int (2 : Int32)), .val (.double v1), .second] [(.double v2)]))
  refine own_st (fun t k => XS.dstore X0.here hx rfl (hb hby own_d1_22) rfl (l' := #[.val (.ref o0), .val (.double (FP.dadd (FP.dadd (0 : UInt64) v0) v1)), .second, .val (.ref o0), .val (.int (3 : Int32)), .val (.int (2 : Int32)), .val (.double v2), .second]) rfl k) ?_
  show own_Run p e below s _ _ _ (s₁.setTop (mkF m 24 #[.val (.ref o0), .val (.double (FP.dadd (FP.dadd (0 : UInt64) v0) v1)), .second, .val (.ref o0), .val (.int (3 : Int32)), .val (.int (2 : Int32)), .val (.double v2), .second] []))
  refine own_st (fun t k => XS.dloadN X0.here hx rfl (hb hby own_d1_24) rfl k) ?_
  show own_Run p e below s _ _ _ (s₁.setTop (mkF m 25 #[.val (.ref o0), .val (.double (FP.dadd (FP.dadd (0 : UInt64) v0) v1)), .second, .val (.ref o0), .val (.int (3 : Int32)), .val (.int (2 : Int32)), .val (.double v2), .second] [(.double (FP.dadd (FP.dadd (0 : UInt64) v0) v1))]))
  refine own_st (fun t k => XS.dload X0.here hx rfl (hb hby own_d1_25) rfl k) ?_
  show own_Run p e below s _ _ _ (s₁.setTop (mkF m 27 #[.val (.ref o0), .val (.double (FP.dadd (FP.dadd (0 : UInt64) v0) v1)), .second, .val (.ref o0), .val (.int (3 : Int32)), .val (.int (2 : Int32)), .val (.double v2), .second] [(.double v2), (.double (FP.dadd (FP.dadd (0 : UInt64) v0) v1))]))
  refine own_st (fun t k => XS.daddS X0.here hx rfl (hb hby own_d1_27) rfl (pn2) (v := (FP.dadd (FP.dadd (FP.dadd (0 : UInt64) v0) v1) v2)) (rfl) k) ?_
  show own_Run p e below s _ _ _ (s₁.setTop (mkF m 28 #[.val (.ref o0), .val (.double (FP.dadd (FP.dadd (0 : UInt64) v0) v1)), .second, .val (.ref o0), .val (.int (3 : Int32)), .val (.int (2 : Int32)), .val (.double v2), .second] [(.double (FP.dadd (FP.dadd (FP.dadd (0 : UInt64) v0) v1) v2))]))
  refine own_st (fun t k => XS.dstoreN X0.here hx rfl (hb hby own_d1_28) rfl (l' := #[.val (.ref o0), .val (.double (FP.dadd (FP.dadd (FP.dadd (0 : UInt64) v0) v1) v2)), .second, .val (.ref o0), .val (.int (3 : Int32)), .val (.int (2 : Int32)), .val (.double v2), .second]) rfl k) ?_
  show own_Run p e below s _ _ _ (s₁.setTop (mkF m 29 #[.val (.ref o0), .val (.double (FP.dadd (FP.dadd (FP.dadd (0 : UInt64) v0) v1) v2)), .second, .val (.ref o0), .val (.int (3 : Int32)), .val (.int (2 : Int32)), .val (.double v2), .second] []))
  refine own_st (fun t k => XS.iinc X0.here hx rfl (hb hby own_d1_29) rfl (l' := #[.val (.ref o0), .val (.double (FP.dadd (FP.dadd (FP.dadd (0 : UInt64) v0) v1) v2)), .second, .val (.ref o0), .val (.int (3 : Int32)), .val (.int (3 : Int32)), .val (.double v2), .second]) rfl k) ?_
  show own_Run p e below s _ _ _ (s₁.setTop (mkF m 32 #[.val (.ref o0), .val (.double (FP.dadd (FP.dadd (FP.dadd (0 : UInt64) v0) v1) v2)), .second, .val (.ref o0), .val (.int (3 : Int32)), .val (.int (3 : Int32)), .val (.double v2), .second] []))
  refine own_st (fun t k => XS.goto X0.here hx rfl (pc0 := 32) (pc' := 11) rfl (hb hby own_d1_32) (by decide) (by decide) k) ?_
  show own_Run p e below s _ _ _ (s₁.setTop (mkF m 11 #[.val (.ref o0), .val (.double (FP.dadd (FP.dadd (FP.dadd (0 : UInt64) v0) v1) v2)), .second, .val (.ref o0), .val (.int (3 : Int32)), .val (.int (3 : Int32)), .val (.double v2), .second] []))
  refine own_st (fun t k => XS.iload X0.here hx rfl (hb hby own_d1_11) rfl k) ?_
  show own_Run p e below s _ _ _ (s₁.setTop (mkF m 13 #[.val (.ref o0), .val (.double (FP.dadd (FP.dadd (FP.dadd (0 : UInt64) v0) v1) v2)), .second, .val (.ref o0), .val (.int (3 : Int32)), .val (.int (3 : Int32)), .val (.double v2), .second] [(.int (3 : Int32))]))
  refine own_st (fun t k => XS.iload X0.here hx rfl (hb hby own_d1_13) rfl k) ?_
  show own_Run p e below s _ _ _ (s₁.setTop (mkF m 15 #[.val (.ref o0), .val (.double (FP.dadd (FP.dadd (FP.dadd (0 : UInt64) v0) v1) v2)), .second, .val (.ref o0), .val (.int (3 : Int32)), .val (.int (3 : Int32)), .val (.double v2), .second] [(.int (3 : Int32)), (.int (3 : Int32))]))
  refine own_st (fun t k => XS.icmpYes X0.here hx rfl (pc0 := 15) (pc' := 35) rfl (hb hby own_d1_15) rfl (flt (by decide : ¬ ((3 : Int32) < (3 : Int32)))).2.1 (by decide) (by decide) k) ?_
  show own_Run p e below s _ _ _ (s₁.setTop (mkF m 35 #[.val (.ref o0), .val (.double (FP.dadd (FP.dadd (FP.dadd (0 : UInt64) v0) v1) v2)), .second, .val (.ref o0), .val (.int (3 : Int32)), .val (.int (3 : Int32)), .val (.double v2), .second] []))
  refine own_st (fun t k => XS.dloadN X0.here hx rfl (hb hby own_d1_35) rfl k) ?_
  show own_Run p e below s _ _ _ (s₁.setTop (mkF m 36 #[.val (.ref o0), .val (.double (FP.dadd (FP.dadd (FP.dadd (0 : UInt64) v0) v1) v2)), .second, .val (.ref o0), .val (.int (3 : Int32)), .val (.int (3 : Int32)), .val (.double v2), .second] [(.double (FP.dadd (FP.dadd (FP.dadd (0 : UInt64) v0) v1) v2))]))
  refine own_st (X0.ldc2DoubleC hx hown (mvT hZ (hw _ (List.mem_of_getElem? (i := 6) rfl))) (g := (mkF m 36 #[.val (.ref o0), .val (.double (FP.dadd (FP.dadd (FP.dadd (0 : UInt64) v0) v1) v2)), .second, .val (.ref o0), .val (.int (3 : Int32)), .val (.int (3 : Int32)), .val (.double v2), .second] [(.double (FP.dadd (FP.dadd (FP.dadd (0 : UInt64) v0) v1) v2))])) rfl (hb hby own_d1_36)) ?_
  show own_Run p e below s _ _ _ (s₁.setTop (mkF m 39 #[.val (.ref o0), .val (.double (FP.dadd (FP.dadd (FP.dadd (0 : UInt64) v0) v1) v2)), .second, .val (.ref o0), .val (.int (3 : Int32)), .val (.int (3 : Int32)), .val (.double v2), .second] [(.double (4613937818241073152 : UInt64)), (.double (FP.dadd (FP.dadd (FP.dadd (0 : UInt64) v0) v1) v2))]))
  refine own_st (fun t k => XS.ddivS X0.here hx rfl (hb hby own_d1_39) rfl (pnq) (v := (FP.ddiv (FP.dadd (FP.dadd (FP.dadd (0 : UInt64) v0) v1) v2) (4613937818241073152 : UInt64))) (rfl) k) ?_
  show own_Run p e below s _ _ _ (s₁.setTop (mkF m 40 #[.val (.ref o0), .val (.double (FP.dadd (FP.dadd (FP.dadd (0 : UInt64) v0) v1) v2)), .second, .val (.ref o0), .val (.int (3 : Int32)), .val (.int (3 : Int32)), .val (.double v2), .second] [(.double (FP.ddiv (FP.dadd (FP.dadd (FP.dadd (0 : UInt64) v0) v1) v2) (4613937818241073152 : UInt64)))]))
  exact own_ret X0 hx hlk (t := .double) hret rfl (Or.inr (Or.inr (Or.inl ⟨rfl, rfl, _, rfl⟩))) (hb hby own_d1_40) (by decide) (by decide) ⟨rfl, N0, e0⟩
set_option maxHeartbeats 4000000 in
theorem own_ef1pn4 (m : MethodId) (x0 : Addr) : entryFrame m #[(.ref x0)] 8 = mkF m 0 #[.val (.ref x0), .unset, .unset, .unset, .unset, .unset, .unset, .unset] [] := by first | (simp [entryFrame, mkF, argsToLocals, Value.category]; done) | rfl
def own_Q1pn4 (Z : State) (a0 : Array Value) (o0 : Addr) (kc : ClassId) (v0 : UInt64) (v1 : UInt64) (v2 : UInt64) (v3 : UInt64) (h0 : Heap) (n0 : Nat) (v : Option Value) (h : Heap) (L : List Loc) : Prop := v = some (.double (FP.ddiv (FP.dadd (FP.dadd (FP.dadd (FP.dadd (0 : UInt64) v0) v1) v2) v3) (4613937818241073152 : UInt64))) ∧ Fr n0 L ∧ h = h0
set_option maxRecDepth 65536 in
set_option maxHeartbeats 40000000 in
theorem own_rm1pn4 (l : Launch) (Z : State) (a0 : Array Value) (hw : ∀ d ∈ tables_1, d.before a0 Z = true) (ws : List Jvm.Cond) (o0 : Addr) (kc : ClassId) (v0 : UInt64) (v1 : UInt64) (v2 : UInt64) (v3 : UInt64) (h0 : Heap) (n0 : Nat) (Z0 : n0 ≤ h0.size) (A_v : Arv Z h0 o0 kc .double (4 : Int32) [(.double v0), (.double v1), (.double v2), (.double v3)] (.double (0 : UInt64))) (pn0 : Jvm.Free.Fl.NoNaN64 (FP.dadd (0 : UInt64) v0)) (pn1 : Jvm.Free.Fl.NoNaN64 (FP.dadd (FP.dadd (0 : UInt64) v0) v1)) (pn2 : Jvm.Free.Fl.NoNaN64 (FP.dadd (FP.dadd (FP.dadd (0 : UInt64) v0) v1) v2)) (pn3 : Jvm.Free.Fl.NoNaN64 (FP.dadd (FP.dadd (FP.dadd (FP.dadd (0 : UInt64) v0) v1) v2) v3)) (pnq : Jvm.Free.Fl.NoNaN64 (FP.ddiv (FP.dadd (FP.dadd (FP.dadd (FP.dadd (0 : UInt64) v0) v1) v2) v3) (4613937818241073152 : UInt64))) :
    MetFree l (⟨"com/example/triflux/triflux/eval/Accuracy", "triangles", "([D)D"⟩ : MethodName) (head1 (Jvm.Cond.code (⟨"com/example/triflux/triflux/eval/Accuracy", "triangles", "([D)D"⟩ : MethodName) prog_47_method_4_code 8 (some .double) :: ws) ({ frames := 0, cells := 0, slots := 0, locals := 0 } : Room)) (fun a U => a = #[(.ref o0)] ∧ Z.Warmed39 U.vm ∧ U.heap = h0) (fun _ _ _ _ _ => True) (fun _ U o U' => ∃ v L, o = .returned v ∧ own_Q1pn4 Z a0 o0 kc v0 v1 v2 v3 h0 n0 v U'.heap L ∧ FrameEnd U o U' L ({ frames := 0, cells := 0, slots := 0, locals := 0 } : Room).cells ({ frames := 0, cells := 0, slots := 0, locals := 0 } : Room).slots) := by
  refine own_body (Q := fun v h L => own_Q1pn4 Z a0 o0 kc v0 v1 v2 v3 h0 n0 v h L) (plainFor_of_name own_pn0) ?_
  intro p e s m below meth c s₁ hx hby hml hZ hown hnm hret hlk X0 e0
  replace hml : c.maxLocals = 8 := hml
  have N0 := Fr.nil n0
  have K0 : Keep h0 h0 [] := Keep.refl _ _
  refine own_st (fun t k => castTop (own_ef1pn4 m o0) k) ?_
  show own_Run p e below s _ _ _ (s₁.setTop (mkF m 0 #[.val (.ref o0), .unset, .unset, .unset, .unset, .unset, .unset, .unset] []))
  refine own_st (fun t k => XS.dconst0 X0.here hx rfl (hb hby own_d1_0) (v := 0) rfl k) ?_
  show own_Run p e below s _ _ _ (s₁.setTop (mkF m 1 #[.val (.ref o0), .unset, .unset, .unset, .unset, .unset, .unset, .unset] [(.double (0 : UInt64))]))
  refine own_st (fun t k => XS.dstoreN X0.here hx rfl (hb hby own_d1_1) rfl (l' := #[.val (.ref o0), .val (.double (0 : UInt64)), .second, .unset, .unset, .unset, .unset, .unset]) rfl k) ?_
  show own_Run p e below s _ _ _ (s₁.setTop (mkF m 2 #[.val (.ref o0), .val (.double (0 : UInt64)), .second, .unset, .unset, .unset, .unset, .unset] []))
  refine own_st (fun t k => XS.aloadN X0.here hx rfl (hb hby own_d1_2) rfl rfl k) ?_
  show own_Run p e below s _ _ _ (s₁.setTop (mkF m 3 #[.val (.ref o0), .val (.double (0 : UInt64)), .second, .unset, .unset, .unset, .unset, .unset] [(.ref o0)]))
  refine own_st (fun t k => XS.astoreN X0.here hx rfl (hb hby own_d1_3) rfl rfl (l' := #[.val (.ref o0), .val (.double (0 : UInt64)), .second, .val (.ref o0), .unset, .unset, .unset, .unset]) rfl k) ?_
  show own_Run p e below s _ _ _ (s₁.setTop (mkF m 4 #[.val (.ref o0), .val (.double (0 : UInt64)), .second, .val (.ref o0), .unset, .unset, .unset, .unset] []))
  refine own_st (fun t k => XS.aloadN X0.here hx rfl (hb hby own_d1_4) rfl rfl k) ?_
  show own_Run p e below s _ _ _ (s₁.setTop (mkF m 5 #[.val (.ref o0), .val (.double (0 : UInt64)), .second, .val (.ref o0), .unset, .unset, .unset, .unset] [(.ref o0)]))
  obtain ⟨cl11, Ar11, -, S11, N11, -, -⟩ := id A_v
  refine own_st (X0.arraylength hx (by rw [e0]; exact Ar11.1) (State.isArrayOf_alike hZ.alike Ar11.2.1) (g := (mkF m 5 #[.val (.ref o0), .val (.double (0 : UInt64)), .second, .val (.ref o0), .unset, .unset, .unset, .unset] [(.ref o0)])) rfl rfl (hb hby own_d1_5)) ?_
  rw [len_of S11 N11]
  show own_Run p e below s _ _ _ (s₁.setTop (mkF m 6 #[.val (.ref o0), .val (.double (0 : UInt64)), .second, .val (.ref o0), .unset, .unset, .unset, .unset] [(.int (4 : Int32))]))
  refine own_st (fun t k => XS.istore X0.here hx rfl (hb hby own_d1_6) rfl (l' := #[.val (.ref o0), .val (.double (0 : UInt64)), .second, .val (.ref o0), .val (.int (4 : Int32)), .unset, .unset, .unset]) rfl k) ?_
  show own_Run p e below s _ _ _ (s₁.setTop (mkF m 8 #[.val (.ref o0), .val (.double (0 : UInt64)), .second, .val (.ref o0), .val (.int (4 : Int32)), .unset, .unset, .unset] []))
  refine own_st (fun t k => XS.iconst X0.here hx rfl (hb hby own_d1_8) k) ?_
  show own_Run p e below s _ _ _ (s₁.setTop (mkF m 9 #[.val (.ref o0), .val (.double (0 : UInt64)), .second, .val (.ref o0), .val (.int (4 : Int32)), .unset, .unset, .unset] [(.int (0 : Int32))]))
  refine own_st (fun t k => XS.istore X0.here hx rfl (hb hby own_d1_9) rfl (l' := #[.val (.ref o0), .val (.double (0 : UInt64)), .second, .val (.ref o0), .val (.int (4 : Int32)), .val (.int (0 : Int32)), .unset, .unset]) rfl k) ?_
  show own_Run p e below s _ _ _ (s₁.setTop (mkF m 11 #[.val (.ref o0), .val (.double (0 : UInt64)), .second, .val (.ref o0), .val (.int (4 : Int32)), .val (.int (0 : Int32)), .unset, .unset] []))
  refine own_st (fun t k => XS.iload X0.here hx rfl (hb hby own_d1_11) rfl k) ?_
  show own_Run p e below s _ _ _ (s₁.setTop (mkF m 13 #[.val (.ref o0), .val (.double (0 : UInt64)), .second, .val (.ref o0), .val (.int (4 : Int32)), .val (.int (0 : Int32)), .unset, .unset] [(.int (0 : Int32))]))
  refine own_st (fun t k => XS.iload X0.here hx rfl (hb hby own_d1_13) rfl k) ?_
  show own_Run p e below s _ _ _ (s₁.setTop (mkF m 15 #[.val (.ref o0), .val (.double (0 : UInt64)), .second, .val (.ref o0), .val (.int (4 : Int32)), .val (.int (0 : Int32)), .unset, .unset] [(.int (4 : Int32)), (.int (0 : Int32))]))
  refine own_st (fun t k => XS.icmpNo X0.here hx rfl (hb hby own_d1_15) rfl (tlt (by decide : (0 : Int32) < (4 : Int32))).2.1 k) ?_
  show own_Run p e below s _ _ _ (s₁.setTop (mkF m 18 #[.val (.ref o0), .val (.double (0 : UInt64)), .second, .val (.ref o0), .val (.int (4 : Int32)), .val (.int (0 : Int32)), .unset, .unset] []))
  refine own_st (fun t k => XS.aloadN X0.here hx rfl (hb hby own_d1_18) rfl rfl k) ?_
  show own_Run p e below s _ _ _ (s₁.setTop (mkF m 19 #[.val (.ref o0), .val (.double (0 : UInt64)), .second, .val (.ref o0), .val (.int (4 : Int32)), .val (.int (0 : Int32)), .unset, .unset] [(.ref o0)]))
  refine own_st (fun t k => XS.iload X0.here hx rfl (hb hby own_d1_19) rfl k) ?_
  show own_Run p e below s _ _ _ (s₁.setTop (mkF m 21 #[.val (.ref o0), .val (.double (0 : UInt64)), .second, .val (.ref o0), .val (.int (4 : Int32)), .val (.int (0 : Int32)), .unset, .unset] [(.int (0 : Int32)), (.ref o0)]))
  obtain ⟨cl12, Ar12, -, S12, N12, H12, G12⟩ := id A_v
  have hin12 : ¬ ((0 : Int32) < 0 ∨ cl12.slots.size ≤ ((0 : Int32)).toNatClampNeg) := inb_of S12 ⟨by decide, by decide⟩
  refine own_st (X0.daload hx (j := (0 : Int32)) (v := (.double v0)) (by rw [e0]; exact Ar12.1) (State.isArrayOf_alike hZ.alike Ar12.2.1) Ar12.2.2 hin12 (Has.at H12 hin12 rfl) (g := (mkF m 21 #[.val (.ref o0), .val (.double (0 : UInt64)), .second, .val (.ref o0), .val (.int (4 : Int32)), .val (.int (0 : Int32)), .unset, .unset] [(.int (0 : Int32)), (.ref o0)])) rfl rfl (hb hby own_d1_21)) ?_
  show own_Run p e below s _ _ _ (s₁.setTop (mkF m 22 #[.val (.ref o0), .val (.double (0 : UInt64)), .second, .val (.ref o0), .val (.int (4 : Int32)), .val (.int (0 : Int32)), .unset, .unset] [(.double v0)]))
  refine own_st (fun t k => XS.dstore X0.here hx rfl (hb hby own_d1_22) rfl (l' := #[.val (.ref o0), .val (.double (0 : UInt64)), .second, .val (.ref o0), .val (.int (4 : Int32)), .val (.int (0 : Int32)), .val (.double v0), .second]) rfl k) ?_
  show own_Run p e below s _ _ _ (s₁.setTop (mkF m 24 #[.val (.ref o0), .val (.double (0 : UInt64)), .second, .val (.ref o0), .val (.int (4 : Int32)), .val (.int (0 : Int32)), .val (.double v0), .second] []))
  refine own_st (fun t k => XS.dloadN X0.here hx rfl (hb hby own_d1_24) rfl k) ?_
  show own_Run p e below s _ _ _ (s₁.setTop (mkF m 25 #[.val (.ref o0), .val (.double (0 : UInt64)), .second, .val (.ref o0), .val (.int (4 : Int32)), .val (.int (0 : Int32)), .val (.double v0), .second] [(.double (0 : UInt64))]))
  refine own_st (fun t k => XS.dload X0.here hx rfl (hb hby own_d1_25) rfl k) ?_
  show own_Run p e below s _ _ _ (s₁.setTop (mkF m 27 #[.val (.ref o0), .val (.double (0 : UInt64)), .second, .val (.ref o0), .val (.int (4 : Int32)), .val (.int (0 : Int32)), .val (.double v0), .second] [(.double v0), (.double (0 : UInt64))]))
  refine own_st (fun t k => XS.daddS X0.here hx rfl (hb hby own_d1_27) rfl (pn0) (v := (FP.dadd (0 : UInt64) v0)) (rfl) k) ?_
  show own_Run p e below s _ _ _ (s₁.setTop (mkF m 28 #[.val (.ref o0), .val (.double (0 : UInt64)), .second, .val (.ref o0), .val (.int (4 : Int32)), .val (.int (0 : Int32)), .val (.double v0), .second] [(.double (FP.dadd (0 : UInt64) v0))]))
  refine own_st (fun t k => XS.dstoreN X0.here hx rfl (hb hby own_d1_28) rfl (l' := #[.val (.ref o0), .val (.double (FP.dadd (0 : UInt64) v0)), .second, .val (.ref o0), .val (.int (4 : Int32)), .val (.int (0 : Int32)), .val (.double v0), .second]) rfl k) ?_
  show own_Run p e below s _ _ _ (s₁.setTop (mkF m 29 #[.val (.ref o0), .val (.double (FP.dadd (0 : UInt64) v0)), .second, .val (.ref o0), .val (.int (4 : Int32)), .val (.int (0 : Int32)), .val (.double v0), .second] []))
  refine own_st (fun t k => XS.iinc X0.here hx rfl (hb hby own_d1_29) rfl (l' := #[.val (.ref o0), .val (.double (FP.dadd (0 : UInt64) v0)), .second, .val (.ref o0), .val (.int (4 : Int32)), .val (.int (1 : Int32)), .val (.double v0), .second]) rfl k) ?_
  show own_Run p e below s _ _ _ (s₁.setTop (mkF m 32 #[.val (.ref o0), .val (.double (FP.dadd (0 : UInt64) v0)), .second, .val (.ref o0), .val (.int (4 : Int32)), .val (.int (1 : Int32)), .val (.double v0), .second] []))
  refine own_st (fun t k => XS.goto X0.here hx rfl (pc0 := 32) (pc' := 11) rfl (hb hby own_d1_32) (by decide) (by decide) k) ?_
  show own_Run p e below s _ _ _ (s₁.setTop (mkF m 11 #[.val (.ref o0), .val (.double (FP.dadd (0 : UInt64) v0)), .second, .val (.ref o0), .val (.int (4 : Int32)), .val (.int (1 : Int32)), .val (.double v0), .second] []))
  refine own_st (fun t k => XS.iload X0.here hx rfl (hb hby own_d1_11) rfl k) ?_
  show own_Run p e below s _ _ _ (s₁.setTop (mkF m 13 #[.val (.ref o0), .val (.double (FP.dadd (0 : UInt64) v0)), .second, .val (.ref o0), .val (.int (4 : Int32)), .val (.int (1 : Int32)), .val (.double v0), .second] [(.int (1 : Int32))]))
  refine own_st (fun t k => XS.iload X0.here hx rfl (hb hby own_d1_13) rfl k) ?_
  show own_Run p e below s _ _ _ (s₁.setTop (mkF m 15 #[.val (.ref o0), .val (.double (FP.dadd (0 : UInt64) v0)), .second, .val (.ref o0), .val (.int (4 : Int32)), .val (.int (1 : Int32)), .val (.double v0), .second] [(.int (4 : Int32)), (.int (1 : Int32))]))
  refine own_st (fun t k => XS.icmpNo X0.here hx rfl (hb hby own_d1_15) rfl (tlt (by decide : (1 : Int32) < (4 : Int32))).2.1 k) ?_
  show own_Run p e below s _ _ _ (s₁.setTop (mkF m 18 #[.val (.ref o0), .val (.double (FP.dadd (0 : UInt64) v0)), .second, .val (.ref o0), .val (.int (4 : Int32)), .val (.int (1 : Int32)), .val (.double v0), .second] []))
  refine own_st (fun t k => XS.aloadN X0.here hx rfl (hb hby own_d1_18) rfl rfl k) ?_
  show own_Run p e below s _ _ _ (s₁.setTop (mkF m 19 #[.val (.ref o0), .val (.double (FP.dadd (0 : UInt64) v0)), .second, .val (.ref o0), .val (.int (4 : Int32)), .val (.int (1 : Int32)), .val (.double v0), .second] [(.ref o0)]))
  refine own_st (fun t k => XS.iload X0.here hx rfl (hb hby own_d1_19) rfl k) ?_
  show own_Run p e below s _ _ _ (s₁.setTop (mkF m 21 #[.val (.ref o0), .val (.double (FP.dadd (0 : UInt64) v0)), .second, .val (.ref o0), .val (.int (4 : Int32)), .val (.int (1 : Int32)), .val (.double v0), .second] [(.int (1 : Int32)), (.ref o0)]))
  obtain ⟨cl13, Ar13, -, S13, N13, H13, G13⟩ := id A_v
  have hin13 : ¬ ((1 : Int32) < 0 ∨ cl13.slots.size ≤ ((1 : Int32)).toNatClampNeg) := inb_of S13 ⟨by decide, by decide⟩
  refine own_st (X0.daload hx (j := (1 : Int32)) (v := (.double v1)) (by rw [e0]; exact Ar13.1) (State.isArrayOf_alike hZ.alike Ar13.2.1) Ar13.2.2 hin13 (Has.at H13 hin13 rfl) (g := (mkF m 21 #[.val (.ref o0), .val (.double (FP.dadd (0 : UInt64) v0)), .second, .val (.ref o0), .val (.int (4 : Int32)), .val (.int (1 : Int32)), .val (.double v0), .second] [(.int (1 : Int32)), (.ref o0)])) rfl rfl (hb hby own_d1_21)) ?_
  show own_Run p e below s _ _ _ (s₁.setTop (mkF m 22 #[.val (.ref o0), .val (.double (FP.dadd (0 : UInt64) v0)), .second, .val (.ref o0), .val (.int (4 : Int32)), .val (.int (1 : Int32)), .val (.double v0), .second] [(.double v1)]))
  refine own_st (fun t k => XS.dstore X0.here hx rfl (hb hby own_d1_22) rfl (l' := #[.val (.ref o0), .val (.double (FP.dadd (0 : UInt64) v0)), .second, .val (.ref o0), .val (.int (4 : Int32)), .val (.int (1 : Int32)), .val (.double v1), .second]) rfl k) ?_
  show own_Run p e below s _ _ _ (s₁.setTop (mkF m 24 #[.val (.ref o0), .val (.double (FP.dadd (0 : UInt64) v0)), .second, .val (.ref o0), .val (.int (4 : Int32)), .val (.int (1 : Int32)), .val (.double v1), .second] []))
  refine own_st (fun t k => XS.dloadN X0.here hx rfl (hb hby own_d1_24) rfl k) ?_
  show own_Run p e below s _ _ _ (s₁.setTop (mkF m 25 #[.val (.ref o0), .val (.double (FP.dadd (0 : UInt64) v0)), .second, .val (.ref o0), .val (.int (4 : Int32)), .val (.int (1 : Int32)), .val (.double v1), .second] [(.double (FP.dadd (0 : UInt64) v0))]))
  refine own_st (fun t k => XS.dload X0.here hx rfl (hb hby own_d1_25) rfl k) ?_
  show own_Run p e below s _ _ _ (s₁.setTop (mkF m 27 #[.val (.ref o0), .val (.double (FP.dadd (0 : UInt64) v0)), .second, .val (.ref o0), .val (.int (4 : Int32)), .val (.int (1 : Int32)), .val (.double v1), .second] [(.double v1), (.double (FP.dadd (0 : UInt64) v0))]))
  refine own_st (fun t k => XS.daddS X0.here hx rfl (hb hby own_d1_27) rfl (pn1) (v := (FP.dadd (FP.dadd (0 : UInt64) v0) v1)) (rfl) k) ?_
  show own_Run p e below s _ _ _ (s₁.setTop (mkF m 28 #[.val (.ref o0), .val (.double (FP.dadd (0 : UInt64) v0)), .second, .val (.ref o0), .val (.int (4 : Int32)), .val (.int (1 : Int32)), .val (.double v1), .second] [(.double (FP.dadd (FP.dadd (0 : UInt64) v0) v1))]))
  refine own_st (fun t k => XS.dstoreN X0.here hx rfl (hb hby own_d1_28) rfl (l' := #[.val (.ref o0), .val (.double (FP.dadd (FP.dadd (0 : UInt64) v0) v1)), .second, .val (.ref o0), .val (.int (4 : Int32)), .val (.int (1 : Int32)), .val (.double v1), .second]) rfl k) ?_
  show own_Run p e below s _ _ _ (s₁.setTop (mkF m 29 #[.val (.ref o0), .val (.double (FP.dadd (FP.dadd (0 : UInt64) v0) v1)), .second, .val (.ref o0), .val (.int (4 : Int32)), .val (.int (1 : Int32)), .val (.double v1), .second] []))
  refine own_st (fun t k => XS.iinc X0.here hx rfl (hb hby own_d1_29) rfl (l' := #[.val (.ref o0), .val (.double (FP.dadd (FP.dadd (0 : UInt64) v0) v1)), .second, .val (.ref o0), .val (.int (4 : Int32)), .val (.int (2 : Int32)), .val (.double v1), .second]) rfl k) ?_
  show own_Run p e below s _ _ _ (s₁.setTop (mkF m 32 #[.val (.ref o0), .val (.double (FP.dadd (FP.dadd (0 : UInt64) v0) v1)), .second, .val (.ref o0), .val (.int (4 : Int32)), .val (.int (2 : Int32)), .val (.double v1), .second] []))
  refine own_st (fun t k => XS.goto X0.here hx rfl (pc0 := 32) (pc' := 11) rfl (hb hby own_d1_32) (by decide) (by decide) k) ?_
  show own_Run p e below s _ _ _ (s₁.setTop (mkF m 11 #[.val (.ref o0), .val (.double (FP.dadd (FP.dadd (0 : UInt64) v0) v1)), .second, .val (.ref o0), .val (.int (4 : Int32)), .val (.int (2 : Int32)), .val (.double v1), .second] []))
  refine own_st (fun t k => XS.iload X0.here hx rfl (hb hby own_d1_11) rfl k) ?_
  show own_Run p e below s _ _ _ (s₁.setTop (mkF m 13 #[.val (.ref o0), .val (.double (FP.dadd (FP.dadd (0 : UInt64) v0) v1)), .second, .val (.ref o0), .val (.int (4 : Int32)), .val (.int (2 : Int32)), .val (.double v1), .second] [(.int (2 : Int32))]))
  refine own_st (fun t k => XS.iload X0.here hx rfl (hb hby own_d1_13) rfl k) ?_
  show own_Run p e below s _ _ _ (s₁.setTop (mkF m 15 #[.val (.ref o0), .val (.double (FP.dadd (FP.dadd (0 : UInt64) v0) v1)), .second, .val (.ref o0), .val (.int (4 : Int32)), .val (.int (2 : Int32)), .val (.double v1), .second] [(.int (4 : Int32)), (.int (2 : Int32))]))
  refine own_st (fun t k => XS.icmpNo X0.here hx rfl (hb hby own_d1_15) rfl (tlt (by decide : (2 : Int32) < (4 : Int32))).2.1 k) ?_
  show own_Run p e below s _ _ _ (s₁.setTop (mkF m 18 #[.val (.ref o0), .val (.double (FP.dadd (FP.dadd (0 : UInt64) v0) v1)), .second, .val (.ref o0), .val (.int (4 : Int32)), .val (.int (2 : Int32)), .val (.double v1), .second] []))
  refine own_st (fun t k => XS.aloadN X0.here hx rfl (hb hby own_d1_18) rfl rfl k) ?_
  show own_Run p e below s _ _ _ (s₁.setTop (mkF m 19 #[.val (.ref o0), .val (.double (FP.dadd (FP.dadd (0 : UInt64) v0) v1)), .second, .val (.ref o0), .val (.int (4 : Int32)), .val (.int (2 : Int32)), .val (.double v1), .second] [(.ref o0)]))
  refine own_st (fun t k => XS.iload X0.here hx rfl (hb hby own_d1_19) rfl k) ?_
  show own_Run p e below s _ _ _ (s₁.setTop (mkF m 21 #[.val (.ref o0), .val (.double (FP.dadd (FP.dadd (0 : UInt64) v0) v1)), .second, .val (.ref o0), .val (.int (4 : Int32)), .val (.int (2 : Int32)), .val (.double v1), .second] [(.int (2 : Int32)), (.ref o0)]))
  obtain ⟨cl14, Ar14, -, S14, N14, H14, G14⟩ := id A_v
  have hin14 : ¬ ((2 : Int32) < 0 ∨ cl14.slots.size ≤ ((2 : Int32)).toNatClampNeg) := inb_of S14 ⟨by decide, by decide⟩
  refine own_st (X0.daload hx (j := (2 : Int32)) (v := (.double v2)) (by rw [e0]; exact Ar14.1) (State.isArrayOf_alike hZ.alike Ar14.2.1) Ar14.2.2 hin14 (Has.at H14 hin14 rfl) (g := (mkF m 21 #[.val (.ref o0), .val (.double (FP.dadd (FP.dadd (0 : UInt64) v0) v1)), .second, .val (.ref o0), .val (.int (4 : Int32)), .val (.int (2 : Int32)), .val (.double v1), .second] [(.int (2 : Int32)), (.ref o0)])) rfl rfl (hb hby own_d1_21)) ?_
  show own_Run p e below s _ _ _ (s₁.setTop (mkF m 22 #[.val (.ref o0), .val (.double (FP.dadd (FP.dadd (0 : UInt64) v0) v1)), .second, .val (.ref o0), .val (.int (4 : Int32)), .val (.int (2 : Int32)), .val (.double v1), .second] [(.double v2)]))
  refine own_st (fun t k => XS.dstore X0.here hx rfl (hb hby own_d1_22) rfl (l' := #[.val (.ref o0), .val (.double (FP.dadd (FP.dadd (0 : UInt64) v0) v1)), .second, .val (.ref o0), .val (.int (4 : Int32)), .val (.int (2 : Int32)), .val (.double v2), .second]) rfl k) ?_
  show own_Run p e below s _ _ _ (s₁.setTop (mkF m 24 #[.val (.ref o0), .val (.double (FP.dadd (FP.dadd (0 : UInt64) v0) v1)), .second, .val (.ref o0), .val (.int (4 : Int32)), .val (.int (2 : Int32)), .val (.double v2), .second] []))
  refine own_st (fun t k => XS.dloadN X0.here hx rfl (hb hby own_d1_24) rfl k) ?_
  show own_Run p e below s _ _ _ (s₁.setTop (mkF m 25 #[.val (.ref o0), .val (.double (FP.dadd (FP.dadd (0 : UInt64) v0) v1)), .second, .val (.ref o0), .val (.int (4 : Int32)), .val (.int (2 : Int32)), .val (.double v2), .second] [(.double (FP.dadd (FP.dadd (0 : UInt64) v0) v1))]))
  refine own_st (fun t k => XS.dload X0.here hx rfl (hb hby own_d1_25) rfl k) ?_
  show own_Run p e below s _ _ _ (s₁.setTop (mkF m 27 #[.val (.ref o0), .val (.double (FP.dadd (FP.dadd (0 : UInt64) v0) v1)), .second, .val (.ref o0), .val (.int (4 : Int32)), .val (.int (2 : Int32)), .val (.double v2), .second] [(.double v2), (.double (FP.dadd (FP.dadd (0 : UInt64) v0) v1))]))
  refine own_st (fun t k => XS.daddS X0.here hx rfl (hb hby own_d1_27) rfl (pn2) (v := (FP.dadd (FP.dadd (FP.dadd (0 : UInt64) v0) v1) v2)) (rfl) k) ?_
  show own_Run p e below s _ _ _ (s₁.setTop (mkF m 28 #[.val (.ref o0), .val (.double (FP.dadd (FP.dadd (0 : UInt64) v0) v1)), .second, .val (.ref o0), .val (.int (4 : Int32)), .val (.int (2 : Int32)), .val (.double v2), .second] [(.double (FP.dadd (FP.dadd (FP.dadd (0 : UInt64) v0) v1) v2))]))
  refine own_st (fun t k => XS.dstoreN X0.here hx rfl (hb hby own_d1_28) rfl (l' := #[.val (.ref o0), .val (.double (FP.dadd (FP.dadd (FP.dadd (0 : UInt64) v0) v1) v2)), .second, .val (.ref o0), .val (.int (4 : Int32)), .val (.int (2 : Int32)), .val (.double v2), .second]) rfl k) ?_
  show own_Run p e below s _ _ _ (s₁.setTop (mkF m 29 #[.val (.ref o0), .val (.double (FP.dadd (FP.dadd (FP.dadd (0 : UInt64) v0) v1) v2)), .second, .val (.ref o0), .val (.int (4 : Int32)), .val (.int (2 : Int32)), .val (.double v2), .second] []))
  refine own_st (fun t k => XS.iinc X0.here hx rfl (hb hby own_d1_29) rfl (l' := #[.val (.ref o0), .val (.double (FP.dadd (FP.dadd (FP.dadd (0 : UInt64) v0) v1) v2)), .second, .val (.ref o0), .val (.int (4 : Int32)), .val (.int (3 : Int32)), .val (.double v2), .second]) rfl k) ?_
  show own_Run p e below s _ _ _ (s₁.setTop (mkF m 32 #[.val (.ref o0), .val (.double (FP.dadd (FP.dadd (FP.dadd (0 : UInt64) v0) v1) v2)), .second, .val (.ref o0), .val (.int (4 : Int32)), .val (.int (3 : Int32)), .val (.double v2), .second] []))
  refine own_st (fun t k => XS.goto X0.here hx rfl (pc0 := 32) (pc' := 11) rfl (hb hby own_d1_32) (by decide) (by decide) k) ?_
  show own_Run p e below s _ _ _ (s₁.setTop (mkF m 11 #[.val (.ref o0), .val (.double (FP.dadd (FP.dadd (FP.dadd (0 : UInt64) v0) v1) v2)), .second, .val (.ref o0), .val (.int (4 : Int32)), .val (.int (3 : Int32)), .val (.double v2), .second] []))
  refine own_st (fun t k => XS.iload X0.here hx rfl (hb hby own_d1_11) rfl k) ?_
  show own_Run p e below s _ _ _ (s₁.setTop (mkF m 13 #[.val (.ref o0), .val (.double (FP.dadd (FP.dadd (FP.dadd (0 : UInt64) v0) v1) v2)), .second, .val (.ref o0), .val (.int (4 : Int32)), .val (.int (3 : Int32)), .val (.double v2), .second] [(.int (3 : Int32))]))
  refine own_st (fun t k => XS.iload X0.here hx rfl (hb hby own_d1_13) rfl k) ?_
  show own_Run p e below s _ _ _ (s₁.setTop (mkF m 15 #[.val (.ref o0), .val (.double (FP.dadd (FP.dadd (FP.dadd (0 : UInt64) v0) v1) v2)), .second, .val (.ref o0), .val (.int (4 : Int32)), .val (.int (3 : Int32)), .val (.double v2), .second] [(.int (4 : Int32)), (.int (3 : Int32))]))
  refine own_st (fun t k => XS.icmpNo X0.here hx rfl (hb hby own_d1_15) rfl (tlt (by decide : (3 : Int32) < (4 : Int32))).2.1 k) ?_
  show own_Run p e below s _ _ _ (s₁.setTop (mkF m 18 #[.val (.ref o0), .val (.double (FP.dadd (FP.dadd (FP.dadd (0 : UInt64) v0) v1) v2)), .second, .val (.ref o0), .val (.int (4 : Int32)), .val (.int (3 : Int32)), .val (.double v2), .second] []))
  refine own_st (fun t k => XS.aloadN X0.here hx rfl (hb hby own_d1_18) rfl rfl k) ?_
  show own_Run p e below s _ _ _ (s₁.setTop (mkF m 19 #[.val (.ref o0), .val (.double (FP.dadd (FP.dadd (FP.dadd (0 : UInt64) v0) v1) v2)), .second, .val (.ref o0), .val (.int (4 : Int32)), .val (.int (3 : Int32)), .val (.double v2), .second] [(.ref o0)]))
  refine own_st (fun t k => XS.iload X0.here hx rfl (hb hby own_d1_19) rfl k) ?_
  show own_Run p e below s _ _ _ (s₁.setTop (mkF m 21 #[.val (.ref o0), .val (.double (FP.dadd (FP.dadd (FP.dadd (0 : UInt64) v0) v1) v2)), .second, .val (.ref o0), .val (.int (4 : Int32)), .val (.int (3 : Int32)), .val (.double v2), .second] [(.int (3 : Int32)), (.ref o0)]))
  obtain ⟨cl15, Ar15, -, S15, N15, H15, G15⟩ := id A_v
  have hin15 : ¬ ((3 : Int32) < 0 ∨ cl15.slots.size ≤ ((3 : Int32)).toNatClampNeg) := inb_of S15 ⟨by decide, by decide⟩
  refine own_st (X0.daload hx (j := (3 : Int32)) (v := (.double v3)) (by rw [e0]; exact Ar15.1) (State.isArrayOf_alike hZ.alike Ar15.2.1) Ar15.2.2 hin15 (Has.at H15 hin15 rfl) (g := (mkF m 21 #[.val (.ref o0), .val (.double (FP.dadd (FP.dadd (FP.dadd (0 : UInt64) v0) v1) v2)), .second, .val (.ref o0), .val (.int (4 : Int32)), .val (.int (3 : Int32)), .val (.double v2), .second] [(.int (3 : Int32)), (.ref o0)])) rfl rfl (hb hby own_d1_21)) ?_
  show own_Run p e below s _ _ _ (s₁.setTop (mkF m 22 #[.val (.ref o0), .val (.double (FP.dadd (FP.dadd (FP.dadd (0 : UInt64) v0) v1) v2)), .second, .val (.ref o0), .val (.int (4 : Int32)), .val (.int (3 : Int32)), .val (.double v2), .second] [(.double v3)]))
  refine own_st (fun t k => XS.dstore X0.here hx rfl (hb hby own_d1_22) rfl (l' := #[.val (.ref o0), .val (.double (FP.dadd (FP.dadd (FP.dadd (0 : UInt64) v0) v1) v2)), .second, .val (.ref o0), .val (.int (4 : Int32)), .val (.int (3 : Int32)), .val (.double v3), .second]) rfl k) ?_
  show own_Run p e below s _ _ _ (s₁.setTop (mkF m 24 #[.val (.ref o0), .val (.double (FP.dadd (FP.dadd (FP.dadd (0 : UInt64) v0) v1) v2)), .second, .val (.ref o0), .val (.int (4 : Int32)), .val (.int (3 : Int32)), .val (.double v3), .second] []))
  refine own_st (fun t k => XS.dloadN X0.here hx rfl (hb hby own_d1_24) rfl k) ?_
  show own_Run p e below s _ _ _ (s₁.setTop (mkF m 25 #[.val (.ref o0), .val (.double (FP.dadd (FP.dadd (FP.dadd (0 : UInt64) v0) v1) v2)), .second, .val (.ref o0), .val (.int (4 : Int32)), .val (.int (3 : Int32)), .val (.double v3), .second] [(.double (FP.dadd (FP.dadd (FP.dadd (0 : UInt64) v0) v1) v2))]))
  refine own_st (fun t k => XS.dload X0.here hx rfl (hb hby own_d1_25) rfl k) ?_
  show own_Run p e below s _ _ _ (s₁.setTop (mkF m 27 #[.val (.ref o0), .val (.double (FP.dadd (FP.dadd (FP.dadd (0 : UInt64) v0) v1) v2)), .second, .val (.ref o0), .val (.int (4 : Int32)), .val (.int (3 : Int32)), .val (.double v3), .second] [(.double v3), (.double (FP.dadd (FP.dadd (FP.dadd (0 : UInt64) v0) v1) v2))]))
  refine own_st (fun t k => XS.daddS X0.here hx rfl (hb hby own_d1_27) rfl (pn3) (v := (FP.dadd (FP.dadd (FP.dadd (FP.dadd (0 : UInt64) v0) v1) v2) v3)) (rfl) k) ?_
  show own_Run p e below s _ _ _ (s₁.setTop (mkF m 28 #[.val (.ref o0), .val (.double (FP.dadd (FP.dadd (FP.dadd (0 : UInt64) v0) v1) v2)), .second, .val (.ref o0), .val (.int (4 : Int32)), .val (.int (3 : Int32)), .val (.double v3), .second] [(.double (FP.dadd (FP.dadd (FP.dadd (FP.dadd (0 : UInt64) v0) v1) v2) v3))]))
  refine own_st (fun t k => XS.dstoreN X0.here hx rfl (hb hby own_d1_28) rfl (l' := #[.val (.ref o0), .val (.double (FP.dadd (FP.dadd (FP.dadd (FP.dadd (0 : UInt64) v0) v1) v2) v3)), .second, .val (.ref o0), .val (.int (4 : Int32)), .val (.int (3 : Int32)), .val (.double v3), .second]) rfl k) ?_
  show own_Run p e below s _ _ _ (s₁.setTop (mkF m 29 #[.val (.ref o0), .val (.double (FP.dadd (FP.dadd (FP.dadd (FP.dadd (0 : UInt64) v0) v1) v2) v3)), .second, .val (.ref o0), .val (.int (4 : Int32)), .val (.int (3 : Int32)), .val (.double v3), .second] []))
  refine own_st (fun t k => XS.iinc X0.here hx rfl (hb hby own_d1_29) rfl (l' := #[.val (.ref o0), .val (.double (FP.dadd (FP.dadd (FP.dadd (FP.dadd (0 : UInt64) v0) v1) v2) v3)), .second, .val (.ref o0), .val (.int (4 : Int32)), .val (.int (4 : Int32)), .val (.double v3), .second]) rfl k) ?_
  show own_Run p e below s _ _ _ (s₁.setTop (mkF m 32 #[.val (.ref o0), .val (.double (FP.dadd (FP.dadd (FP.dadd (FP.dadd (0 : UInt64) v0) v1) v2) v3)), .second, .val (.ref o0), .val (.int (4 : Int32)), .val (.int (4 : Int32)), .val (.double v3), .second] []))
  refine own_st (fun t k => XS.goto X0.here hx rfl (pc0 := 32) (pc' := 11) rfl (hb hby own_d1_32) (by decide) (by decide) k) ?_
  show own_Run p e below s _ _ _ (s₁.setTop (mkF m 11 #[.val (.ref o0), .val (.double (FP.dadd (FP.dadd (FP.dadd (FP.dadd (0 : UInt64) v0) v1) v2) v3)), .second, .val (.ref o0), .val (.int (4 : Int32)), .val (.int (4 : Int32)), .val (.double v3), .second] []))
  refine own_st (fun t k => XS.iload X0.here hx rfl (hb hby own_d1_11) rfl k) ?_
  show own_Run p e below s _ _ _ (s₁.setTop (mkF m 13 #[.val (.ref o0), .val (.double (FP.dadd (FP.dadd (FP.dadd (FP.dadd (0 : UInt64) v0) v1) v2) v3)), .second, .val (.ref o0), .val (.int (4 : Int32)), .val (.int (4 : Int32)), .val (.double v3), .second] [(.int (4 : Int32))]))
  refine own_st (fun t k => XS.iload X0.here hx rfl (hb hby own_d1_13) rfl k) ?_
  show own_Run p e below s _ _ _ (s₁.setTop (mkF m 15 #[.val (.ref o0), .val (.double (FP.dadd (FP.dadd (FP.dadd (FP.dadd (0 : UInt64) v0) v1) v2) v3)), .second, .val (.ref o0), .val (.int (4 : Int32)), .val (.int (4 : Int32)), .val (.double v3), .second] [(.int (4 : Int32)), (.int (4 : Int32))]))
  refine own_st (fun t k => XS.icmpYes X0.here hx rfl (pc0 := 15) (pc' := 35) rfl (hb hby own_d1_15) rfl (flt (by decide : ¬ ((4 : Int32) < (4 : Int32)))).2.1 (by decide) (by decide) k) ?_
  show own_Run p e below s _ _ _ (s₁.setTop (mkF m 35 #[.val (.ref o0), .val (.double (FP.dadd (FP.dadd (FP.dadd (FP.dadd (0 : UInt64) v0) v1) v2) v3)), .second, .val (.ref o0), .val (.int (4 : Int32)), .val (.int (4 : Int32)), .val (.double v3), .second] []))
  refine own_st (fun t k => XS.dloadN X0.here hx rfl (hb hby own_d1_35) rfl k) ?_
  show own_Run p e below s _ _ _ (s₁.setTop (mkF m 36 #[.val (.ref o0), .val (.double (FP.dadd (FP.dadd (FP.dadd (FP.dadd (0 : UInt64) v0) v1) v2) v3)), .second, .val (.ref o0), .val (.int (4 : Int32)), .val (.int (4 : Int32)), .val (.double v3), .second] [(.double (FP.dadd (FP.dadd (FP.dadd (FP.dadd (0 : UInt64) v0) v1) v2) v3))]))
  refine own_st (X0.ldc2DoubleC hx hown (mvT hZ (hw _ (List.mem_of_getElem? (i := 6) rfl))) (g := (mkF m 36 #[.val (.ref o0), .val (.double (FP.dadd (FP.dadd (FP.dadd (FP.dadd (0 : UInt64) v0) v1) v2) v3)), .second, .val (.ref o0), .val (.int (4 : Int32)), .val (.int (4 : Int32)), .val (.double v3), .second] [(.double (FP.dadd (FP.dadd (FP.dadd (FP.dadd (0 : UInt64) v0) v1) v2) v3))])) rfl (hb hby own_d1_36)) ?_
  show own_Run p e below s _ _ _ (s₁.setTop (mkF m 39 #[.val (.ref o0), .val (.double (FP.dadd (FP.dadd (FP.dadd (FP.dadd (0 : UInt64) v0) v1) v2) v3)), .second, .val (.ref o0), .val (.int (4 : Int32)), .val (.int (4 : Int32)), .val (.double v3), .second] [(.double (4613937818241073152 : UInt64)), (.double (FP.dadd (FP.dadd (FP.dadd (FP.dadd (0 : UInt64) v0) v1) v2) v3))]))
  refine own_st (fun t k => XS.ddivS X0.here hx rfl (hb hby own_d1_39) rfl (pnq) (v := (FP.ddiv (FP.dadd (FP.dadd (FP.dadd (FP.dadd (0 : UInt64) v0) v1) v2) v3) (4613937818241073152 : UInt64))) (rfl) k) ?_
  show own_Run p e below s _ _ _ (s₁.setTop (mkF m 40 #[.val (.ref o0), .val (.double (FP.dadd (FP.dadd (FP.dadd (FP.dadd (0 : UInt64) v0) v1) v2) v3)), .second, .val (.ref o0), .val (.int (4 : Int32)), .val (.int (4 : Int32)), .val (.double v3), .second] [(.double (FP.ddiv (FP.dadd (FP.dadd (FP.dadd (FP.dadd (0 : UInt64) v0) v1) v2) v3) (4613937818241073152 : UInt64)))]))
  exact own_ret X0 hx hlk (t := .double) hret rfl (Or.inr (Or.inr (Or.inl ⟨rfl, rfl, _, rfl⟩))) (hb hby own_d1_40) (by decide) (by decide) ⟨rfl, N0, e0⟩
theorem own_pd1 : parseMethodDescriptor "([D)D" = some ⟨[(.array .double)], some .double⟩ := by decide +kernel
set_option maxHeartbeats 4000000 in
theorem own_ef0 (m : MethodId) (x0 : Int32) (x1 : Int32) (x2 : Int32) (x3 : Int32) (x4 : Int32) : entryFrame m #[(.int x0), (.int x1), (.int x2), (.int x3), (.int x4)] maxLocals = mkF m 0 #[.val (.int x0), .val (.int x1), .val (.int x2), .val (.int x3), .val (.int x4), .unset, .unset, .unset, .unset, .unset, .unset, .unset, .unset] [] := by first | (simp [entryFrame, mkF, argsToLocals, Value.category, maxLocals]; done) | rfl
theorem own_pn2 : plainName "com/example/triflux/triflux/eval/AccuracyTrianglesPinLaw" = true := by first | (simp [plainName, overriddenIn]; done) | decide +kernel
def own_Q0 (Z : State) (a0 : Array Value) (i0 : Int32) (i1 : Int32) (i2 : Int32) (i3 : Int32) (i4 : Int32) (h0 : Heap) (n0 : Nat) (v : Option Value) (h : Heap) (L : List Loc) : Prop := v = some (.int 1) ∧ Fr n0 L
set_option maxRecDepth 65536 in
set_option maxHeartbeats 40000000 in
theorem own_rm0 (l : Launch) (Z : State) (a0 : Array Value) (hw : ∀ d ∈ tables_1, d.before a0 Z = true) (ws : List Jvm.Cond) (i0 : Int32) (i1 : Int32) (i2 : Int32) (i3 : Int32) (i4 : Int32) (h0 : Heap) (n0 : Nat) (Z0 : n0 ≤ h0.size) (O0 : Old Z n0 h0) :
    MetFree l x (head1 (Jvm.Cond.code x code maxLocals ret :: ws) room_1) (fun a U => a = #[(.int i0), (.int i1), (.int i2), (.int i3), (.int i4)] ∧ Z.Warmed39 U.vm ∧ U.heap = h0) (fun _ _ _ _ _ => True) (fun _ U o U' => ∃ v L, o = .returned v ∧ own_Q0 Z a0 i0 i1 i2 i3 i4 h0 n0 v U'.heap L ∧ FrameEnd U o U' L room_1.cells room_1.slots) := by
  refine own_body (Q := fun v h L => own_Q0 Z a0 i0 i1 i2 i3 i4 h0 n0 v h L) (plainFor_of_name own_pn2) ?_
  intro p e s m below meth c s₁ hx hby hml hZ hown hnm hret hlk X0 e0
  replace hml : c.maxLocals = 13 := hml
  replace hown : s.vm.findClass "com/example/triflux/triflux/eval/AccuracyTrianglesPinLaw" = some m.cls := hown
  have N0 := Fr.nil n0
  have K0 : Keep h0 h0 [] := Keep.refl _ _
  refine own_st (fun t k => castTop (own_ef0 m i0 i1 i2 i3 i4) k) ?_
  show own_Run p e below s _ _ _ (s₁.setTop (mkF m 0 #[.val (.int i0), .val (.int i1), .val (.int i2), .val (.int i3), .val (.int i4), .unset, .unset, .unset, .unset, .unset, .unset, .unset, .unset] []))
  refine own_st (fun t k => XS.iloadN X0.here hx rfl (hb hby at_0) rfl k) ?_
  show own_Run p e below s _ _ _ (s₁.setTop (mkF m 1 #[.val (.int i0), .val (.int i1), .val (.int i2), .val (.int i3), .val (.int i4), .unset, .unset, .unset, .unset, .unset, .unset, .unset, .unset] [(.int i0)]))
  refine own_st (X0.ldcInt hx hown (mvT hZ (hw _ (List.mem_of_getElem? (i := 0) rfl))) (g := (mkF m 1 #[.val (.int i0), .val (.int i1), .val (.int i2), .val (.int i3), .val (.int i4), .unset, .unset, .unset, .unset, .unset, .unset, .unset, .unset] [(.int i0)])) rfl (hb hby at_1)) ?_
  show own_Run p e below s _ _ _ (s₁.setTop (mkF m 3 #[.val (.int i0), .val (.int i1), .val (.int i2), .val (.int i3), .val (.int i4), .unset, .unset, .unset, .unset, .unset, .unset, .unset, .unset] [(.int (2147483647 : Int32)), (.int i0)]))
  refine own_st (fun t k => XS.iand X0.here hx rfl (hb hby at_3) rfl k) ?_
  show own_Run p e below s _ _ _ (s₁.setTop (mkF m 4 #[.val (.int i0), .val (.int i1), .val (.int i2), .val (.int i3), .val (.int i4), .unset, .unset, .unset, .unset, .unset, .unset, .unset, .unset] [(.int (i0 &&& (2147483647 : Int32)))]))
  refine own_st (fun t k => XS.iconst X0.here hx rfl (hb hby at_4) k) ?_
  show own_Run p e below s _ _ _ (s₁.setTop (mkF m 5 #[.val (.int i0), .val (.int i1), .val (.int i2), .val (.int i3), .val (.int i4), .unset, .unset, .unset, .unset, .unset, .unset, .unset, .unset] [(.int (5 : Int32)), (.int (i0 &&& (2147483647 : Int32)))]))
  refine own_st (fun t k => iremM X0 hx rfl (hb hby at_5) rfl (by decide) k) ?_
  show own_Run p e below s _ _ _ (s₁.setTop (mkF m 6 #[.val (.int i0), .val (.int i1), .val (.int i2), .val (.int i3), .val (.int i4), .unset, .unset, .unset, .unset, .unset, .unset, .unset, .unset] [(.int ((i0 &&& (2147483647 : Int32)) % (5 : Int32)))]))
  obtain ⟨n, h_n⟩ : ∃ z, (((i0 &&& (2147483647 : Int32)) % (5 : Int32)) : Int32) = z := ⟨_, rfl⟩
  refine own_topI h_n ?_
  show own_Run p e below s _ _ _ (s₁.setTop (mkF m 6 #[.val (.int i0), .val (.int i1), .val (.int i2), .val (.int i3), .val (.int i4), .unset, .unset, .unset, .unset, .unset, .unset, .unset, .unset] [(.int n)]))
  rcases own_five i0 h_n with hn | hn | hn | hn | hn
  · refine own_topI hn ?_
    show own_Run p e below s _ _ _ (s₁.setTop (mkF m 6 #[.val (.int i0), .val (.int i1), .val (.int i2), .val (.int i3), .val (.int i4), .unset, .unset, .unset, .unset, .unset, .unset, .unset, .unset] [(.int (0 : Int32))]))
    refine own_st (fun t k => XS.istore X0.here hx rfl (hb hby at_6) rfl (l' := #[.val (.int i0), .val (.int i1), .val (.int i2), .val (.int i3), .val (.int i4), .val (.int (0 : Int32)), .unset, .unset, .unset, .unset, .unset, .unset, .unset]) rfl k) ?_
    show own_Run p e below s _ _ _ (s₁.setTop (mkF m 8 #[.val (.int i0), .val (.int i1), .val (.int i2), .val (.int i3), .val (.int i4), .val (.int (0 : Int32)), .unset, .unset, .unset, .unset, .unset, .unset, .unset] []))
    refine own_st (fun t k => XS.iload X0.here hx rfl (hb hby at_8) rfl k) ?_
    show own_Run p e below s _ _ _ (s₁.setTop (mkF m 10 #[.val (.int i0), .val (.int i1), .val (.int i2), .val (.int i3), .val (.int i4), .val (.int (0 : Int32)), .unset, .unset, .unset, .unset, .unset, .unset, .unset] [(.int (0 : Int32))]))
    refine own_st (fun t k => XS.ifNo X0.here hx rfl (hb hby at_10) rfl ((if0 _ _).trans (teq (by decide : (0 : Int32) = (0 : Int32))).2) k) ?_
    show own_Run p e below s _ _ _ (s₁.setTop (mkF m 13 #[.val (.int i0), .val (.int i1), .val (.int i2), .val (.int i3), .val (.int i4), .val (.int (0 : Int32)), .unset, .unset, .unset, .unset, .unset, .unset, .unset] []))
    refine own_st (fun t k => XS.iconst X0.here hx rfl (hb hby at_13) k) ?_
    show own_Run p e below s _ _ _ (s₁.setTop (mkF m 14 #[.val (.int i0), .val (.int i1), .val (.int i2), .val (.int i3), .val (.int i4), .val (.int (0 : Int32)), .unset, .unset, .unset, .unset, .unset, .unset, .unset] [(.int (0 : Int32))]))
    obtain ⟨T16, h16, k16, X16, e16, E16, A16, st16⟩ := newP X0 hx hZ (hw _ (List.mem_of_getElem? (i := 1) rfl)) e0 (g := (mkF m 14 #[.val (.int i0), .val (.int i1), .val (.int i2), .val (.int i3), .val (.int i4), .val (.int (0 : Int32)), .unset, .unset, .unset, .unset, .unset, .unset, .unset] [(.int (0 : Int32))])) rfl (hb hby at_14) rfl (by decide) (cap := 0) (by decide) (by decide) (by decide) (by decide)
    obtain ⟨b16, g16⟩ : ∃ z, z = h0.size := ⟨_, rfl⟩
    rw [← g16] at A16 st16
    have sz17 : h0.size ≤ b16 := Nat.le_trans K0.1 (Nat.le_of_eq g16.symm)
    have ge18 : n0 ≤ b16 := Nat.le_trans Z0 sz17
    refine own_st st16 ?_
    have V16 : Arv Z h16 b16 k16 .double (0 : Int32) [] (.double (0 : UInt64)) := (Arv.new A16 (by decide))
    have K19 : Keep h0 h16 [] := K0.ext E16
    have O20 := O0.ext E16
    show own_Run p e below s _ _ _ (T16.setTop (mkF m 16 #[.val (.int i0), .val (.int i1), .val (.int i2), .val (.int i3), .val (.int i4), .val (.int (0 : Int32)), .unset, .unset, .unset, .unset, .unset, .unset, .unset] [(.ref b16)]))
    refine own_st (fun t k => XS.astore X16.here hx rfl (hb hby at_16) rfl rfl (l' := #[.val (.int i0), .val (.int i1), .val (.int i2), .val (.int i3), .val (.int i4), .val (.int (0 : Int32)), .val (.ref b16), .unset, .unset, .unset, .unset, .unset, .unset]) rfl k) ?_
    show own_Run p e below s _ _ _ (T16.setTop (mkF m 18 #[.val (.int i0), .val (.int i1), .val (.int i2), .val (.int i3), .val (.int i4), .val (.int (0 : Int32)), .val (.ref b16), .unset, .unset, .unset, .unset, .unset, .unset] []))
    refine own_st (fun t k => XS.lconst X16.here hx rfl (hb hby at_18) k) ?_
    show own_Run p e below s _ _ _ (T16.setTop (mkF m 19 #[.val (.int i0), .val (.int i1), .val (.int i2), .val (.int i3), .val (.int i4), .val (.int (0 : Int32)), .val (.ref b16), .unset, .unset, .unset, .unset, .unset, .unset] [(.long (0 : Int64))]))
    refine own_st (fun t k => XS.lstore X16.here hx rfl (hb hby at_19) rfl (l' := #[.val (.int i0), .val (.int i1), .val (.int i2), .val (.int i3), .val (.int i4), .val (.int (0 : Int32)), .val (.ref b16), .val (.long (0 : Int64)), .second, .unset, .unset, .unset, .unset]) rfl k) ?_
    show own_Run p e below s _ _ _ (T16.setTop (mkF m 21 #[.val (.int i0), .val (.int i1), .val (.int i2), .val (.int i3), .val (.int i4), .val (.int (0 : Int32)), .val (.ref b16), .val (.long (0 : Int64)), .second, .unset, .unset, .unset, .unset] []))
    refine own_st (fun t k => XS.goto X16.here hx rfl (pc0 := 21) (pc' := 157) rfl (hb hby at_21) (by decide) (by decide) k) ?_
    show own_Run p e below s _ _ _ (T16.setTop (mkF m 157 #[.val (.int i0), .val (.int i1), .val (.int i2), .val (.int i3), .val (.int i4), .val (.int (0 : Int32)), .val (.ref b16), .val (.long (0 : Int64)), .second, .unset, .unset, .unset, .unset] []))
    refine own_st (fun t k => XS.aload X16.here hx rfl (hb hby at_157) rfl rfl k) ?_
    show own_Run p e below s _ _ _ (T16.setTop (mkF m 159 #[.val (.int i0), .val (.int i1), .val (.int i2), .val (.int i3), .val (.int i4), .val (.int (0 : Int32)), .val (.ref b16), .val (.long (0 : Int64)), .second, .unset, .unset, .unset, .unset] [(.ref b16)]))
    have z0 := own_Z0
    have z3 : own_Z 1074 3 (4613937818241073152 : UInt64) := own_three
    have e0 : (0 : UInt64) = FP.l2d 0 := l2d_zero.symm
    have pnq := own_Z.divnn z0 z3 (by decide)
    have nw : Jvm.Free.Fl.NoNaN64 (FP.ddiv (FP.l2d (0 : Int64)) (4613937818241073152 : UInt64)) := e0 ▸ pnq
    refine own_callS X16 hx hZ (y := (⟨"com/example/triflux/triflux/eval/Accuracy", "triangles", "([D)D"⟩ : MethodName)) hown (hw _ (List.mem_of_getElem? (i := 2) rfl)) (hw _ (List.mem_of_getElem? (i := 3) rfl)) (hw _ (List.mem_of_getElem? (i := 5) rfl)) (hw _ (List.mem_of_getElem? (i := 4) rfl)) (by decide) e16 (argsL := [(.ref b16)]) (rest := []) (W := 0) (own_rm1pn0 l Z a0 hw [] b16 k16 h16 n0 (Nat.le_trans Z0 K19.1) V16 (pnq)) (by decide) (by decide) (by rw [hml]; rfl) (lenOf own_pd1 rfl) rfl (by exact Nat.le_of_eq rfl) (hb hby at_159) (by decide) (by decide) ?_
    intro T21 v21 L21 X21 hq21
    obtain ⟨rfl, N21q, hh21⟩ := hq21
    have N21 := Fr.app N0 N21q
    show own_Run p e below s _ _ _ (T21.setTop (mkF m 162 #[.val (.int i0), .val (.int i1), .val (.int i2), .val (.int i3), .val (.int i4), .val (.int (0 : Int32)), .val (.ref b16), .val (.long (0 : Int64)), .second, .unset, .unset, .unset, .unset] [(.double (FP.ddiv (0 : UInt64) (4613937818241073152 : UInt64)))]))
    refine own_st (fun t k => XS.dstore X21.here hx rfl (hb hby at_162) rfl (l' := #[.val (.int i0), .val (.int i1), .val (.int i2), .val (.int i3), .val (.int i4), .val (.int (0 : Int32)), .val (.ref b16), .val (.long (0 : Int64)), .second, .val (.double (FP.ddiv (0 : UInt64) (4613937818241073152 : UInt64))), .second, .unset, .unset]) rfl k) ?_
    show own_Run p e below s _ _ _ (T21.setTop (mkF m 164 #[.val (.int i0), .val (.int i1), .val (.int i2), .val (.int i3), .val (.int i4), .val (.int (0 : Int32)), .val (.ref b16), .val (.long (0 : Int64)), .second, .val (.double (FP.ddiv (0 : UInt64) (4613937818241073152 : UInt64))), .second, .unset, .unset] []))
    refine own_st (fun t k => XS.lload X21.here hx rfl (hb hby at_164) rfl k) ?_
    show own_Run p e below s _ _ _ (T21.setTop (mkF m 166 #[.val (.int i0), .val (.int i1), .val (.int i2), .val (.int i3), .val (.int i4), .val (.int (0 : Int32)), .val (.ref b16), .val (.long (0 : Int64)), .second, .val (.double (FP.ddiv (0 : UInt64) (4613937818241073152 : UInt64))), .second, .unset, .unset] [(.long (0 : Int64))]))
    refine own_st (fun t k => XS.l2dS X21.here hx rfl (hb hby at_166) rfl (v := (FP.l2d (0 : Int64))) (rfl) k) ?_
    show own_Run p e below s _ _ _ (T21.setTop (mkF m 167 #[.val (.int i0), .val (.int i1), .val (.int i2), .val (.int i3), .val (.int i4), .val (.int (0 : Int32)), .val (.ref b16), .val (.long (0 : Int64)), .second, .val (.double (FP.ddiv (0 : UInt64) (4613937818241073152 : UInt64))), .second, .unset, .unset] [(.double (FP.l2d (0 : Int64)))]))
    refine own_st (X21.ldc2DoubleC hx hown (mvT hZ (hw _ (List.mem_of_getElem? (i := 7) rfl))) (g := (mkF m 167 #[.val (.int i0), .val (.int i1), .val (.int i2), .val (.int i3), .val (.int i4), .val (.int (0 : Int32)), .val (.ref b16), .val (.long (0 : Int64)), .second, .val (.double (FP.ddiv (0 : UInt64) (4613937818241073152 : UInt64))), .second, .unset, .unset] [(.double (FP.l2d (0 : Int64)))])) rfl (hb hby at_167)) ?_
    show own_Run p e below s _ _ _ (T21.setTop (mkF m 170 #[.val (.int i0), .val (.int i1), .val (.int i2), .val (.int i3), .val (.int i4), .val (.int (0 : Int32)), .val (.ref b16), .val (.long (0 : Int64)), .second, .val (.double (FP.ddiv (0 : UInt64) (4613937818241073152 : UInt64))), .second, .unset, .unset] [(.double (4613937818241073152 : UInt64)), (.double (FP.l2d (0 : Int64)))]))
    refine own_st (fun t k => XS.ddivS X21.here hx rfl (hb hby at_170) rfl (nw) (v := (FP.ddiv (FP.l2d (0 : Int64)) (4613937818241073152 : UInt64))) (rfl) k) ?_
    show own_Run p e below s _ _ _ (T21.setTop (mkF m 171 #[.val (.int i0), .val (.int i1), .val (.int i2), .val (.int i3), .val (.int i4), .val (.int (0 : Int32)), .val (.ref b16), .val (.long (0 : Int64)), .second, .val (.double (FP.ddiv (0 : UInt64) (4613937818241073152 : UInt64))), .second, .unset, .unset] [(.double (FP.ddiv (FP.l2d (0 : Int64)) (4613937818241073152 : UInt64)))]))
    refine own_st (fun t k => XS.dstore X21.here hx rfl (hb hby at_171) rfl (l' := #[.val (.int i0), .val (.int i1), .val (.int i2), .val (.int i3), .val (.int i4), .val (.int (0 : Int32)), .val (.ref b16), .val (.long (0 : Int64)), .second, .val (.double (FP.ddiv (0 : UInt64) (4613937818241073152 : UInt64))), .second, .val (.double (FP.ddiv (FP.l2d (0 : Int64)) (4613937818241073152 : UInt64))), .second]) rfl k) ?_
    show own_Run p e below s _ _ _ (T21.setTop (mkF m 173 #[.val (.int i0), .val (.int i1), .val (.int i2), .val (.int i3), .val (.int i4), .val (.int (0 : Int32)), .val (.ref b16), .val (.long (0 : Int64)), .second, .val (.double (FP.ddiv (0 : UInt64) (4613937818241073152 : UInt64))), .second, .val (.double (FP.ddiv (FP.l2d (0 : Int64)) (4613937818241073152 : UInt64))), .second] []))
    refine own_st (fun t k => XS.dload X21.here hx rfl (hb hby at_173) rfl k) ?_
    show own_Run p e below s _ _ _ (T21.setTop (mkF m 175 #[.val (.int i0), .val (.int i1), .val (.int i2), .val (.int i3), .val (.int i4), .val (.int (0 : Int32)), .val (.ref b16), .val (.long (0 : Int64)), .second, .val (.double (FP.ddiv (0 : UInt64) (4613937818241073152 : UInt64))), .second, .val (.double (FP.ddiv (FP.l2d (0 : Int64)) (4613937818241073152 : UInt64))), .second] [(.double (FP.ddiv (0 : UInt64) (4613937818241073152 : UInt64)))]))
    refine own_st (fun t k => XS.dload X21.here hx rfl (hb hby at_175) rfl k) ?_
    show own_Run p e below s _ _ _ (T21.setTop (mkF m 177 #[.val (.int i0), .val (.int i1), .val (.int i2), .val (.int i3), .val (.int i4), .val (.int (0 : Int32)), .val (.ref b16), .val (.long (0 : Int64)), .second, .val (.double (FP.ddiv (0 : UInt64) (4613937818241073152 : UInt64))), .second, .val (.double (FP.ddiv (FP.l2d (0 : Int64)) (4613937818241073152 : UInt64))), .second] [(.double (FP.ddiv (FP.l2d (0 : Int64)) (4613937818241073152 : UInt64))), (.double (FP.ddiv (0 : UInt64) (4613937818241073152 : UInt64)))]))
    refine own_st (fun t k => XS.dcmpS X21.here hx rfl (hb hby at_177) rfl (v := (0 : Int32)) (dcmpV_eq (congrArg (fun z => FP.ddiv z (4613937818241073152 : UInt64)) e0) pnq _) k) ?_
    show own_Run p e below s _ _ _ (T21.setTop (mkF m 178 #[.val (.int i0), .val (.int i1), .val (.int i2), .val (.int i3), .val (.int i4), .val (.int (0 : Int32)), .val (.ref b16), .val (.long (0 : Int64)), .second, .val (.double (FP.ddiv (0 : UInt64) (4613937818241073152 : UInt64))), .second, .val (.double (FP.ddiv (FP.l2d (0 : Int64)) (4613937818241073152 : UInt64))), .second] [(.int (0 : Int32))]))
    refine own_st (fun t k => XS.ifNo X21.here hx rfl (hb hby at_178) rfl ((if0 _ _).trans (teq (by decide : (0 : Int32) = (0 : Int32))).2) k) ?_
    show own_Run p e below s _ _ _ (T21.setTop (mkF m 181 #[.val (.int i0), .val (.int i1), .val (.int i2), .val (.int i3), .val (.int i4), .val (.int (0 : Int32)), .val (.ref b16), .val (.long (0 : Int64)), .second, .val (.double (FP.ddiv (0 : UInt64) (4613937818241073152 : UInt64))), .second, .val (.double (FP.ddiv (FP.l2d (0 : Int64)) (4613937818241073152 : UInt64))), .second] []))
    refine own_st (fun t k => XS.iconst X21.here hx rfl (hb hby at_181) k) ?_
    show own_Run p e below s _ _ _ (T21.setTop (mkF m 182 #[.val (.int i0), .val (.int i1), .val (.int i2), .val (.int i3), .val (.int i4), .val (.int (0 : Int32)), .val (.ref b16), .val (.long (0 : Int64)), .second, .val (.double (FP.ddiv (0 : UInt64) (4613937818241073152 : UInt64))), .second, .val (.double (FP.ddiv (FP.l2d (0 : Int64)) (4613937818241073152 : UInt64))), .second] [(.int (1 : Int32))]))
    refine own_st (fun t k => XS.goto X21.here hx rfl (pc0 := 182) (pc' := 186) rfl (hb hby at_182) (by decide) (by decide) k) ?_
    show own_Run p e below s _ _ _ (T21.setTop (mkF m 186 #[.val (.int i0), .val (.int i1), .val (.int i2), .val (.int i3), .val (.int i4), .val (.int (0 : Int32)), .val (.ref b16), .val (.long (0 : Int64)), .second, .val (.double (FP.ddiv (0 : UInt64) (4613937818241073152 : UInt64))), .second, .val (.double (FP.ddiv (FP.l2d (0 : Int64)) (4613937818241073152 : UInt64))), .second] [(.int (1 : Int32))]))
    exact own_ret X21 hx hlk (t := .boolean) hret rfl (Or.inl ⟨rfl, by simp, _, rfl⟩) (hb hby at_186) (by decide) (by decide) ⟨rfl, N21⟩
  · refine own_topI hn ?_
    show own_Run p e below s _ _ _ (s₁.setTop (mkF m 6 #[.val (.int i0), .val (.int i1), .val (.int i2), .val (.int i3), .val (.int i4), .unset, .unset, .unset, .unset, .unset, .unset, .unset, .unset] [(.int (1 : Int32))]))
    refine own_st (fun t k => XS.istore X0.here hx rfl (hb hby at_6) rfl (l' := #[.val (.int i0), .val (.int i1), .val (.int i2), .val (.int i3), .val (.int i4), .val (.int (1 : Int32)), .unset, .unset, .unset, .unset, .unset, .unset, .unset]) rfl k) ?_
    show own_Run p e below s _ _ _ (s₁.setTop (mkF m 8 #[.val (.int i0), .val (.int i1), .val (.int i2), .val (.int i3), .val (.int i4), .val (.int (1 : Int32)), .unset, .unset, .unset, .unset, .unset, .unset, .unset] []))
    refine own_st (fun t k => XS.iload X0.here hx rfl (hb hby at_8) rfl k) ?_
    show own_Run p e below s _ _ _ (s₁.setTop (mkF m 10 #[.val (.int i0), .val (.int i1), .val (.int i2), .val (.int i3), .val (.int i4), .val (.int (1 : Int32)), .unset, .unset, .unset, .unset, .unset, .unset, .unset] [(.int (1 : Int32))]))
    refine own_st (fun t k => XS.ifYes X0.here hx rfl (pc0 := 10) (pc' := 24) rfl (hb hby at_10) rfl ((if0 _ _).trans (feq (by decide : ¬ ((1 : Int32) = (0 : Int32)))).2) (by decide) (by decide) k) ?_
    show own_Run p e below s _ _ _ (s₁.setTop (mkF m 24 #[.val (.int i0), .val (.int i1), .val (.int i2), .val (.int i3), .val (.int i4), .val (.int (1 : Int32)), .unset, .unset, .unset, .unset, .unset, .unset, .unset] []))
    refine own_st (fun t k => XS.iload X0.here hx rfl (hb hby at_24) rfl k) ?_
    show own_Run p e below s _ _ _ (s₁.setTop (mkF m 26 #[.val (.int i0), .val (.int i1), .val (.int i2), .val (.int i3), .val (.int i4), .val (.int (1 : Int32)), .unset, .unset, .unset, .unset, .unset, .unset, .unset] [(.int (1 : Int32))]))
    refine own_st (fun t k => XS.iconst X0.here hx rfl (hb hby at_26) k) ?_
    show own_Run p e below s _ _ _ (s₁.setTop (mkF m 27 #[.val (.int i0), .val (.int i1), .val (.int i2), .val (.int i3), .val (.int i4), .val (.int (1 : Int32)), .unset, .unset, .unset, .unset, .unset, .unset, .unset] [(.int (1 : Int32)), (.int (1 : Int32))]))
    refine own_st (fun t k => XS.icmpNo X0.here hx rfl (hb hby at_27) rfl (teq (by decide : (1 : Int32) = (1 : Int32))).2 k) ?_
    show own_Run p e below s _ _ _ (s₁.setTop (mkF m 30 #[.val (.int i0), .val (.int i1), .val (.int i2), .val (.int i3), .val (.int i4), .val (.int (1 : Int32)), .unset, .unset, .unset, .unset, .unset, .unset, .unset] []))
    refine own_st (fun t k => XS.iconst X0.here hx rfl (hb hby at_30) k) ?_
    show own_Run p e below s _ _ _ (s₁.setTop (mkF m 31 #[.val (.int i0), .val (.int i1), .val (.int i2), .val (.int i3), .val (.int i4), .val (.int (1 : Int32)), .unset, .unset, .unset, .unset, .unset, .unset, .unset] [(.int (1 : Int32))]))
    obtain ⟨T22, h22, k22, X22, e22, E22, A22, st22⟩ := newP X0 hx hZ (hw _ (List.mem_of_getElem? (i := 1) rfl)) e0 (g := (mkF m 31 #[.val (.int i0), .val (.int i1), .val (.int i2), .val (.int i3), .val (.int i4), .val (.int (1 : Int32)), .unset, .unset, .unset, .unset, .unset, .unset, .unset] [(.int (1 : Int32))])) rfl (hb hby at_31) rfl (by decide) (cap := 1) (by decide) (by decide) (by decide) (by decide)
    obtain ⟨b22, g22⟩ : ∃ z, z = h0.size := ⟨_, rfl⟩
    rw [← g22] at A22 st22
    have sz23 : h0.size ≤ b22 := Nat.le_trans K0.1 (Nat.le_of_eq g22.symm)
    have ge24 : n0 ≤ b22 := Nat.le_trans Z0 sz23
    refine own_st st22 ?_
    have V22 : Arv Z h22 b22 k22 .double (1 : Int32) [(.double (0 : UInt64))] (.double (0 : UInt64)) := (Arv.new A22 (by decide)).pad (pad_rep [] (.double (0 : UInt64)) 1)
    have K25 : Keep h0 h22 [] := K0.ext E22
    have O26 := O0.ext E22
    show own_Run p e below s _ _ _ (T22.setTop (mkF m 33 #[.val (.int i0), .val (.int i1), .val (.int i2), .val (.int i3), .val (.int i4), .val (.int (1 : Int32)), .unset, .unset, .unset, .unset, .unset, .unset, .unset] [(.ref b22)]))
    refine own_st (fun t k => XS.dup X22.here hx rfl (hb hby at_33) rfl rfl k) ?_
    show own_Run p e below s _ _ _ (T22.setTop (mkF m 34 #[.val (.int i0), .val (.int i1), .val (.int i2), .val (.int i3), .val (.int i4), .val (.int (1 : Int32)), .unset, .unset, .unset, .unset, .unset, .unset, .unset] [(.ref b22), (.ref b22)]))
    refine own_st (fun t k => XS.iconst X22.here hx rfl (hb hby at_34) k) ?_
    show own_Run p e below s _ _ _ (T22.setTop (mkF m 35 #[.val (.int i0), .val (.int i1), .val (.int i2), .val (.int i3), .val (.int i4), .val (.int (1 : Int32)), .unset, .unset, .unset, .unset, .unset, .unset, .unset] [(.int (0 : Int32)), (.ref b22), (.ref b22)]))
    refine own_st (fun t k => XS.iloadN X22.here hx rfl (hb hby at_35) rfl k) ?_
    show own_Run p e below s _ _ _ (T22.setTop (mkF m 36 #[.val (.int i0), .val (.int i1), .val (.int i2), .val (.int i3), .val (.int i4), .val (.int (1 : Int32)), .unset, .unset, .unset, .unset, .unset, .unset, .unset] [(.int i1), (.int (0 : Int32)), (.ref b22), (.ref b22)]))
    refine own_st (fun t k => XS.i2dS X22.here hx rfl (hb hby at_36) rfl (v := (FP.i2d i1)) (rfl) k) ?_
    show own_Run p e below s _ _ _ (T22.setTop (mkF m 37 #[.val (.int i0), .val (.int i1), .val (.int i2), .val (.int i3), .val (.int i4), .val (.int (1 : Int32)), .unset, .unset, .unset, .unset, .unset, .unset, .unset] [(.double (FP.i2d i1)), (.int (0 : Int32)), (.ref b22), (.ref b22)]))
    obtain ⟨cl27, Ar27, q27, S27, N27, H27, G27⟩ := id V22
    have hin27 : ¬ ((0 : Int32) < 0 ∨ cl27.slots.size ≤ ((0 : Int32)).toNatClampNeg) := inb_of S27 ⟨by decide, by decide⟩
    obtain ⟨T28, h28, X28, e28, W28, st28⟩ := stD X22 hx hZ e22 Ar27 (j := (0 : Int32)) hin27 (g := (mkF m 37 #[.val (.int i0), .val (.int i1), .val (.int i2), .val (.int i3), .val (.int i4), .val (.int (1 : Int32)), .unset, .unset, .unset, .unset, .unset, .unset, .unset] [(.double (FP.i2d i1)), (.int (0 : Int32)), (.ref b22), (.ref b22)])) rfl rfl (hb hby at_37)
    refine own_st st28 ?_
    have V28 : Arv Z h28 b22 k22 .double (1 : Int32) [(.double (FP.i2d i1))] (.double (0 : UInt64)) := Arv.set Ar27 q27 S27 N27 H27 G27 rfl W28 0 rfl (Nat.le_of_ble_eq_true rfl)
    have N28 := Fr.snoc X28 N0 ge24
    have K29 : Keep h0 h28 [] := K25.wr W28 (Or.inr sz23)
    have O30 := O26.wr W28 ge24
    show own_Run p e below s _ _ _ (T28.setTop (mkF m 38 #[.val (.int i0), .val (.int i1), .val (.int i2), .val (.int i3), .val (.int i4), .val (.int (1 : Int32)), .unset, .unset, .unset, .unset, .unset, .unset, .unset] [(.ref b22)]))
    refine own_st (fun t k => XS.astore X28.here hx rfl (hb hby at_38) rfl rfl (l' := #[.val (.int i0), .val (.int i1), .val (.int i2), .val (.int i3), .val (.int i4), .val (.int (1 : Int32)), .val (.ref b22), .unset, .unset, .unset, .unset, .unset, .unset]) rfl k) ?_
    show own_Run p e below s _ _ _ (T28.setTop (mkF m 40 #[.val (.int i0), .val (.int i1), .val (.int i2), .val (.int i3), .val (.int i4), .val (.int (1 : Int32)), .val (.ref b22), .unset, .unset, .unset, .unset, .unset, .unset] []))
    refine own_st (fun t k => XS.iloadN X28.here hx rfl (hb hby at_40) rfl k) ?_
    show own_Run p e below s _ _ _ (T28.setTop (mkF m 41 #[.val (.int i0), .val (.int i1), .val (.int i2), .val (.int i3), .val (.int i4), .val (.int (1 : Int32)), .val (.ref b22), .unset, .unset, .unset, .unset, .unset, .unset] [(.int i1)]))
    refine own_st (fun t k => XS.i2l X28.here hx rfl (hb hby at_41) rfl k) ?_
    show own_Run p e below s _ _ _ (T28.setTop (mkF m 42 #[.val (.int i0), .val (.int i1), .val (.int i2), .val (.int i3), .val (.int i4), .val (.int (1 : Int32)), .val (.ref b22), .unset, .unset, .unset, .unset, .unset, .unset] [(.long (i1.toInt64))]))
    refine own_st (fun t k => XS.lstore X28.here hx rfl (hb hby at_42) rfl (l' := #[.val (.int i0), .val (.int i1), .val (.int i2), .val (.int i3), .val (.int i4), .val (.int (1 : Int32)), .val (.ref b22), .val (.long (i1.toInt64)), .second, .unset, .unset, .unset, .unset]) rfl k) ?_
    show own_Run p e below s _ _ _ (T28.setTop (mkF m 44 #[.val (.int i0), .val (.int i1), .val (.int i2), .val (.int i3), .val (.int i4), .val (.int (1 : Int32)), .val (.ref b22), .val (.long (i1.toInt64)), .second, .unset, .unset, .unset, .unset] []))
    refine own_st (fun t k => XS.goto X28.here hx rfl (pc0 := 44) (pc' := 157) rfl (hb hby at_44) (by decide) (by decide) k) ?_
    show own_Run p e below s _ _ _ (T28.setTop (mkF m 157 #[.val (.int i0), .val (.int i1), .val (.int i2), .val (.int i3), .val (.int i4), .val (.int (1 : Int32)), .val (.ref b22), .val (.long (i1.toInt64)), .second, .unset, .unset, .unset, .unset] []))
    refine own_st (fun t k => XS.aload X28.here hx rfl (hb hby at_157) rfl rfl k) ?_
    show own_Run p e below s _ _ _ (T28.setTop (mkF m 159 #[.val (.int i0), .val (.int i1), .val (.int i2), .val (.int i3), .val (.int i4), .val (.int (1 : Int32)), .val (.ref b22), .val (.long (i1.toInt64)), .second, .unset, .unset, .unset, .unset] [(.ref b22)]))
    have rb1 := i1.le_toInt; have ra1 := i1.toInt_lt
    have z0 := own_Z0
    have z3 : own_Z 1074 3 (4613937818241073152 : UInt64) := own_three
    have z_1 := own_zz (y := i1) z0 (by omega)
    have t1 : i1.toInt64.toInt = 0 + i1.toInt := by rw [Int32.toInt_toInt64]; omega
    have e1 : (FP.dadd (0 : UInt64) (FP.i2d i1)) = FP.l2d i1.toInt64 := own_e1 i1
    have pnq := own_Z.divnn z_1 z3 (by decide)
    have nw : Jvm.Free.Fl.NoNaN64 (FP.ddiv (FP.l2d i1.toInt64) (4613937818241073152 : UInt64)) := e1 ▸ pnq
    refine own_callS X28 hx hZ (y := (⟨"com/example/triflux/triflux/eval/Accuracy", "triangles", "([D)D"⟩ : MethodName)) hown (hw _ (List.mem_of_getElem? (i := 2) rfl)) (hw _ (List.mem_of_getElem? (i := 3) rfl)) (hw _ (List.mem_of_getElem? (i := 5) rfl)) (hw _ (List.mem_of_getElem? (i := 4) rfl)) (by decide) e28 (argsL := [(.ref b22)]) (rest := []) (W := 0) (own_rm1pn1 l Z a0 hw [] b22 k22 (FP.i2d i1) h28 n0 (Nat.le_trans Z0 K29.1) V28 (z_1.nn) (pnq)) (by decide) (by decide) (by rw [hml]; rfl) (lenOf own_pd1 rfl) rfl (by exact Nat.le_of_eq rfl) (hb hby at_159) (by decide) (by decide) ?_
    intro T31 v31 L31 X31 hq31
    obtain ⟨rfl, N31q, hh31⟩ := hq31
    have N31 := Fr.app N28 N31q
    show own_Run p e below s _ _ _ (T31.setTop (mkF m 162 #[.val (.int i0), .val (.int i1), .val (.int i2), .val (.int i3), .val (.int i4), .val (.int (1 : Int32)), .val (.ref b22), .val (.long (i1.toInt64)), .second, .unset, .unset, .unset, .unset] [(.double (FP.ddiv (FP.dadd (0 : UInt64) (FP.i2d i1)) (4613937818241073152 : UInt64)))]))
    refine own_st (fun t k => XS.dstore X31.here hx rfl (hb hby at_162) rfl (l' := #[.val (.int i0), .val (.int i1), .val (.int i2), .val (.int i3), .val (.int i4), .val (.int (1 : Int32)), .val (.ref b22), .val (.long (i1.toInt64)), .second, .val (.double (FP.ddiv (FP.dadd (0 : UInt64) (FP.i2d i1)) (4613937818241073152 : UInt64))), .second, .unset, .unset]) rfl k) ?_
    show own_Run p e below s _ _ _ (T31.setTop (mkF m 164 #[.val (.int i0), .val (.int i1), .val (.int i2), .val (.int i3), .val (.int i4), .val (.int (1 : Int32)), .val (.ref b22), .val (.long (i1.toInt64)), .second, .val (.double (FP.ddiv (FP.dadd (0 : UInt64) (FP.i2d i1)) (4613937818241073152 : UInt64))), .second, .unset, .unset] []))
    refine own_st (fun t k => XS.lload X31.here hx rfl (hb hby at_164) rfl k) ?_
    show own_Run p e below s _ _ _ (T31.setTop (mkF m 166 #[.val (.int i0), .val (.int i1), .val (.int i2), .val (.int i3), .val (.int i4), .val (.int (1 : Int32)), .val (.ref b22), .val (.long (i1.toInt64)), .second, .val (.double (FP.ddiv (FP.dadd (0 : UInt64) (FP.i2d i1)) (4613937818241073152 : UInt64))), .second, .unset, .unset] [(.long (i1.toInt64))]))
    refine own_st (fun t k => XS.l2dS X31.here hx rfl (hb hby at_166) rfl (v := (FP.l2d (i1.toInt64))) (rfl) k) ?_
    show own_Run p e below s _ _ _ (T31.setTop (mkF m 167 #[.val (.int i0), .val (.int i1), .val (.int i2), .val (.int i3), .val (.int i4), .val (.int (1 : Int32)), .val (.ref b22), .val (.long (i1.toInt64)), .second, .val (.double (FP.ddiv (FP.dadd (0 : UInt64) (FP.i2d i1)) (4613937818241073152 : UInt64))), .second, .unset, .unset] [(.double (FP.l2d (i1.toInt64)))]))
    refine own_st (X31.ldc2DoubleC hx hown (mvT hZ (hw _ (List.mem_of_getElem? (i := 7) rfl))) (g := (mkF m 167 #[.val (.int i0), .val (.int i1), .val (.int i2), .val (.int i3), .val (.int i4), .val (.int (1 : Int32)), .val (.ref b22), .val (.long (i1.toInt64)), .second, .val (.double (FP.ddiv (FP.dadd (0 : UInt64) (FP.i2d i1)) (4613937818241073152 : UInt64))), .second, .unset, .unset] [(.double (FP.l2d (i1.toInt64)))])) rfl (hb hby at_167)) ?_
    show own_Run p e below s _ _ _ (T31.setTop (mkF m 170 #[.val (.int i0), .val (.int i1), .val (.int i2), .val (.int i3), .val (.int i4), .val (.int (1 : Int32)), .val (.ref b22), .val (.long (i1.toInt64)), .second, .val (.double (FP.ddiv (FP.dadd (0 : UInt64) (FP.i2d i1)) (4613937818241073152 : UInt64))), .second, .unset, .unset] [(.double (4613937818241073152 : UInt64)), (.double (FP.l2d (i1.toInt64)))]))
    refine own_st (fun t k => XS.ddivS X31.here hx rfl (hb hby at_170) rfl (nw) (v := (FP.ddiv (FP.l2d (i1.toInt64)) (4613937818241073152 : UInt64))) (rfl) k) ?_
    show own_Run p e below s _ _ _ (T31.setTop (mkF m 171 #[.val (.int i0), .val (.int i1), .val (.int i2), .val (.int i3), .val (.int i4), .val (.int (1 : Int32)), .val (.ref b22), .val (.long (i1.toInt64)), .second, .val (.double (FP.ddiv (FP.dadd (0 : UInt64) (FP.i2d i1)) (4613937818241073152 : UInt64))), .second, .unset, .unset] [(.double (FP.ddiv (FP.l2d (i1.toInt64)) (4613937818241073152 : UInt64)))]))
    refine own_st (fun t k => XS.dstore X31.here hx rfl (hb hby at_171) rfl (l' := #[.val (.int i0), .val (.int i1), .val (.int i2), .val (.int i3), .val (.int i4), .val (.int (1 : Int32)), .val (.ref b22), .val (.long (i1.toInt64)), .second, .val (.double (FP.ddiv (FP.dadd (0 : UInt64) (FP.i2d i1)) (4613937818241073152 : UInt64))), .second, .val (.double (FP.ddiv (FP.l2d (i1.toInt64)) (4613937818241073152 : UInt64))), .second]) rfl k) ?_
    show own_Run p e below s _ _ _ (T31.setTop (mkF m 173 #[.val (.int i0), .val (.int i1), .val (.int i2), .val (.int i3), .val (.int i4), .val (.int (1 : Int32)), .val (.ref b22), .val (.long (i1.toInt64)), .second, .val (.double (FP.ddiv (FP.dadd (0 : UInt64) (FP.i2d i1)) (4613937818241073152 : UInt64))), .second, .val (.double (FP.ddiv (FP.l2d (i1.toInt64)) (4613937818241073152 : UInt64))), .second] []))
    refine own_st (fun t k => XS.dload X31.here hx rfl (hb hby at_173) rfl k) ?_
    show own_Run p e below s _ _ _ (T31.setTop (mkF m 175 #[.val (.int i0), .val (.int i1), .val (.int i2), .val (.int i3), .val (.int i4), .val (.int (1 : Int32)), .val (.ref b22), .val (.long (i1.toInt64)), .second, .val (.double (FP.ddiv (FP.dadd (0 : UInt64) (FP.i2d i1)) (4613937818241073152 : UInt64))), .second, .val (.double (FP.ddiv (FP.l2d (i1.toInt64)) (4613937818241073152 : UInt64))), .second] [(.double (FP.ddiv (FP.dadd (0 : UInt64) (FP.i2d i1)) (4613937818241073152 : UInt64)))]))
    refine own_st (fun t k => XS.dload X31.here hx rfl (hb hby at_175) rfl k) ?_
    show own_Run p e below s _ _ _ (T31.setTop (mkF m 177 #[.val (.int i0), .val (.int i1), .val (.int i2), .val (.int i3), .val (.int i4), .val (.int (1 : Int32)), .val (.ref b22), .val (.long (i1.toInt64)), .second, .val (.double (FP.ddiv (FP.dadd (0 : UInt64) (FP.i2d i1)) (4613937818241073152 : UInt64))), .second, .val (.double (FP.ddiv (FP.l2d (i1.toInt64)) (4613937818241073152 : UInt64))), .second] [(.double (FP.ddiv (FP.l2d (i1.toInt64)) (4613937818241073152 : UInt64))), (.double (FP.ddiv (FP.dadd (0 : UInt64) (FP.i2d i1)) (4613937818241073152 : UInt64)))]))
    refine own_st (fun t k => XS.dcmpS X31.here hx rfl (hb hby at_177) rfl (v := (0 : Int32)) (dcmpV_eq (congrArg (fun z => FP.ddiv z (4613937818241073152 : UInt64)) e1) pnq _) k) ?_
    show own_Run p e below s _ _ _ (T31.setTop (mkF m 178 #[.val (.int i0), .val (.int i1), .val (.int i2), .val (.int i3), .val (.int i4), .val (.int (1 : Int32)), .val (.ref b22), .val (.long (i1.toInt64)), .second, .val (.double (FP.ddiv (FP.dadd (0 : UInt64) (FP.i2d i1)) (4613937818241073152 : UInt64))), .second, .val (.double (FP.ddiv (FP.l2d (i1.toInt64)) (4613937818241073152 : UInt64))), .second] [(.int (0 : Int32))]))
    refine own_st (fun t k => XS.ifNo X31.here hx rfl (hb hby at_178) rfl ((if0 _ _).trans (teq (by decide : (0 : Int32) = (0 : Int32))).2) k) ?_
    show own_Run p e below s _ _ _ (T31.setTop (mkF m 181 #[.val (.int i0), .val (.int i1), .val (.int i2), .val (.int i3), .val (.int i4), .val (.int (1 : Int32)), .val (.ref b22), .val (.long (i1.toInt64)), .second, .val (.double (FP.ddiv (FP.dadd (0 : UInt64) (FP.i2d i1)) (4613937818241073152 : UInt64))), .second, .val (.double (FP.ddiv (FP.l2d (i1.toInt64)) (4613937818241073152 : UInt64))), .second] []))
    refine own_st (fun t k => XS.iconst X31.here hx rfl (hb hby at_181) k) ?_
    show own_Run p e below s _ _ _ (T31.setTop (mkF m 182 #[.val (.int i0), .val (.int i1), .val (.int i2), .val (.int i3), .val (.int i4), .val (.int (1 : Int32)), .val (.ref b22), .val (.long (i1.toInt64)), .second, .val (.double (FP.ddiv (FP.dadd (0 : UInt64) (FP.i2d i1)) (4613937818241073152 : UInt64))), .second, .val (.double (FP.ddiv (FP.l2d (i1.toInt64)) (4613937818241073152 : UInt64))), .second] [(.int (1 : Int32))]))
    refine own_st (fun t k => XS.goto X31.here hx rfl (pc0 := 182) (pc' := 186) rfl (hb hby at_182) (by decide) (by decide) k) ?_
    show own_Run p e below s _ _ _ (T31.setTop (mkF m 186 #[.val (.int i0), .val (.int i1), .val (.int i2), .val (.int i3), .val (.int i4), .val (.int (1 : Int32)), .val (.ref b22), .val (.long (i1.toInt64)), .second, .val (.double (FP.ddiv (FP.dadd (0 : UInt64) (FP.i2d i1)) (4613937818241073152 : UInt64))), .second, .val (.double (FP.ddiv (FP.l2d (i1.toInt64)) (4613937818241073152 : UInt64))), .second] [(.int (1 : Int32))]))
    exact own_ret X31 hx hlk (t := .boolean) hret rfl (Or.inl ⟨rfl, by simp, _, rfl⟩) (hb hby at_186) (by decide) (by decide) ⟨rfl, N31⟩
  · refine own_topI hn ?_
    show own_Run p e below s _ _ _ (s₁.setTop (mkF m 6 #[.val (.int i0), .val (.int i1), .val (.int i2), .val (.int i3), .val (.int i4), .unset, .unset, .unset, .unset, .unset, .unset, .unset, .unset] [(.int (2 : Int32))]))
    refine own_st (fun t k => XS.istore X0.here hx rfl (hb hby at_6) rfl (l' := #[.val (.int i0), .val (.int i1), .val (.int i2), .val (.int i3), .val (.int i4), .val (.int (2 : Int32)), .unset, .unset, .unset, .unset, .unset, .unset, .unset]) rfl k) ?_
    show own_Run p e below s _ _ _ (s₁.setTop (mkF m 8 #[.val (.int i0), .val (.int i1), .val (.int i2), .val (.int i3), .val (.int i4), .val (.int (2 : Int32)), .unset, .unset, .unset, .unset, .unset, .unset, .unset] []))
    refine own_st (fun t k => XS.iload X0.here hx rfl (hb hby at_8) rfl k) ?_
    show own_Run p e below s _ _ _ (s₁.setTop (mkF m 10 #[.val (.int i0), .val (.int i1), .val (.int i2), .val (.int i3), .val (.int i4), .val (.int (2 : Int32)), .unset, .unset, .unset, .unset, .unset, .unset, .unset] [(.int (2 : Int32))]))
    refine own_st (fun t k => XS.ifYes X0.here hx rfl (pc0 := 10) (pc' := 24) rfl (hb hby at_10) rfl ((if0 _ _).trans (feq (by decide : ¬ ((2 : Int32) = (0 : Int32)))).2) (by decide) (by decide) k) ?_
    show own_Run p e below s _ _ _ (s₁.setTop (mkF m 24 #[.val (.int i0), .val (.int i1), .val (.int i2), .val (.int i3), .val (.int i4), .val (.int (2 : Int32)), .unset, .unset, .unset, .unset, .unset, .unset, .unset] []))
    refine own_st (fun t k => XS.iload X0.here hx rfl (hb hby at_24) rfl k) ?_
    show own_Run p e below s _ _ _ (s₁.setTop (mkF m 26 #[.val (.int i0), .val (.int i1), .val (.int i2), .val (.int i3), .val (.int i4), .val (.int (2 : Int32)), .unset, .unset, .unset, .unset, .unset, .unset, .unset] [(.int (2 : Int32))]))
    refine own_st (fun t k => XS.iconst X0.here hx rfl (hb hby at_26) k) ?_
    show own_Run p e below s _ _ _ (s₁.setTop (mkF m 27 #[.val (.int i0), .val (.int i1), .val (.int i2), .val (.int i3), .val (.int i4), .val (.int (2 : Int32)), .unset, .unset, .unset, .unset, .unset, .unset, .unset] [(.int (1 : Int32)), (.int (2 : Int32))]))
    refine own_st (fun t k => XS.icmpYes X0.here hx rfl (pc0 := 27) (pc' := 47) rfl (hb hby at_27) rfl (feq (by decide : ¬ ((2 : Int32) = (1 : Int32)))).2 (by decide) (by decide) k) ?_
    show own_Run p e below s _ _ _ (s₁.setTop (mkF m 47 #[.val (.int i0), .val (.int i1), .val (.int i2), .val (.int i3), .val (.int i4), .val (.int (2 : Int32)), .unset, .unset, .unset, .unset, .unset, .unset, .unset] []))
    refine own_st (fun t k => XS.iload X0.here hx rfl (hb hby at_47) rfl k) ?_
    show own_Run p e below s _ _ _ (s₁.setTop (mkF m 49 #[.val (.int i0), .val (.int i1), .val (.int i2), .val (.int i3), .val (.int i4), .val (.int (2 : Int32)), .unset, .unset, .unset, .unset, .unset, .unset, .unset] [(.int (2 : Int32))]))
    refine own_st (fun t k => XS.iconst X0.here hx rfl (hb hby at_49) k) ?_
    show own_Run p e below s _ _ _ (s₁.setTop (mkF m 50 #[.val (.int i0), .val (.int i1), .val (.int i2), .val (.int i3), .val (.int i4), .val (.int (2 : Int32)), .unset, .unset, .unset, .unset, .unset, .unset, .unset] [(.int (2 : Int32)), (.int (2 : Int32))]))
    refine own_st (fun t k => XS.icmpNo X0.here hx rfl (hb hby at_50) rfl (teq (by decide : (2 : Int32) = (2 : Int32))).2 k) ?_
    show own_Run p e below s _ _ _ (s₁.setTop (mkF m 53 #[.val (.int i0), .val (.int i1), .val (.int i2), .val (.int i3), .val (.int i4), .val (.int (2 : Int32)), .unset, .unset, .unset, .unset, .unset, .unset, .unset] []))
    refine own_st (fun t k => XS.iconst X0.here hx rfl (hb hby at_53) k) ?_
    show own_Run p e below s _ _ _ (s₁.setTop (mkF m 54 #[.val (.int i0), .val (.int i1), .val (.int i2), .val (.int i3), .val (.int i4), .val (.int (2 : Int32)), .unset, .unset, .unset, .unset, .unset, .unset, .unset] [(.int (2 : Int32))]))
    obtain ⟨T32, h32, k32, X32, e32, E32, A32, st32⟩ := newP X0 hx hZ (hw _ (List.mem_of_getElem? (i := 1) rfl)) e0 (g := (mkF m 54 #[.val (.int i0), .val (.int i1), .val (.int i2), .val (.int i3), .val (.int i4), .val (.int (2 : Int32)), .unset, .unset, .unset, .unset, .unset, .unset, .unset] [(.int (2 : Int32))])) rfl (hb hby at_54) rfl (by decide) (cap := 2) (by decide) (by decide) (by decide) (by decide)
    obtain ⟨b32, g32⟩ : ∃ z, z = h0.size := ⟨_, rfl⟩
    rw [← g32] at A32 st32
    have sz33 : h0.size ≤ b32 := Nat.le_trans K0.1 (Nat.le_of_eq g32.symm)
    have ge34 : n0 ≤ b32 := Nat.le_trans Z0 sz33
    refine own_st st32 ?_
    have V32 : Arv Z h32 b32 k32 .double (2 : Int32) [(.double (0 : UInt64)), (.double (0 : UInt64))] (.double (0 : UInt64)) := (Arv.new A32 (by decide)).pad (pad_rep [] (.double (0 : UInt64)) 2)
    have K35 : Keep h0 h32 [] := K0.ext E32
    have O36 := O0.ext E32
    show own_Run p e below s _ _ _ (T32.setTop (mkF m 56 #[.val (.int i0), .val (.int i1), .val (.int i2), .val (.int i3), .val (.int i4), .val (.int (2 : Int32)), .unset, .unset, .unset, .unset, .unset, .unset, .unset] [(.ref b32)]))
    refine own_st (fun t k => XS.dup X32.here hx rfl (hb hby at_56) rfl rfl k) ?_
    show own_Run p e below s _ _ _ (T32.setTop (mkF m 57 #[.val (.int i0), .val (.int i1), .val (.int i2), .val (.int i3), .val (.int i4), .val (.int (2 : Int32)), .unset, .unset, .unset, .unset, .unset, .unset, .unset] [(.ref b32), (.ref b32)]))
    refine own_st (fun t k => XS.iconst X32.here hx rfl (hb hby at_57) k) ?_
    show own_Run p e below s _ _ _ (T32.setTop (mkF m 58 #[.val (.int i0), .val (.int i1), .val (.int i2), .val (.int i3), .val (.int i4), .val (.int (2 : Int32)), .unset, .unset, .unset, .unset, .unset, .unset, .unset] [(.int (0 : Int32)), (.ref b32), (.ref b32)]))
    refine own_st (fun t k => XS.iloadN X32.here hx rfl (hb hby at_58) rfl k) ?_
    show own_Run p e below s _ _ _ (T32.setTop (mkF m 59 #[.val (.int i0), .val (.int i1), .val (.int i2), .val (.int i3), .val (.int i4), .val (.int (2 : Int32)), .unset, .unset, .unset, .unset, .unset, .unset, .unset] [(.int i1), (.int (0 : Int32)), (.ref b32), (.ref b32)]))
    refine own_st (fun t k => XS.i2dS X32.here hx rfl (hb hby at_59) rfl (v := (FP.i2d i1)) (rfl) k) ?_
    show own_Run p e below s _ _ _ (T32.setTop (mkF m 60 #[.val (.int i0), .val (.int i1), .val (.int i2), .val (.int i3), .val (.int i4), .val (.int (2 : Int32)), .unset, .unset, .unset, .unset, .unset, .unset, .unset] [(.double (FP.i2d i1)), (.int (0 : Int32)), (.ref b32), (.ref b32)]))
    obtain ⟨cl37, Ar37, q37, S37, N37, H37, G37⟩ := id V32
    have hin37 : ¬ ((0 : Int32) < 0 ∨ cl37.slots.size ≤ ((0 : Int32)).toNatClampNeg) := inb_of S37 ⟨by decide, by decide⟩
    obtain ⟨T38, h38, X38, e38, W38, st38⟩ := stD X32 hx hZ e32 Ar37 (j := (0 : Int32)) hin37 (g := (mkF m 60 #[.val (.int i0), .val (.int i1), .val (.int i2), .val (.int i3), .val (.int i4), .val (.int (2 : Int32)), .unset, .unset, .unset, .unset, .unset, .unset, .unset] [(.double (FP.i2d i1)), (.int (0 : Int32)), (.ref b32), (.ref b32)])) rfl rfl (hb hby at_60)
    refine own_st st38 ?_
    have V38 : Arv Z h38 b32 k32 .double (2 : Int32) [(.double (FP.i2d i1)), (.double (0 : UInt64))] (.double (0 : UInt64)) := Arv.set Ar37 q37 S37 N37 H37 G37 rfl W38 0 rfl (Nat.le_of_ble_eq_true rfl)
    have N38 := Fr.snoc X38 N0 ge34
    have K39 : Keep h0 h38 [] := K35.wr W38 (Or.inr sz33)
    have O40 := O36.wr W38 ge34
    show own_Run p e below s _ _ _ (T38.setTop (mkF m 61 #[.val (.int i0), .val (.int i1), .val (.int i2), .val (.int i3), .val (.int i4), .val (.int (2 : Int32)), .unset, .unset, .unset, .unset, .unset, .unset, .unset] [(.ref b32)]))
    refine own_st (fun t k => XS.dup X38.here hx rfl (hb hby at_61) rfl rfl k) ?_
    show own_Run p e below s _ _ _ (T38.setTop (mkF m 62 #[.val (.int i0), .val (.int i1), .val (.int i2), .val (.int i3), .val (.int i4), .val (.int (2 : Int32)), .unset, .unset, .unset, .unset, .unset, .unset, .unset] [(.ref b32), (.ref b32)]))
    refine own_st (fun t k => XS.iconst X38.here hx rfl (hb hby at_62) k) ?_
    show own_Run p e below s _ _ _ (T38.setTop (mkF m 63 #[.val (.int i0), .val (.int i1), .val (.int i2), .val (.int i3), .val (.int i4), .val (.int (2 : Int32)), .unset, .unset, .unset, .unset, .unset, .unset, .unset] [(.int (1 : Int32)), (.ref b32), (.ref b32)]))
    refine own_st (fun t k => XS.iloadN X38.here hx rfl (hb hby at_63) rfl k) ?_
    show own_Run p e below s _ _ _ (T38.setTop (mkF m 64 #[.val (.int i0), .val (.int i1), .val (.int i2), .val (.int i3), .val (.int i4), .val (.int (2 : Int32)), .unset, .unset, .unset, .unset, .unset, .unset, .unset] [(.int i2), (.int (1 : Int32)), (.ref b32), (.ref b32)]))
    refine own_st (fun t k => XS.i2dS X38.here hx rfl (hb hby at_64) rfl (v := (FP.i2d i2)) (rfl) k) ?_
    show own_Run p e below s _ _ _ (T38.setTop (mkF m 65 #[.val (.int i0), .val (.int i1), .val (.int i2), .val (.int i3), .val (.int i4), .val (.int (2 : Int32)), .unset, .unset, .unset, .unset, .unset, .unset, .unset] [(.double (FP.i2d i2)), (.int (1 : Int32)), (.ref b32), (.ref b32)]))
    obtain ⟨cl41, Ar41, q41, S41, N41, H41, G41⟩ := id V38
    have hin41 : ¬ ((1 : Int32) < 0 ∨ cl41.slots.size ≤ ((1 : Int32)).toNatClampNeg) := inb_of S41 ⟨by decide, by decide⟩
    obtain ⟨T42, h42, X42, e42, W42, st42⟩ := stD X38 hx hZ e38 Ar41 (j := (1 : Int32)) hin41 (g := (mkF m 65 #[.val (.int i0), .val (.int i1), .val (.int i2), .val (.int i3), .val (.int i4), .val (.int (2 : Int32)), .unset, .unset, .unset, .unset, .unset, .unset, .unset] [(.double (FP.i2d i2)), (.int (1 : Int32)), (.ref b32), (.ref b32)])) rfl rfl (hb hby at_65)
    refine own_st st42 ?_
    have V42 : Arv Z h42 b32 k32 .double (2 : Int32) [(.double (FP.i2d i1)), (.double (FP.i2d i2))] (.double (0 : UInt64)) := Arv.set Ar41 q41 S41 N41 H41 G41 rfl W42 1 rfl (Nat.le_of_ble_eq_true rfl)
    have N42 := Fr.snoc X42 N38 ge34
    have K43 : Keep h0 h42 [] := K39.wr W42 (Or.inr sz33)
    have O44 := O40.wr W42 ge34
    show own_Run p e below s _ _ _ (T42.setTop (mkF m 66 #[.val (.int i0), .val (.int i1), .val (.int i2), .val (.int i3), .val (.int i4), .val (.int (2 : Int32)), .unset, .unset, .unset, .unset, .unset, .unset, .unset] [(.ref b32)]))
    refine own_st (fun t k => XS.astore X42.here hx rfl (hb hby at_66) rfl rfl (l' := #[.val (.int i0), .val (.int i1), .val (.int i2), .val (.int i3), .val (.int i4), .val (.int (2 : Int32)), .val (.ref b32), .unset, .unset, .unset, .unset, .unset, .unset]) rfl k) ?_
    show own_Run p e below s _ _ _ (T42.setTop (mkF m 68 #[.val (.int i0), .val (.int i1), .val (.int i2), .val (.int i3), .val (.int i4), .val (.int (2 : Int32)), .val (.ref b32), .unset, .unset, .unset, .unset, .unset, .unset] []))
    refine own_st (fun t k => XS.iloadN X42.here hx rfl (hb hby at_68) rfl k) ?_
    show own_Run p e below s _ _ _ (T42.setTop (mkF m 69 #[.val (.int i0), .val (.int i1), .val (.int i2), .val (.int i3), .val (.int i4), .val (.int (2 : Int32)), .val (.ref b32), .unset, .unset, .unset, .unset, .unset, .unset] [(.int i1)]))
    refine own_st (fun t k => XS.i2l X42.here hx rfl (hb hby at_69) rfl k) ?_
    show own_Run p e below s _ _ _ (T42.setTop (mkF m 70 #[.val (.int i0), .val (.int i1), .val (.int i2), .val (.int i3), .val (.int i4), .val (.int (2 : Int32)), .val (.ref b32), .unset, .unset, .unset, .unset, .unset, .unset] [(.long (i1.toInt64))]))
    refine own_st (fun t k => XS.iloadN X42.here hx rfl (hb hby at_70) rfl k) ?_
    show own_Run p e below s _ _ _ (T42.setTop (mkF m 71 #[.val (.int i0), .val (.int i1), .val (.int i2), .val (.int i3), .val (.int i4), .val (.int (2 : Int32)), .val (.ref b32), .unset, .unset, .unset, .unset, .unset, .unset] [(.int i2), (.long (i1.toInt64))]))
    refine own_st (fun t k => XS.i2l X42.here hx rfl (hb hby at_71) rfl k) ?_
    show own_Run p e below s _ _ _ (T42.setTop (mkF m 72 #[.val (.int i0), .val (.int i1), .val (.int i2), .val (.int i3), .val (.int i4), .val (.int (2 : Int32)), .val (.ref b32), .unset, .unset, .unset, .unset, .unset, .unset] [(.long (i2.toInt64)), (.long (i1.toInt64))]))
    refine own_st (fun t k => XS.ladd X42.here hx rfl (hb hby at_72) rfl k) ?_
    show own_Run p e below s _ _ _ (T42.setTop (mkF m 73 #[.val (.int i0), .val (.int i1), .val (.int i2), .val (.int i3), .val (.int i4), .val (.int (2 : Int32)), .val (.ref b32), .unset, .unset, .unset, .unset, .unset, .unset] [(.long ((i1.toInt64) + (i2.toInt64)))]))
    refine own_st (fun t k => XS.lstore X42.here hx rfl (hb hby at_73) rfl (l' := #[.val (.int i0), .val (.int i1), .val (.int i2), .val (.int i3), .val (.int i4), .val (.int (2 : Int32)), .val (.ref b32), .val (.long ((i1.toInt64) + (i2.toInt64))), .second, .unset, .unset, .unset, .unset]) rfl k) ?_
    show own_Run p e below s _ _ _ (T42.setTop (mkF m 75 #[.val (.int i0), .val (.int i1), .val (.int i2), .val (.int i3), .val (.int i4), .val (.int (2 : Int32)), .val (.ref b32), .val (.long ((i1.toInt64) + (i2.toInt64))), .second, .unset, .unset, .unset, .unset] []))
    refine own_st (fun t k => XS.goto X42.here hx rfl (pc0 := 75) (pc' := 157) rfl (hb hby at_75) (by decide) (by decide) k) ?_
    show own_Run p e below s _ _ _ (T42.setTop (mkF m 157 #[.val (.int i0), .val (.int i1), .val (.int i2), .val (.int i3), .val (.int i4), .val (.int (2 : Int32)), .val (.ref b32), .val (.long ((i1.toInt64) + (i2.toInt64))), .second, .unset, .unset, .unset, .unset] []))
    refine own_st (fun t k => XS.aload X42.here hx rfl (hb hby at_157) rfl rfl k) ?_
    show own_Run p e below s _ _ _ (T42.setTop (mkF m 159 #[.val (.int i0), .val (.int i1), .val (.int i2), .val (.int i3), .val (.int i4), .val (.int (2 : Int32)), .val (.ref b32), .val (.long ((i1.toInt64) + (i2.toInt64))), .second, .unset, .unset, .unset, .unset] [(.ref b32)]))
    have rb1 := i1.le_toInt; have ra1 := i1.toInt_lt
    have rb2 := i2.le_toInt; have ra2 := i2.toInt_lt
    have z0 := own_Z0
    have z3 : own_Z 1074 3 (4613937818241073152 : UInt64) := own_three
    have z_1 := own_zz (y := i1) z0 (by omega)
    have z_2 := own_zz (y := i2) z_1 (by omega)
    have t1 : i1.toInt64.toInt = 0 + i1.toInt := by rw [Int32.toInt_toInt64]; omega
    have e1 : (FP.dadd (0 : UInt64) (FP.i2d i1)) = FP.l2d i1.toInt64 := own_e1 i1
    have t2 := own_ls (y := i2) t1 (by omega)
    have e2 : (FP.dadd (FP.dadd (0 : UInt64) (FP.i2d i1)) (FP.i2d i2)) = FP.l2d (i1.toInt64 + i2.toInt64) := own_e2 e1 (by rw [t1]; omega) (by rw [t1]; omega)
    have pnq := own_Z.divnn z_2 z3 (by decide)
    have nw : Jvm.Free.Fl.NoNaN64 (FP.ddiv (FP.l2d (i1.toInt64 + i2.toInt64)) (4613937818241073152 : UInt64)) := e2 ▸ pnq
    refine own_callS X42 hx hZ (y := (⟨"com/example/triflux/triflux/eval/Accuracy", "triangles", "([D)D"⟩ : MethodName)) hown (hw _ (List.mem_of_getElem? (i := 2) rfl)) (hw _ (List.mem_of_getElem? (i := 3) rfl)) (hw _ (List.mem_of_getElem? (i := 5) rfl)) (hw _ (List.mem_of_getElem? (i := 4) rfl)) (by decide) e42 (argsL := [(.ref b32)]) (rest := []) (W := 0) (own_rm1pn2 l Z a0 hw [] b32 k32 (FP.i2d i1) (FP.i2d i2) h42 n0 (Nat.le_trans Z0 K43.1) V42 (z_1.nn) (z_2.nn) (pnq)) (by decide) (by decide) (by rw [hml]; rfl) (lenOf own_pd1 rfl) rfl (by exact Nat.le_of_eq rfl) (hb hby at_159) (by decide) (by decide) ?_
    intro T45 v45 L45 X45 hq45
    obtain ⟨rfl, N45q, hh45⟩ := hq45
    have N45 := Fr.app N42 N45q
    show own_Run p e below s _ _ _ (T45.setTop (mkF m 162 #[.val (.int i0), .val (.int i1), .val (.int i2), .val (.int i3), .val (.int i4), .val (.int (2 : Int32)), .val (.ref b32), .val (.long ((i1.toInt64) + (i2.toInt64))), .second, .unset, .unset, .unset, .unset] [(.double (FP.ddiv (FP.dadd (FP.dadd (0 : UInt64) (FP.i2d i1)) (FP.i2d i2)) (4613937818241073152 : UInt64)))]))
    refine own_st (fun t k => XS.dstore X45.here hx rfl (hb hby at_162) rfl (l' := #[.val (.int i0), .val (.int i1), .val (.int i2), .val (.int i3), .val (.int i4), .val (.int (2 : Int32)), .val (.ref b32), .val (.long ((i1.toInt64) + (i2.toInt64))), .second, .val (.double (FP.ddiv (FP.dadd (FP.dadd (0 : UInt64) (FP.i2d i1)) (FP.i2d i2)) (4613937818241073152 : UInt64))), .second, .unset, .unset]) rfl k) ?_
    show own_Run p e below s _ _ _ (T45.setTop (mkF m 164 #[.val (.int i0), .val (.int i1), .val (.int i2), .val (.int i3), .val (.int i4), .val (.int (2 : Int32)), .val (.ref b32), .val (.long ((i1.toInt64) + (i2.toInt64))), .second, .val (.double (FP.ddiv (FP.dadd (FP.dadd (0 : UInt64) (FP.i2d i1)) (FP.i2d i2)) (4613937818241073152 : UInt64))), .second, .unset, .unset] []))
    refine own_st (fun t k => XS.lload X45.here hx rfl (hb hby at_164) rfl k) ?_
    show own_Run p e below s _ _ _ (T45.setTop (mkF m 166 #[.val (.int i0), .val (.int i1), .val (.int i2), .val (.int i3), .val (.int i4), .val (.int (2 : Int32)), .val (.ref b32), .val (.long ((i1.toInt64) + (i2.toInt64))), .second, .val (.double (FP.ddiv (FP.dadd (FP.dadd (0 : UInt64) (FP.i2d i1)) (FP.i2d i2)) (4613937818241073152 : UInt64))), .second, .unset, .unset] [(.long ((i1.toInt64) + (i2.toInt64)))]))
    refine own_st (fun t k => XS.l2dS X45.here hx rfl (hb hby at_166) rfl (v := (FP.l2d ((i1.toInt64) + (i2.toInt64)))) (rfl) k) ?_
    show own_Run p e below s _ _ _ (T45.setTop (mkF m 167 #[.val (.int i0), .val (.int i1), .val (.int i2), .val (.int i3), .val (.int i4), .val (.int (2 : Int32)), .val (.ref b32), .val (.long ((i1.toInt64) + (i2.toInt64))), .second, .val (.double (FP.ddiv (FP.dadd (FP.dadd (0 : UInt64) (FP.i2d i1)) (FP.i2d i2)) (4613937818241073152 : UInt64))), .second, .unset, .unset] [(.double (FP.l2d ((i1.toInt64) + (i2.toInt64))))]))
    refine own_st (X45.ldc2DoubleC hx hown (mvT hZ (hw _ (List.mem_of_getElem? (i := 7) rfl))) (g := (mkF m 167 #[.val (.int i0), .val (.int i1), .val (.int i2), .val (.int i3), .val (.int i4), .val (.int (2 : Int32)), .val (.ref b32), .val (.long ((i1.toInt64) + (i2.toInt64))), .second, .val (.double (FP.ddiv (FP.dadd (FP.dadd (0 : UInt64) (FP.i2d i1)) (FP.i2d i2)) (4613937818241073152 : UInt64))), .second, .unset, .unset] [(.double (FP.l2d ((i1.toInt64) + (i2.toInt64))))])) rfl (hb hby at_167)) ?_
    show own_Run p e below s _ _ _ (T45.setTop (mkF m 170 #[.val (.int i0), .val (.int i1), .val (.int i2), .val (.int i3), .val (.int i4), .val (.int (2 : Int32)), .val (.ref b32), .val (.long ((i1.toInt64) + (i2.toInt64))), .second, .val (.double (FP.ddiv (FP.dadd (FP.dadd (0 : UInt64) (FP.i2d i1)) (FP.i2d i2)) (4613937818241073152 : UInt64))), .second, .unset, .unset] [(.double (4613937818241073152 : UInt64)), (.double (FP.l2d ((i1.toInt64) + (i2.toInt64))))]))
    refine own_st (fun t k => XS.ddivS X45.here hx rfl (hb hby at_170) rfl (nw) (v := (FP.ddiv (FP.l2d ((i1.toInt64) + (i2.toInt64))) (4613937818241073152 : UInt64))) (rfl) k) ?_
    show own_Run p e below s _ _ _ (T45.setTop (mkF m 171 #[.val (.int i0), .val (.int i1), .val (.int i2), .val (.int i3), .val (.int i4), .val (.int (2 : Int32)), .val (.ref b32), .val (.long ((i1.toInt64) + (i2.toInt64))), .second, .val (.double (FP.ddiv (FP.dadd (FP.dadd (0 : UInt64) (FP.i2d i1)) (FP.i2d i2)) (4613937818241073152 : UInt64))), .second, .unset, .unset] [(.double (FP.ddiv (FP.l2d ((i1.toInt64) + (i2.toInt64))) (4613937818241073152 : UInt64)))]))
    refine own_st (fun t k => XS.dstore X45.here hx rfl (hb hby at_171) rfl (l' := #[.val (.int i0), .val (.int i1), .val (.int i2), .val (.int i3), .val (.int i4), .val (.int (2 : Int32)), .val (.ref b32), .val (.long ((i1.toInt64) + (i2.toInt64))), .second, .val (.double (FP.ddiv (FP.dadd (FP.dadd (0 : UInt64) (FP.i2d i1)) (FP.i2d i2)) (4613937818241073152 : UInt64))), .second, .val (.double (FP.ddiv (FP.l2d ((i1.toInt64) + (i2.toInt64))) (4613937818241073152 : UInt64))), .second]) rfl k) ?_
    show own_Run p e below s _ _ _ (T45.setTop (mkF m 173 #[.val (.int i0), .val (.int i1), .val (.int i2), .val (.int i3), .val (.int i4), .val (.int (2 : Int32)), .val (.ref b32), .val (.long ((i1.toInt64) + (i2.toInt64))), .second, .val (.double (FP.ddiv (FP.dadd (FP.dadd (0 : UInt64) (FP.i2d i1)) (FP.i2d i2)) (4613937818241073152 : UInt64))), .second, .val (.double (FP.ddiv (FP.l2d ((i1.toInt64) + (i2.toInt64))) (4613937818241073152 : UInt64))), .second] []))
    refine own_st (fun t k => XS.dload X45.here hx rfl (hb hby at_173) rfl k) ?_
    show own_Run p e below s _ _ _ (T45.setTop (mkF m 175 #[.val (.int i0), .val (.int i1), .val (.int i2), .val (.int i3), .val (.int i4), .val (.int (2 : Int32)), .val (.ref b32), .val (.long ((i1.toInt64) + (i2.toInt64))), .second, .val (.double (FP.ddiv (FP.dadd (FP.dadd (0 : UInt64) (FP.i2d i1)) (FP.i2d i2)) (4613937818241073152 : UInt64))), .second, .val (.double (FP.ddiv (FP.l2d ((i1.toInt64) + (i2.toInt64))) (4613937818241073152 : UInt64))), .second] [(.double (FP.ddiv (FP.dadd (FP.dadd (0 : UInt64) (FP.i2d i1)) (FP.i2d i2)) (4613937818241073152 : UInt64)))]))
    refine own_st (fun t k => XS.dload X45.here hx rfl (hb hby at_175) rfl k) ?_
    show own_Run p e below s _ _ _ (T45.setTop (mkF m 177 #[.val (.int i0), .val (.int i1), .val (.int i2), .val (.int i3), .val (.int i4), .val (.int (2 : Int32)), .val (.ref b32), .val (.long ((i1.toInt64) + (i2.toInt64))), .second, .val (.double (FP.ddiv (FP.dadd (FP.dadd (0 : UInt64) (FP.i2d i1)) (FP.i2d i2)) (4613937818241073152 : UInt64))), .second, .val (.double (FP.ddiv (FP.l2d ((i1.toInt64) + (i2.toInt64))) (4613937818241073152 : UInt64))), .second] [(.double (FP.ddiv (FP.l2d ((i1.toInt64) + (i2.toInt64))) (4613937818241073152 : UInt64))), (.double (FP.ddiv (FP.dadd (FP.dadd (0 : UInt64) (FP.i2d i1)) (FP.i2d i2)) (4613937818241073152 : UInt64)))]))
    refine own_st (fun t k => XS.dcmpS X45.here hx rfl (hb hby at_177) rfl (v := (0 : Int32)) (dcmpV_eq (congrArg (fun z => FP.ddiv z (4613937818241073152 : UInt64)) e2) pnq _) k) ?_
    show own_Run p e below s _ _ _ (T45.setTop (mkF m 178 #[.val (.int i0), .val (.int i1), .val (.int i2), .val (.int i3), .val (.int i4), .val (.int (2 : Int32)), .val (.ref b32), .val (.long ((i1.toInt64) + (i2.toInt64))), .second, .val (.double (FP.ddiv (FP.dadd (FP.dadd (0 : UInt64) (FP.i2d i1)) (FP.i2d i2)) (4613937818241073152 : UInt64))), .second, .val (.double (FP.ddiv (FP.l2d ((i1.toInt64) + (i2.toInt64))) (4613937818241073152 : UInt64))), .second] [(.int (0 : Int32))]))
    refine own_st (fun t k => XS.ifNo X45.here hx rfl (hb hby at_178) rfl ((if0 _ _).trans (teq (by decide : (0 : Int32) = (0 : Int32))).2) k) ?_
    show own_Run p e below s _ _ _ (T45.setTop (mkF m 181 #[.val (.int i0), .val (.int i1), .val (.int i2), .val (.int i3), .val (.int i4), .val (.int (2 : Int32)), .val (.ref b32), .val (.long ((i1.toInt64) + (i2.toInt64))), .second, .val (.double (FP.ddiv (FP.dadd (FP.dadd (0 : UInt64) (FP.i2d i1)) (FP.i2d i2)) (4613937818241073152 : UInt64))), .second, .val (.double (FP.ddiv (FP.l2d ((i1.toInt64) + (i2.toInt64))) (4613937818241073152 : UInt64))), .second] []))
    refine own_st (fun t k => XS.iconst X45.here hx rfl (hb hby at_181) k) ?_
    show own_Run p e below s _ _ _ (T45.setTop (mkF m 182 #[.val (.int i0), .val (.int i1), .val (.int i2), .val (.int i3), .val (.int i4), .val (.int (2 : Int32)), .val (.ref b32), .val (.long ((i1.toInt64) + (i2.toInt64))), .second, .val (.double (FP.ddiv (FP.dadd (FP.dadd (0 : UInt64) (FP.i2d i1)) (FP.i2d i2)) (4613937818241073152 : UInt64))), .second, .val (.double (FP.ddiv (FP.l2d ((i1.toInt64) + (i2.toInt64))) (4613937818241073152 : UInt64))), .second] [(.int (1 : Int32))]))
    refine own_st (fun t k => XS.goto X45.here hx rfl (pc0 := 182) (pc' := 186) rfl (hb hby at_182) (by decide) (by decide) k) ?_
    show own_Run p e below s _ _ _ (T45.setTop (mkF m 186 #[.val (.int i0), .val (.int i1), .val (.int i2), .val (.int i3), .val (.int i4), .val (.int (2 : Int32)), .val (.ref b32), .val (.long ((i1.toInt64) + (i2.toInt64))), .second, .val (.double (FP.ddiv (FP.dadd (FP.dadd (0 : UInt64) (FP.i2d i1)) (FP.i2d i2)) (4613937818241073152 : UInt64))), .second, .val (.double (FP.ddiv (FP.l2d ((i1.toInt64) + (i2.toInt64))) (4613937818241073152 : UInt64))), .second] [(.int (1 : Int32))]))
    exact own_ret X45 hx hlk (t := .boolean) hret rfl (Or.inl ⟨rfl, by simp, _, rfl⟩) (hb hby at_186) (by decide) (by decide) ⟨rfl, N45⟩
  · refine own_topI hn ?_
    show own_Run p e below s _ _ _ (s₁.setTop (mkF m 6 #[.val (.int i0), .val (.int i1), .val (.int i2), .val (.int i3), .val (.int i4), .unset, .unset, .unset, .unset, .unset, .unset, .unset, .unset] [(.int (3 : Int32))]))
    refine own_st (fun t k => XS.istore X0.here hx rfl (hb hby at_6) rfl (l' := #[.val (.int i0), .val (.int i1), .val (.int i2), .val (.int i3), .val (.int i4), .val (.int (3 : Int32)), .unset, .unset, .unset, .unset, .unset, .unset, .unset]) rfl k) ?_
    show own_Run p e below s _ _ _ (s₁.setTop (mkF m 8 #[.val (.int i0), .val (.int i1), .val (.int i2), .val (.int i3), .val (.int i4), .val (.int (3 : Int32)), .unset, .unset, .unset, .unset, .unset, .unset, .unset] []))
    refine own_st (fun t k => XS.iload X0.here hx rfl (hb hby at_8) rfl k) ?_
    show own_Run p e below s _ _ _ (s₁.setTop (mkF m 10 #[.val (.int i0), .val (.int i1), .val (.int i2), .val (.int i3), .val (.int i4), .val (.int (3 : Int32)), .unset, .unset, .unset, .unset, .unset, .unset, .unset] [(.int (3 : Int32))]))
    refine own_st (fun t k => XS.ifYes X0.here hx rfl (pc0 := 10) (pc' := 24) rfl (hb hby at_10) rfl ((if0 _ _).trans (feq (by decide : ¬ ((3 : Int32) = (0 : Int32)))).2) (by decide) (by decide) k) ?_
    show own_Run p e below s _ _ _ (s₁.setTop (mkF m 24 #[.val (.int i0), .val (.int i1), .val (.int i2), .val (.int i3), .val (.int i4), .val (.int (3 : Int32)), .unset, .unset, .unset, .unset, .unset, .unset, .unset] []))
    refine own_st (fun t k => XS.iload X0.here hx rfl (hb hby at_24) rfl k) ?_
    show own_Run p e below s _ _ _ (s₁.setTop (mkF m 26 #[.val (.int i0), .val (.int i1), .val (.int i2), .val (.int i3), .val (.int i4), .val (.int (3 : Int32)), .unset, .unset, .unset, .unset, .unset, .unset, .unset] [(.int (3 : Int32))]))
    refine own_st (fun t k => XS.iconst X0.here hx rfl (hb hby at_26) k) ?_
    show own_Run p e below s _ _ _ (s₁.setTop (mkF m 27 #[.val (.int i0), .val (.int i1), .val (.int i2), .val (.int i3), .val (.int i4), .val (.int (3 : Int32)), .unset, .unset, .unset, .unset, .unset, .unset, .unset] [(.int (1 : Int32)), (.int (3 : Int32))]))
    refine own_st (fun t k => XS.icmpYes X0.here hx rfl (pc0 := 27) (pc' := 47) rfl (hb hby at_27) rfl (feq (by decide : ¬ ((3 : Int32) = (1 : Int32)))).2 (by decide) (by decide) k) ?_
    show own_Run p e below s _ _ _ (s₁.setTop (mkF m 47 #[.val (.int i0), .val (.int i1), .val (.int i2), .val (.int i3), .val (.int i4), .val (.int (3 : Int32)), .unset, .unset, .unset, .unset, .unset, .unset, .unset] []))
    refine own_st (fun t k => XS.iload X0.here hx rfl (hb hby at_47) rfl k) ?_
    show own_Run p e below s _ _ _ (s₁.setTop (mkF m 49 #[.val (.int i0), .val (.int i1), .val (.int i2), .val (.int i3), .val (.int i4), .val (.int (3 : Int32)), .unset, .unset, .unset, .unset, .unset, .unset, .unset] [(.int (3 : Int32))]))
    refine own_st (fun t k => XS.iconst X0.here hx rfl (hb hby at_49) k) ?_
    show own_Run p e below s _ _ _ (s₁.setTop (mkF m 50 #[.val (.int i0), .val (.int i1), .val (.int i2), .val (.int i3), .val (.int i4), .val (.int (3 : Int32)), .unset, .unset, .unset, .unset, .unset, .unset, .unset] [(.int (2 : Int32)), (.int (3 : Int32))]))
    refine own_st (fun t k => XS.icmpYes X0.here hx rfl (pc0 := 50) (pc' := 78) rfl (hb hby at_50) rfl (feq (by decide : ¬ ((3 : Int32) = (2 : Int32)))).2 (by decide) (by decide) k) ?_
    show own_Run p e below s _ _ _ (s₁.setTop (mkF m 78 #[.val (.int i0), .val (.int i1), .val (.int i2), .val (.int i3), .val (.int i4), .val (.int (3 : Int32)), .unset, .unset, .unset, .unset, .unset, .unset, .unset] []))
    refine own_st (fun t k => XS.iload X0.here hx rfl (hb hby at_78) rfl k) ?_
    show own_Run p e below s _ _ _ (s₁.setTop (mkF m 80 #[.val (.int i0), .val (.int i1), .val (.int i2), .val (.int i3), .val (.int i4), .val (.int (3 : Int32)), .unset, .unset, .unset, .unset, .unset, .unset, .unset] [(.int (3 : Int32))]))
    refine own_st (fun t k => XS.iconst X0.here hx rfl (hb hby at_80) k) ?_
    show own_Run p e below s _ _ _ (s₁.setTop (mkF m 81 #[.val (.int i0), .val (.int i1), .val (.int i2), .val (.int i3), .val (.int i4), .val (.int (3 : Int32)), .unset, .unset, .unset, .unset, .unset, .unset, .unset] [(.int (3 : Int32)), (.int (3 : Int32))]))
    refine own_st (fun t k => XS.icmpNo X0.here hx rfl (hb hby at_81) rfl (teq (by decide : (3 : Int32) = (3 : Int32))).2 k) ?_
    show own_Run p e below s _ _ _ (s₁.setTop (mkF m 84 #[.val (.int i0), .val (.int i1), .val (.int i2), .val (.int i3), .val (.int i4), .val (.int (3 : Int32)), .unset, .unset, .unset, .unset, .unset, .unset, .unset] []))
    refine own_st (fun t k => XS.iconst X0.here hx rfl (hb hby at_84) k) ?_
    show own_Run p e below s _ _ _ (s₁.setTop (mkF m 85 #[.val (.int i0), .val (.int i1), .val (.int i2), .val (.int i3), .val (.int i4), .val (.int (3 : Int32)), .unset, .unset, .unset, .unset, .unset, .unset, .unset] [(.int (3 : Int32))]))
    obtain ⟨T46, h46, k46, X46, e46, E46, A46, st46⟩ := newP X0 hx hZ (hw _ (List.mem_of_getElem? (i := 1) rfl)) e0 (g := (mkF m 85 #[.val (.int i0), .val (.int i1), .val (.int i2), .val (.int i3), .val (.int i4), .val (.int (3 : Int32)), .unset, .unset, .unset, .unset, .unset, .unset, .unset] [(.int (3 : Int32))])) rfl (hb hby at_85) rfl (by decide) (cap := 3) (by decide) (by decide) (by decide) (by decide)
    obtain ⟨b46, g46⟩ : ∃ z, z = h0.size := ⟨_, rfl⟩
    rw [← g46] at A46 st46
    have sz47 : h0.size ≤ b46 := Nat.le_trans K0.1 (Nat.le_of_eq g46.symm)
    have ge48 : n0 ≤ b46 := Nat.le_trans Z0 sz47
    refine own_st st46 ?_
    have V46 : Arv Z h46 b46 k46 .double (3 : Int32) [(.double (0 : UInt64)), (.double (0 : UInt64)), (.double (0 : UInt64))] (.double (0 : UInt64)) := (Arv.new A46 (by decide)).pad (pad_rep [] (.double (0 : UInt64)) 3)
    have K49 : Keep h0 h46 [] := K0.ext E46
    have O50 := O0.ext E46
    show own_Run p e below s _ _ _ (T46.setTop (mkF m 87 #[.val (.int i0), .val (.int i1), .val (.int i2), .val (.int i3), .val (.int i4), .val (.int (3 : Int32)), .unset, .unset, .unset, .unset, .unset, .unset, .unset] [(.ref b46)]))
    refine own_st (fun t k => XS.dup X46.here hx rfl (hb hby at_87) rfl rfl k) ?_
    show own_Run p e below s _ _ _ (T46.setTop (mkF m 88 #[.val (.int i0), .val (.int i1), .val (.int i2), .val (.int i3), .val (.int i4), .val (.int (3 : Int32)), .unset, .unset, .unset, .unset, .unset, .unset, .unset] [(.ref b46), (.ref b46)]))
    refine own_st (fun t k => XS.iconst X46.here hx rfl (hb hby at_88) k) ?_
    show own_Run p e below s _ _ _ (T46.setTop (mkF m 89 #[.val (.int i0), .val (.int i1), .val (.int i2), .val (.int i3), .val (.int i4), .val (.int (3 : Int32)), .unset, .unset, .unset, .unset, .unset, .unset, .unset] [(.int (0 : Int32)), (.ref b46), (.ref b46)]))
    refine own_st (fun t k => XS.iloadN X46.here hx rfl (hb hby at_89) rfl k) ?_
    show own_Run p e below s _ _ _ (T46.setTop (mkF m 90 #[.val (.int i0), .val (.int i1), .val (.int i2), .val (.int i3), .val (.int i4), .val (.int (3 : Int32)), .unset, .unset, .unset, .unset, .unset, .unset, .unset] [(.int i1), (.int (0 : Int32)), (.ref b46), (.ref b46)]))
    refine own_st (fun t k => XS.i2dS X46.here hx rfl (hb hby at_90) rfl (v := (FP.i2d i1)) (rfl) k) ?_
    show own_Run p e below s _ _ _ (T46.setTop (mkF m 91 #[.val (.int i0), .val (.int i1), .val (.int i2), .val (.int i3), .val (.int i4), .val (.int (3 : Int32)), .unset, .unset, .unset, .unset, .unset, .unset, .unset] [(.double (FP.i2d i1)), (.int (0 : Int32)), (.ref b46), (.ref b46)]))
    obtain ⟨cl51, Ar51, q51, S51, N51, H51, G51⟩ := id V46
    have hin51 : ¬ ((0 : Int32) < 0 ∨ cl51.slots.size ≤ ((0 : Int32)).toNatClampNeg) := inb_of S51 ⟨by decide, by decide⟩
    obtain ⟨T52, h52, X52, e52, W52, st52⟩ := stD X46 hx hZ e46 Ar51 (j := (0 : Int32)) hin51 (g := (mkF m 91 #[.val (.int i0), .val (.int i1), .val (.int i2), .val (.int i3), .val (.int i4), .val (.int (3 : Int32)), .unset, .unset, .unset, .unset, .unset, .unset, .unset] [(.double (FP.i2d i1)), (.int (0 : Int32)), (.ref b46), (.ref b46)])) rfl rfl (hb hby at_91)
    refine own_st st52 ?_
    have V52 : Arv Z h52 b46 k46 .double (3 : Int32) [(.double (FP.i2d i1)), (.double (0 : UInt64)), (.double (0 : UInt64))] (.double (0 : UInt64)) := Arv.set Ar51 q51 S51 N51 H51 G51 rfl W52 0 rfl (Nat.le_of_ble_eq_true rfl)
    have N52 := Fr.snoc X52 N0 ge48
    have K53 : Keep h0 h52 [] := K49.wr W52 (Or.inr sz47)
    have O54 := O50.wr W52 ge48
    show own_Run p e below s _ _ _ (T52.setTop (mkF m 92 #[.val (.int i0), .val (.int i1), .val (.int i2), .val (.int i3), .val (.int i4), .val (.int (3 : Int32)), .unset, .unset, .unset, .unset, .unset, .unset, .unset] [(.ref b46)]))
    refine own_st (fun t k => XS.dup X52.here hx rfl (hb hby at_92) rfl rfl k) ?_
    show own_Run p e below s _ _ _ (T52.setTop (mkF m 93 #[.val (.int i0), .val (.int i1), .val (.int i2), .val (.int i3), .val (.int i4), .val (.int (3 : Int32)), .unset, .unset, .unset, .unset, .unset, .unset, .unset] [(.ref b46), (.ref b46)]))
    refine own_st (fun t k => XS.iconst X52.here hx rfl (hb hby at_93) k) ?_
    show own_Run p e below s _ _ _ (T52.setTop (mkF m 94 #[.val (.int i0), .val (.int i1), .val (.int i2), .val (.int i3), .val (.int i4), .val (.int (3 : Int32)), .unset, .unset, .unset, .unset, .unset, .unset, .unset] [(.int (1 : Int32)), (.ref b46), (.ref b46)]))
    refine own_st (fun t k => XS.iloadN X52.here hx rfl (hb hby at_94) rfl k) ?_
    show own_Run p e below s _ _ _ (T52.setTop (mkF m 95 #[.val (.int i0), .val (.int i1), .val (.int i2), .val (.int i3), .val (.int i4), .val (.int (3 : Int32)), .unset, .unset, .unset, .unset, .unset, .unset, .unset] [(.int i2), (.int (1 : Int32)), (.ref b46), (.ref b46)]))
    refine own_st (fun t k => XS.i2dS X52.here hx rfl (hb hby at_95) rfl (v := (FP.i2d i2)) (rfl) k) ?_
    show own_Run p e below s _ _ _ (T52.setTop (mkF m 96 #[.val (.int i0), .val (.int i1), .val (.int i2), .val (.int i3), .val (.int i4), .val (.int (3 : Int32)), .unset, .unset, .unset, .unset, .unset, .unset, .unset] [(.double (FP.i2d i2)), (.int (1 : Int32)), (.ref b46), (.ref b46)]))
    obtain ⟨cl55, Ar55, q55, S55, N55, H55, G55⟩ := id V52
    have hin55 : ¬ ((1 : Int32) < 0 ∨ cl55.slots.size ≤ ((1 : Int32)).toNatClampNeg) := inb_of S55 ⟨by decide, by decide⟩
    obtain ⟨T56, h56, X56, e56, W56, st56⟩ := stD X52 hx hZ e52 Ar55 (j := (1 : Int32)) hin55 (g := (mkF m 96 #[.val (.int i0), .val (.int i1), .val (.int i2), .val (.int i3), .val (.int i4), .val (.int (3 : Int32)), .unset, .unset, .unset, .unset, .unset, .unset, .unset] [(.double (FP.i2d i2)), (.int (1 : Int32)), (.ref b46), (.ref b46)])) rfl rfl (hb hby at_96)
    refine own_st st56 ?_
    have V56 : Arv Z h56 b46 k46 .double (3 : Int32) [(.double (FP.i2d i1)), (.double (FP.i2d i2)), (.double (0 : UInt64))] (.double (0 : UInt64)) := Arv.set Ar55 q55 S55 N55 H55 G55 rfl W56 1 rfl (Nat.le_of_ble_eq_true rfl)
    have N56 := Fr.snoc X56 N52 ge48
    have K57 : Keep h0 h56 [] := K53.wr W56 (Or.inr sz47)
    have O58 := O54.wr W56 ge48
    show own_Run p e below s _ _ _ (T56.setTop (mkF m 97 #[.val (.int i0), .val (.int i1), .val (.int i2), .val (.int i3), .val (.int i4), .val (.int (3 : Int32)), .unset, .unset, .unset, .unset, .unset, .unset, .unset] [(.ref b46)]))
    refine own_st (fun t k => XS.dup X56.here hx rfl (hb hby at_97) rfl rfl k) ?_
    show own_Run p e below s _ _ _ (T56.setTop (mkF m 98 #[.val (.int i0), .val (.int i1), .val (.int i2), .val (.int i3), .val (.int i4), .val (.int (3 : Int32)), .unset, .unset, .unset, .unset, .unset, .unset, .unset] [(.ref b46), (.ref b46)]))
    refine own_st (fun t k => XS.iconst X56.here hx rfl (hb hby at_98) k) ?_
    show own_Run p e below s _ _ _ (T56.setTop (mkF m 99 #[.val (.int i0), .val (.int i1), .val (.int i2), .val (.int i3), .val (.int i4), .val (.int (3 : Int32)), .unset, .unset, .unset, .unset, .unset, .unset, .unset] [(.int (2 : Int32)), (.ref b46), (.ref b46)]))
    refine own_st (fun t k => XS.iloadN X56.here hx rfl (hb hby at_99) rfl k) ?_
    show own_Run p e below s _ _ _ (T56.setTop (mkF m 100 #[.val (.int i0), .val (.int i1), .val (.int i2), .val (.int i3), .val (.int i4), .val (.int (3 : Int32)), .unset, .unset, .unset, .unset, .unset, .unset, .unset] [(.int i3), (.int (2 : Int32)), (.ref b46), (.ref b46)]))
    refine own_st (fun t k => XS.i2dS X56.here hx rfl (hb hby at_100) rfl (v := (FP.i2d i3)) (rfl) k) ?_
    show own_Run p e below s _ _ _ (T56.setTop (mkF m 101 #[.val (.int i0), .val (.int i1), .val (.int i2), .val (.int i3), .val (.int i4), .val (.int (3 : Int32)), .unset, .unset, .unset, .unset, .unset, .unset, .unset] [(.double (FP.i2d i3)), (.int (2 : Int32)), (.ref b46), (.ref b46)]))
    obtain ⟨cl59, Ar59, q59, S59, N59, H59, G59⟩ := id V56
    have hin59 : ¬ ((2 : Int32) < 0 ∨ cl59.slots.size ≤ ((2 : Int32)).toNatClampNeg) := inb_of S59 ⟨by decide, by decide⟩
    obtain ⟨T60, h60, X60, e60, W60, st60⟩ := stD X56 hx hZ e56 Ar59 (j := (2 : Int32)) hin59 (g := (mkF m 101 #[.val (.int i0), .val (.int i1), .val (.int i2), .val (.int i3), .val (.int i4), .val (.int (3 : Int32)), .unset, .unset, .unset, .unset, .unset, .unset, .unset] [(.double (FP.i2d i3)), (.int (2 : Int32)), (.ref b46), (.ref b46)])) rfl rfl (hb hby at_101)
    refine own_st st60 ?_
    have V60 : Arv Z h60 b46 k46 .double (3 : Int32) [(.double (FP.i2d i1)), (.double (FP.i2d i2)), (.double (FP.i2d i3))] (.double (0 : UInt64)) := Arv.set Ar59 q59 S59 N59 H59 G59 rfl W60 2 rfl (Nat.le_of_ble_eq_true rfl)
    have N60 := Fr.snoc X60 N56 ge48
    have K61 : Keep h0 h60 [] := K57.wr W60 (Or.inr sz47)
    have O62 := O58.wr W60 ge48
    show own_Run p e below s _ _ _ (T60.setTop (mkF m 102 #[.val (.int i0), .val (.int i1), .val (.int i2), .val (.int i3), .val (.int i4), .val (.int (3 : Int32)), .unset, .unset, .unset, .unset, .unset, .unset, .unset] [(.ref b46)]))
    refine own_st (fun t k => XS.astore X60.here hx rfl (hb hby at_102) rfl rfl (l' := #[.val (.int i0), .val (.int i1), .val (.int i2), .val (.int i3), .val (.int i4), .val (.int (3 : Int32)), .val (.ref b46), .unset, .unset, .unset, .unset, .unset, .unset]) rfl k) ?_
    show own_Run p e below s _ _ _ (T60.setTop (mkF m 104 #[.val (.int i0), .val (.int i1), .val (.int i2), .val (.int i3), .val (.int i4), .val (.int (3 : Int32)), .val (.ref b46), .unset, .unset, .unset, .unset, .unset, .unset] []))
    refine own_st (fun t k => XS.iloadN X60.here hx rfl (hb hby at_104) rfl k) ?_
    show own_Run p e below s _ _ _ (T60.setTop (mkF m 105 #[.val (.int i0), .val (.int i1), .val (.int i2), .val (.int i3), .val (.int i4), .val (.int (3 : Int32)), .val (.ref b46), .unset, .unset, .unset, .unset, .unset, .unset] [(.int i1)]))
    refine own_st (fun t k => XS.i2l X60.here hx rfl (hb hby at_105) rfl k) ?_
    show own_Run p e below s _ _ _ (T60.setTop (mkF m 106 #[.val (.int i0), .val (.int i1), .val (.int i2), .val (.int i3), .val (.int i4), .val (.int (3 : Int32)), .val (.ref b46), .unset, .unset, .unset, .unset, .unset, .unset] [(.long (i1.toInt64))]))
    refine own_st (fun t k => XS.iloadN X60.here hx rfl (hb hby at_106) rfl k) ?_
    show own_Run p e below s _ _ _ (T60.setTop (mkF m 107 #[.val (.int i0), .val (.int i1), .val (.int i2), .val (.int i3), .val (.int i4), .val (.int (3 : Int32)), .val (.ref b46), .unset, .unset, .unset, .unset, .unset, .unset] [(.int i2), (.long (i1.toInt64))]))
    refine own_st (fun t k => XS.i2l X60.here hx rfl (hb hby at_107) rfl k) ?_
    show own_Run p e below s _ _ _ (T60.setTop (mkF m 108 #[.val (.int i0), .val (.int i1), .val (.int i2), .val (.int i3), .val (.int i4), .val (.int (3 : Int32)), .val (.ref b46), .unset, .unset, .unset, .unset, .unset, .unset] [(.long (i2.toInt64)), (.long (i1.toInt64))]))
    refine own_st (fun t k => XS.ladd X60.here hx rfl (hb hby at_108) rfl k) ?_
    show own_Run p e below s _ _ _ (T60.setTop (mkF m 109 #[.val (.int i0), .val (.int i1), .val (.int i2), .val (.int i3), .val (.int i4), .val (.int (3 : Int32)), .val (.ref b46), .unset, .unset, .unset, .unset, .unset, .unset] [(.long ((i1.toInt64) + (i2.toInt64)))]))
    refine own_st (fun t k => XS.iloadN X60.here hx rfl (hb hby at_109) rfl k) ?_
    show own_Run p e below s _ _ _ (T60.setTop (mkF m 110 #[.val (.int i0), .val (.int i1), .val (.int i2), .val (.int i3), .val (.int i4), .val (.int (3 : Int32)), .val (.ref b46), .unset, .unset, .unset, .unset, .unset, .unset] [(.int i3), (.long ((i1.toInt64) + (i2.toInt64)))]))
    refine own_st (fun t k => XS.i2l X60.here hx rfl (hb hby at_110) rfl k) ?_
    show own_Run p e below s _ _ _ (T60.setTop (mkF m 111 #[.val (.int i0), .val (.int i1), .val (.int i2), .val (.int i3), .val (.int i4), .val (.int (3 : Int32)), .val (.ref b46), .unset, .unset, .unset, .unset, .unset, .unset] [(.long (i3.toInt64)), (.long ((i1.toInt64) + (i2.toInt64)))]))
    refine own_st (fun t k => XS.ladd X60.here hx rfl (hb hby at_111) rfl k) ?_
    show own_Run p e below s _ _ _ (T60.setTop (mkF m 112 #[.val (.int i0), .val (.int i1), .val (.int i2), .val (.int i3), .val (.int i4), .val (.int (3 : Int32)), .val (.ref b46), .unset, .unset, .unset, .unset, .unset, .unset] [(.long (((i1.toInt64) + (i2.toInt64)) + (i3.toInt64)))]))
    refine own_st (fun t k => XS.lstore X60.here hx rfl (hb hby at_112) rfl (l' := #[.val (.int i0), .val (.int i1), .val (.int i2), .val (.int i3), .val (.int i4), .val (.int (3 : Int32)), .val (.ref b46), .val (.long (((i1.toInt64) + (i2.toInt64)) + (i3.toInt64))), .second, .unset, .unset, .unset, .unset]) rfl k) ?_
    show own_Run p e below s _ _ _ (T60.setTop (mkF m 114 #[.val (.int i0), .val (.int i1), .val (.int i2), .val (.int i3), .val (.int i4), .val (.int (3 : Int32)), .val (.ref b46), .val (.long (((i1.toInt64) + (i2.toInt64)) + (i3.toInt64))), .second, .unset, .unset, .unset, .unset] []))
    refine own_st (fun t k => XS.goto X60.here hx rfl (pc0 := 114) (pc' := 157) rfl (hb hby at_114) (by decide) (by decide) k) ?_
    show own_Run p e below s _ _ _ (T60.setTop (mkF m 157 #[.val (.int i0), .val (.int i1), .val (.int i2), .val (.int i3), .val (.int i4), .val (.int (3 : Int32)), .val (.ref b46), .val (.long (((i1.toInt64) + (i2.toInt64)) + (i3.toInt64))), .second, .unset, .unset, .unset, .unset] []))
    refine own_st (fun t k => XS.aload X60.here hx rfl (hb hby at_157) rfl rfl k) ?_
    show own_Run p e below s _ _ _ (T60.setTop (mkF m 159 #[.val (.int i0), .val (.int i1), .val (.int i2), .val (.int i3), .val (.int i4), .val (.int (3 : Int32)), .val (.ref b46), .val (.long (((i1.toInt64) + (i2.toInt64)) + (i3.toInt64))), .second, .unset, .unset, .unset, .unset] [(.ref b46)]))
    have rb1 := i1.le_toInt; have ra1 := i1.toInt_lt
    have rb2 := i2.le_toInt; have ra2 := i2.toInt_lt
    have rb3 := i3.le_toInt; have ra3 := i3.toInt_lt
    have z0 := own_Z0
    have z3 : own_Z 1074 3 (4613937818241073152 : UInt64) := own_three
    have z_1 := own_zz (y := i1) z0 (by omega)
    have z_2 := own_zz (y := i2) z_1 (by omega)
    have z_3 := own_zz (y := i3) z_2 (by omega)
    have t1 : i1.toInt64.toInt = 0 + i1.toInt := by rw [Int32.toInt_toInt64]; omega
    have e1 : (FP.dadd (0 : UInt64) (FP.i2d i1)) = FP.l2d i1.toInt64 := own_e1 i1
    have t2 := own_ls (y := i2) t1 (by omega)
    have e2 : (FP.dadd (FP.dadd (0 : UInt64) (FP.i2d i1)) (FP.i2d i2)) = FP.l2d (i1.toInt64 + i2.toInt64) := own_e2 e1 (by rw [t1]; omega) (by rw [t1]; omega)
    have t3 := own_ls (y := i3) t2 (by omega)
    have e3 : (FP.dadd (FP.dadd (FP.dadd (0 : UInt64) (FP.i2d i1)) (FP.i2d i2)) (FP.i2d i3)) = FP.l2d ((i1.toInt64 + i2.toInt64) + i3.toInt64) := own_e2 e2 (by rw [t2]; omega) (by rw [t2]; omega)
    have pnq := own_Z.divnn z_3 z3 (by decide)
    have nw : Jvm.Free.Fl.NoNaN64 (FP.ddiv (FP.l2d ((i1.toInt64 + i2.toInt64) + i3.toInt64)) (4613937818241073152 : UInt64)) := e3 ▸ pnq
    refine own_callS X60 hx hZ (y := (⟨"com/example/triflux/triflux/eval/Accuracy", "triangles", "([D)D"⟩ : MethodName)) hown (hw _ (List.mem_of_getElem? (i := 2) rfl)) (hw _ (List.mem_of_getElem? (i := 3) rfl)) (hw _ (List.mem_of_getElem? (i := 5) rfl)) (hw _ (List.mem_of_getElem? (i := 4) rfl)) (by decide) e60 (argsL := [(.ref b46)]) (rest := []) (W := 0) (own_rm1pn3 l Z a0 hw [] b46 k46 (FP.i2d i1) (FP.i2d i2) (FP.i2d i3) h60 n0 (Nat.le_trans Z0 K61.1) V60 (z_1.nn) (z_2.nn) (z_3.nn) (pnq)) (by decide) (by decide) (by rw [hml]; rfl) (lenOf own_pd1 rfl) rfl (by exact Nat.le_of_eq rfl) (hb hby at_159) (by decide) (by decide) ?_
    intro T63 v63 L63 X63 hq63
    obtain ⟨rfl, N63q, hh63⟩ := hq63
    have N63 := Fr.app N60 N63q
    show own_Run p e below s _ _ _ (T63.setTop (mkF m 162 #[.val (.int i0), .val (.int i1), .val (.int i2), .val (.int i3), .val (.int i4), .val (.int (3 : Int32)), .val (.ref b46), .val (.long (((i1.toInt64) + (i2.toInt64)) + (i3.toInt64))), .second, .unset, .unset, .unset, .unset] [(.double (FP.ddiv (FP.dadd (FP.dadd (FP.dadd (0 : UInt64) (FP.i2d i1)) (FP.i2d i2)) (FP.i2d i3)) (4613937818241073152 : UInt64)))]))
    refine own_st (fun t k => XS.dstore X63.here hx rfl (hb hby at_162) rfl (l' := #[.val (.int i0), .val (.int i1), .val (.int i2), .val (.int i3), .val (.int i4), .val (.int (3 : Int32)), .val (.ref b46), .val (.long (((i1.toInt64) + (i2.toInt64)) + (i3.toInt64))), .second, .val (.double (FP.ddiv (FP.dadd (FP.dadd (FP.dadd (0 : UInt64) (FP.i2d i1)) (FP.i2d i2)) (FP.i2d i3)) (4613937818241073152 : UInt64))), .second, .unset, .unset]) rfl k) ?_
    show own_Run p e below s _ _ _ (T63.setTop (mkF m 164 #[.val (.int i0), .val (.int i1), .val (.int i2), .val (.int i3), .val (.int i4), .val (.int (3 : Int32)), .val (.ref b46), .val (.long (((i1.toInt64) + (i2.toInt64)) + (i3.toInt64))), .second, .val (.double (FP.ddiv (FP.dadd (FP.dadd (FP.dadd (0 : UInt64) (FP.i2d i1)) (FP.i2d i2)) (FP.i2d i3)) (4613937818241073152 : UInt64))), .second, .unset, .unset] []))
    refine own_st (fun t k => XS.lload X63.here hx rfl (hb hby at_164) rfl k) ?_
    show own_Run p e below s _ _ _ (T63.setTop (mkF m 166 #[.val (.int i0), .val (.int i1), .val (.int i2), .val (.int i3), .val (.int i4), .val (.int (3 : Int32)), .val (.ref b46), .val (.long (((i1.toInt64) + (i2.toInt64)) + (i3.toInt64))), .second, .val (.double (FP.ddiv (FP.dadd (FP.dadd (FP.dadd (0 : UInt64) (FP.i2d i1)) (FP.i2d i2)) (FP.i2d i3)) (4613937818241073152 : UInt64))), .second, .unset, .unset] [(.long (((i1.toInt64) + (i2.toInt64)) + (i3.toInt64)))]))
    refine own_st (fun t k => XS.l2dS X63.here hx rfl (hb hby at_166) rfl (v := (FP.l2d (((i1.toInt64) + (i2.toInt64)) + (i3.toInt64)))) (rfl) k) ?_
    show own_Run p e below s _ _ _ (T63.setTop (mkF m 167 #[.val (.int i0), .val (.int i1), .val (.int i2), .val (.int i3), .val (.int i4), .val (.int (3 : Int32)), .val (.ref b46), .val (.long (((i1.toInt64) + (i2.toInt64)) + (i3.toInt64))), .second, .val (.double (FP.ddiv (FP.dadd (FP.dadd (FP.dadd (0 : UInt64) (FP.i2d i1)) (FP.i2d i2)) (FP.i2d i3)) (4613937818241073152 : UInt64))), .second, .unset, .unset] [(.double (FP.l2d (((i1.toInt64) + (i2.toInt64)) + (i3.toInt64))))]))
    refine own_st (X63.ldc2DoubleC hx hown (mvT hZ (hw _ (List.mem_of_getElem? (i := 7) rfl))) (g := (mkF m 167 #[.val (.int i0), .val (.int i1), .val (.int i2), .val (.int i3), .val (.int i4), .val (.int (3 : Int32)), .val (.ref b46), .val (.long (((i1.toInt64) + (i2.toInt64)) + (i3.toInt64))), .second, .val (.double (FP.ddiv (FP.dadd (FP.dadd (FP.dadd (0 : UInt64) (FP.i2d i1)) (FP.i2d i2)) (FP.i2d i3)) (4613937818241073152 : UInt64))), .second, .unset, .unset] [(.double (FP.l2d (((i1.toInt64) + (i2.toInt64)) + (i3.toInt64))))])) rfl (hb hby at_167)) ?_
    show own_Run p e below s _ _ _ (T63.setTop (mkF m 170 #[.val (.int i0), .val (.int i1), .val (.int i2), .val (.int i3), .val (.int i4), .val (.int (3 : Int32)), .val (.ref b46), .val (.long (((i1.toInt64) + (i2.toInt64)) + (i3.toInt64))), .second, .val (.double (FP.ddiv (FP.dadd (FP.dadd (FP.dadd (0 : UInt64) (FP.i2d i1)) (FP.i2d i2)) (FP.i2d i3)) (4613937818241073152 : UInt64))), .second, .unset, .unset] [(.double (4613937818241073152 : UInt64)), (.double (FP.l2d (((i1.toInt64) + (i2.toInt64)) + (i3.toInt64))))]))
    refine own_st (fun t k => XS.ddivS X63.here hx rfl (hb hby at_170) rfl (nw) (v := (FP.ddiv (FP.l2d (((i1.toInt64) + (i2.toInt64)) + (i3.toInt64))) (4613937818241073152 : UInt64))) (rfl) k) ?_
    show own_Run p e below s _ _ _ (T63.setTop (mkF m 171 #[.val (.int i0), .val (.int i1), .val (.int i2), .val (.int i3), .val (.int i4), .val (.int (3 : Int32)), .val (.ref b46), .val (.long (((i1.toInt64) + (i2.toInt64)) + (i3.toInt64))), .second, .val (.double (FP.ddiv (FP.dadd (FP.dadd (FP.dadd (0 : UInt64) (FP.i2d i1)) (FP.i2d i2)) (FP.i2d i3)) (4613937818241073152 : UInt64))), .second, .unset, .unset] [(.double (FP.ddiv (FP.l2d (((i1.toInt64) + (i2.toInt64)) + (i3.toInt64))) (4613937818241073152 : UInt64)))]))
    refine own_st (fun t k => XS.dstore X63.here hx rfl (hb hby at_171) rfl (l' := #[.val (.int i0), .val (.int i1), .val (.int i2), .val (.int i3), .val (.int i4), .val (.int (3 : Int32)), .val (.ref b46), .val (.long (((i1.toInt64) + (i2.toInt64)) + (i3.toInt64))), .second, .val (.double (FP.ddiv (FP.dadd (FP.dadd (FP.dadd (0 : UInt64) (FP.i2d i1)) (FP.i2d i2)) (FP.i2d i3)) (4613937818241073152 : UInt64))), .second, .val (.double (FP.ddiv (FP.l2d (((i1.toInt64) + (i2.toInt64)) + (i3.toInt64))) (4613937818241073152 : UInt64))), .second]) rfl k) ?_
    show own_Run p e below s _ _ _ (T63.setTop (mkF m 173 #[.val (.int i0), .val (.int i1), .val (.int i2), .val (.int i3), .val (.int i4), .val (.int (3 : Int32)), .val (.ref b46), .val (.long (((i1.toInt64) + (i2.toInt64)) + (i3.toInt64))), .second, .val (.double (FP.ddiv (FP.dadd (FP.dadd (FP.dadd (0 : UInt64) (FP.i2d i1)) (FP.i2d i2)) (FP.i2d i3)) (4613937818241073152 : UInt64))), .second, .val (.double (FP.ddiv (FP.l2d (((i1.toInt64) + (i2.toInt64)) + (i3.toInt64))) (4613937818241073152 : UInt64))), .second] []))
    refine own_st (fun t k => XS.dload X63.here hx rfl (hb hby at_173) rfl k) ?_
    show own_Run p e below s _ _ _ (T63.setTop (mkF m 175 #[.val (.int i0), .val (.int i1), .val (.int i2), .val (.int i3), .val (.int i4), .val (.int (3 : Int32)), .val (.ref b46), .val (.long (((i1.toInt64) + (i2.toInt64)) + (i3.toInt64))), .second, .val (.double (FP.ddiv (FP.dadd (FP.dadd (FP.dadd (0 : UInt64) (FP.i2d i1)) (FP.i2d i2)) (FP.i2d i3)) (4613937818241073152 : UInt64))), .second, .val (.double (FP.ddiv (FP.l2d (((i1.toInt64) + (i2.toInt64)) + (i3.toInt64))) (4613937818241073152 : UInt64))), .second] [(.double (FP.ddiv (FP.dadd (FP.dadd (FP.dadd (0 : UInt64) (FP.i2d i1)) (FP.i2d i2)) (FP.i2d i3)) (4613937818241073152 : UInt64)))]))
    refine own_st (fun t k => XS.dload X63.here hx rfl (hb hby at_175) rfl k) ?_
    show own_Run p e below s _ _ _ (T63.setTop (mkF m 177 #[.val (.int i0), .val (.int i1), .val (.int i2), .val (.int i3), .val (.int i4), .val (.int (3 : Int32)), .val (.ref b46), .val (.long (((i1.toInt64) + (i2.toInt64)) + (i3.toInt64))), .second, .val (.double (FP.ddiv (FP.dadd (FP.dadd (FP.dadd (0 : UInt64) (FP.i2d i1)) (FP.i2d i2)) (FP.i2d i3)) (4613937818241073152 : UInt64))), .second, .val (.double (FP.ddiv (FP.l2d (((i1.toInt64) + (i2.toInt64)) + (i3.toInt64))) (4613937818241073152 : UInt64))), .second] [(.double (FP.ddiv (FP.l2d (((i1.toInt64) + (i2.toInt64)) + (i3.toInt64))) (4613937818241073152 : UInt64))), (.double (FP.ddiv (FP.dadd (FP.dadd (FP.dadd (0 : UInt64) (FP.i2d i1)) (FP.i2d i2)) (FP.i2d i3)) (4613937818241073152 : UInt64)))]))
    refine own_st (fun t k => XS.dcmpS X63.here hx rfl (hb hby at_177) rfl (v := (0 : Int32)) (dcmpV_eq (congrArg (fun z => FP.ddiv z (4613937818241073152 : UInt64)) e3) pnq _) k) ?_
    show own_Run p e below s _ _ _ (T63.setTop (mkF m 178 #[.val (.int i0), .val (.int i1), .val (.int i2), .val (.int i3), .val (.int i4), .val (.int (3 : Int32)), .val (.ref b46), .val (.long (((i1.toInt64) + (i2.toInt64)) + (i3.toInt64))), .second, .val (.double (FP.ddiv (FP.dadd (FP.dadd (FP.dadd (0 : UInt64) (FP.i2d i1)) (FP.i2d i2)) (FP.i2d i3)) (4613937818241073152 : UInt64))), .second, .val (.double (FP.ddiv (FP.l2d (((i1.toInt64) + (i2.toInt64)) + (i3.toInt64))) (4613937818241073152 : UInt64))), .second] [(.int (0 : Int32))]))
    refine own_st (fun t k => XS.ifNo X63.here hx rfl (hb hby at_178) rfl ((if0 _ _).trans (teq (by decide : (0 : Int32) = (0 : Int32))).2) k) ?_
    show own_Run p e below s _ _ _ (T63.setTop (mkF m 181 #[.val (.int i0), .val (.int i1), .val (.int i2), .val (.int i3), .val (.int i4), .val (.int (3 : Int32)), .val (.ref b46), .val (.long (((i1.toInt64) + (i2.toInt64)) + (i3.toInt64))), .second, .val (.double (FP.ddiv (FP.dadd (FP.dadd (FP.dadd (0 : UInt64) (FP.i2d i1)) (FP.i2d i2)) (FP.i2d i3)) (4613937818241073152 : UInt64))), .second, .val (.double (FP.ddiv (FP.l2d (((i1.toInt64) + (i2.toInt64)) + (i3.toInt64))) (4613937818241073152 : UInt64))), .second] []))
    refine own_st (fun t k => XS.iconst X63.here hx rfl (hb hby at_181) k) ?_
    show own_Run p e below s _ _ _ (T63.setTop (mkF m 182 #[.val (.int i0), .val (.int i1), .val (.int i2), .val (.int i3), .val (.int i4), .val (.int (3 : Int32)), .val (.ref b46), .val (.long (((i1.toInt64) + (i2.toInt64)) + (i3.toInt64))), .second, .val (.double (FP.ddiv (FP.dadd (FP.dadd (FP.dadd (0 : UInt64) (FP.i2d i1)) (FP.i2d i2)) (FP.i2d i3)) (4613937818241073152 : UInt64))), .second, .val (.double (FP.ddiv (FP.l2d (((i1.toInt64) + (i2.toInt64)) + (i3.toInt64))) (4613937818241073152 : UInt64))), .second] [(.int (1 : Int32))]))
    refine own_st (fun t k => XS.goto X63.here hx rfl (pc0 := 182) (pc' := 186) rfl (hb hby at_182) (by decide) (by decide) k) ?_
    show own_Run p e below s _ _ _ (T63.setTop (mkF m 186 #[.val (.int i0), .val (.int i1), .val (.int i2), .val (.int i3), .val (.int i4), .val (.int (3 : Int32)), .val (.ref b46), .val (.long (((i1.toInt64) + (i2.toInt64)) + (i3.toInt64))), .second, .val (.double (FP.ddiv (FP.dadd (FP.dadd (FP.dadd (0 : UInt64) (FP.i2d i1)) (FP.i2d i2)) (FP.i2d i3)) (4613937818241073152 : UInt64))), .second, .val (.double (FP.ddiv (FP.l2d (((i1.toInt64) + (i2.toInt64)) + (i3.toInt64))) (4613937818241073152 : UInt64))), .second] [(.int (1 : Int32))]))
    exact own_ret X63 hx hlk (t := .boolean) hret rfl (Or.inl ⟨rfl, by simp, _, rfl⟩) (hb hby at_186) (by decide) (by decide) ⟨rfl, N63⟩
  · refine own_topI hn ?_
    show own_Run p e below s _ _ _ (s₁.setTop (mkF m 6 #[.val (.int i0), .val (.int i1), .val (.int i2), .val (.int i3), .val (.int i4), .unset, .unset, .unset, .unset, .unset, .unset, .unset, .unset] [(.int (4 : Int32))]))
    refine own_st (fun t k => XS.istore X0.here hx rfl (hb hby at_6) rfl (l' := #[.val (.int i0), .val (.int i1), .val (.int i2), .val (.int i3), .val (.int i4), .val (.int (4 : Int32)), .unset, .unset, .unset, .unset, .unset, .unset, .unset]) rfl k) ?_
    show own_Run p e below s _ _ _ (s₁.setTop (mkF m 8 #[.val (.int i0), .val (.int i1), .val (.int i2), .val (.int i3), .val (.int i4), .val (.int (4 : Int32)), .unset, .unset, .unset, .unset, .unset, .unset, .unset] []))
    refine own_st (fun t k => XS.iload X0.here hx rfl (hb hby at_8) rfl k) ?_
    show own_Run p e below s _ _ _ (s₁.setTop (mkF m 10 #[.val (.int i0), .val (.int i1), .val (.int i2), .val (.int i3), .val (.int i4), .val (.int (4 : Int32)), .unset, .unset, .unset, .unset, .unset, .unset, .unset] [(.int (4 : Int32))]))
    refine own_st (fun t k => XS.ifYes X0.here hx rfl (pc0 := 10) (pc' := 24) rfl (hb hby at_10) rfl ((if0 _ _).trans (feq (by decide : ¬ ((4 : Int32) = (0 : Int32)))).2) (by decide) (by decide) k) ?_
    show own_Run p e below s _ _ _ (s₁.setTop (mkF m 24 #[.val (.int i0), .val (.int i1), .val (.int i2), .val (.int i3), .val (.int i4), .val (.int (4 : Int32)), .unset, .unset, .unset, .unset, .unset, .unset, .unset] []))
    refine own_st (fun t k => XS.iload X0.here hx rfl (hb hby at_24) rfl k) ?_
    show own_Run p e below s _ _ _ (s₁.setTop (mkF m 26 #[.val (.int i0), .val (.int i1), .val (.int i2), .val (.int i3), .val (.int i4), .val (.int (4 : Int32)), .unset, .unset, .unset, .unset, .unset, .unset, .unset] [(.int (4 : Int32))]))
    refine own_st (fun t k => XS.iconst X0.here hx rfl (hb hby at_26) k) ?_
    show own_Run p e below s _ _ _ (s₁.setTop (mkF m 27 #[.val (.int i0), .val (.int i1), .val (.int i2), .val (.int i3), .val (.int i4), .val (.int (4 : Int32)), .unset, .unset, .unset, .unset, .unset, .unset, .unset] [(.int (1 : Int32)), (.int (4 : Int32))]))
    refine own_st (fun t k => XS.icmpYes X0.here hx rfl (pc0 := 27) (pc' := 47) rfl (hb hby at_27) rfl (feq (by decide : ¬ ((4 : Int32) = (1 : Int32)))).2 (by decide) (by decide) k) ?_
    show own_Run p e below s _ _ _ (s₁.setTop (mkF m 47 #[.val (.int i0), .val (.int i1), .val (.int i2), .val (.int i3), .val (.int i4), .val (.int (4 : Int32)), .unset, .unset, .unset, .unset, .unset, .unset, .unset] []))
    refine own_st (fun t k => XS.iload X0.here hx rfl (hb hby at_47) rfl k) ?_
    show own_Run p e below s _ _ _ (s₁.setTop (mkF m 49 #[.val (.int i0), .val (.int i1), .val (.int i2), .val (.int i3), .val (.int i4), .val (.int (4 : Int32)), .unset, .unset, .unset, .unset, .unset, .unset, .unset] [(.int (4 : Int32))]))
    refine own_st (fun t k => XS.iconst X0.here hx rfl (hb hby at_49) k) ?_
    show own_Run p e below s _ _ _ (s₁.setTop (mkF m 50 #[.val (.int i0), .val (.int i1), .val (.int i2), .val (.int i3), .val (.int i4), .val (.int (4 : Int32)), .unset, .unset, .unset, .unset, .unset, .unset, .unset] [(.int (2 : Int32)), (.int (4 : Int32))]))
    refine own_st (fun t k => XS.icmpYes X0.here hx rfl (pc0 := 50) (pc' := 78) rfl (hb hby at_50) rfl (feq (by decide : ¬ ((4 : Int32) = (2 : Int32)))).2 (by decide) (by decide) k) ?_
    show own_Run p e below s _ _ _ (s₁.setTop (mkF m 78 #[.val (.int i0), .val (.int i1), .val (.int i2), .val (.int i3), .val (.int i4), .val (.int (4 : Int32)), .unset, .unset, .unset, .unset, .unset, .unset, .unset] []))
    refine own_st (fun t k => XS.iload X0.here hx rfl (hb hby at_78) rfl k) ?_
    show own_Run p e below s _ _ _ (s₁.setTop (mkF m 80 #[.val (.int i0), .val (.int i1), .val (.int i2), .val (.int i3), .val (.int i4), .val (.int (4 : Int32)), .unset, .unset, .unset, .unset, .unset, .unset, .unset] [(.int (4 : Int32))]))
    refine own_st (fun t k => XS.iconst X0.here hx rfl (hb hby at_80) k) ?_
    show own_Run p e below s _ _ _ (s₁.setTop (mkF m 81 #[.val (.int i0), .val (.int i1), .val (.int i2), .val (.int i3), .val (.int i4), .val (.int (4 : Int32)), .unset, .unset, .unset, .unset, .unset, .unset, .unset] [(.int (3 : Int32)), (.int (4 : Int32))]))
    refine own_st (fun t k => XS.icmpYes X0.here hx rfl (pc0 := 81) (pc' := 117) rfl (hb hby at_81) rfl (feq (by decide : ¬ ((4 : Int32) = (3 : Int32)))).2 (by decide) (by decide) k) ?_
    show own_Run p e below s _ _ _ (s₁.setTop (mkF m 117 #[.val (.int i0), .val (.int i1), .val (.int i2), .val (.int i3), .val (.int i4), .val (.int (4 : Int32)), .unset, .unset, .unset, .unset, .unset, .unset, .unset] []))
    refine own_st (fun t k => XS.iconst X0.here hx rfl (hb hby at_117) k) ?_
    show own_Run p e below s _ _ _ (s₁.setTop (mkF m 118 #[.val (.int i0), .val (.int i1), .val (.int i2), .val (.int i3), .val (.int i4), .val (.int (4 : Int32)), .unset, .unset, .unset, .unset, .unset, .unset, .unset] [(.int (4 : Int32))]))
    obtain ⟨T64, h64, k64, X64, e64, E64, A64, st64⟩ := newP X0 hx hZ (hw _ (List.mem_of_getElem? (i := 1) rfl)) e0 (g := (mkF m 118 #[.val (.int i0), .val (.int i1), .val (.int i2), .val (.int i3), .val (.int i4), .val (.int (4 : Int32)), .unset, .unset, .unset, .unset, .unset, .unset, .unset] [(.int (4 : Int32))])) rfl (hb hby at_118) rfl (by decide) (cap := 4) (by decide) (by decide) (by decide) (by decide)
    obtain ⟨b64, g64⟩ : ∃ z, z = h0.size := ⟨_, rfl⟩
    rw [← g64] at A64 st64
    have sz65 : h0.size ≤ b64 := Nat.le_trans K0.1 (Nat.le_of_eq g64.symm)
    have ge66 : n0 ≤ b64 := Nat.le_trans Z0 sz65
    refine own_st st64 ?_
    have V64 : Arv Z h64 b64 k64 .double (4 : Int32) [(.double (0 : UInt64)), (.double (0 : UInt64)), (.double (0 : UInt64)), (.double (0 : UInt64))] (.double (0 : UInt64)) := (Arv.new A64 (by decide)).pad (pad_rep [] (.double (0 : UInt64)) 4)
    have K67 : Keep h0 h64 [] := K0.ext E64
    have O68 := O0.ext E64
    show own_Run p e below s _ _ _ (T64.setTop (mkF m 120 #[.val (.int i0), .val (.int i1), .val (.int i2), .val (.int i3), .val (.int i4), .val (.int (4 : Int32)), .unset, .unset, .unset, .unset, .unset, .unset, .unset] [(.ref b64)]))
    refine own_st (fun t k => XS.dup X64.here hx rfl (hb hby at_120) rfl rfl k) ?_
    show own_Run p e below s _ _ _ (T64.setTop (mkF m 121 #[.val (.int i0), .val (.int i1), .val (.int i2), .val (.int i3), .val (.int i4), .val (.int (4 : Int32)), .unset, .unset, .unset, .unset, .unset, .unset, .unset] [(.ref b64), (.ref b64)]))
    refine own_st (fun t k => XS.iconst X64.here hx rfl (hb hby at_121) k) ?_
    show own_Run p e below s _ _ _ (T64.setTop (mkF m 122 #[.val (.int i0), .val (.int i1), .val (.int i2), .val (.int i3), .val (.int i4), .val (.int (4 : Int32)), .unset, .unset, .unset, .unset, .unset, .unset, .unset] [(.int (0 : Int32)), (.ref b64), (.ref b64)]))
    refine own_st (fun t k => XS.iloadN X64.here hx rfl (hb hby at_122) rfl k) ?_
    show own_Run p e below s _ _ _ (T64.setTop (mkF m 123 #[.val (.int i0), .val (.int i1), .val (.int i2), .val (.int i3), .val (.int i4), .val (.int (4 : Int32)), .unset, .unset, .unset, .unset, .unset, .unset, .unset] [(.int i1), (.int (0 : Int32)), (.ref b64), (.ref b64)]))
    refine own_st (fun t k => XS.i2dS X64.here hx rfl (hb hby at_123) rfl (v := (FP.i2d i1)) (rfl) k) ?_
    show own_Run p e below s _ _ _ (T64.setTop (mkF m 124 #[.val (.int i0), .val (.int i1), .val (.int i2), .val (.int i3), .val (.int i4), .val (.int (4 : Int32)), .unset, .unset, .unset, .unset, .unset, .unset, .unset] [(.double (FP.i2d i1)), (.int (0 : Int32)), (.ref b64), (.ref b64)]))
    obtain ⟨cl69, Ar69, q69, S69, N69, H69, G69⟩ := id V64
    have hin69 : ¬ ((0 : Int32) < 0 ∨ cl69.slots.size ≤ ((0 : Int32)).toNatClampNeg) := inb_of S69 ⟨by decide, by decide⟩
    obtain ⟨T70, h70, X70, e70, W70, st70⟩ := stD X64 hx hZ e64 Ar69 (j := (0 : Int32)) hin69 (g := (mkF m 124 #[.val (.int i0), .val (.int i1), .val (.int i2), .val (.int i3), .val (.int i4), .val (.int (4 : Int32)), .unset, .unset, .unset, .unset, .unset, .unset, .unset] [(.double (FP.i2d i1)), (.int (0 : Int32)), (.ref b64), (.ref b64)])) rfl rfl (hb hby at_124)
    refine own_st st70 ?_
    have V70 : Arv Z h70 b64 k64 .double (4 : Int32) [(.double (FP.i2d i1)), (.double (0 : UInt64)), (.double (0 : UInt64)), (.double (0 : UInt64))] (.double (0 : UInt64)) := Arv.set Ar69 q69 S69 N69 H69 G69 rfl W70 0 rfl (Nat.le_of_ble_eq_true rfl)
    have N70 := Fr.snoc X70 N0 ge66
    have K71 : Keep h0 h70 [] := K67.wr W70 (Or.inr sz65)
    have O72 := O68.wr W70 ge66
    show own_Run p e below s _ _ _ (T70.setTop (mkF m 125 #[.val (.int i0), .val (.int i1), .val (.int i2), .val (.int i3), .val (.int i4), .val (.int (4 : Int32)), .unset, .unset, .unset, .unset, .unset, .unset, .unset] [(.ref b64)]))
    refine own_st (fun t k => XS.dup X70.here hx rfl (hb hby at_125) rfl rfl k) ?_
    show own_Run p e below s _ _ _ (T70.setTop (mkF m 126 #[.val (.int i0), .val (.int i1), .val (.int i2), .val (.int i3), .val (.int i4), .val (.int (4 : Int32)), .unset, .unset, .unset, .unset, .unset, .unset, .unset] [(.ref b64), (.ref b64)]))
    refine own_st (fun t k => XS.iconst X70.here hx rfl (hb hby at_126) k) ?_
    show own_Run p e below s _ _ _ (T70.setTop (mkF m 127 #[.val (.int i0), .val (.int i1), .val (.int i2), .val (.int i3), .val (.int i4), .val (.int (4 : Int32)), .unset, .unset, .unset, .unset, .unset, .unset, .unset] [(.int (1 : Int32)), (.ref b64), (.ref b64)]))
    refine own_st (fun t k => XS.iloadN X70.here hx rfl (hb hby at_127) rfl k) ?_
    show own_Run p e below s _ _ _ (T70.setTop (mkF m 128 #[.val (.int i0), .val (.int i1), .val (.int i2), .val (.int i3), .val (.int i4), .val (.int (4 : Int32)), .unset, .unset, .unset, .unset, .unset, .unset, .unset] [(.int i2), (.int (1 : Int32)), (.ref b64), (.ref b64)]))
    refine own_st (fun t k => XS.i2dS X70.here hx rfl (hb hby at_128) rfl (v := (FP.i2d i2)) (rfl) k) ?_
    show own_Run p e below s _ _ _ (T70.setTop (mkF m 129 #[.val (.int i0), .val (.int i1), .val (.int i2), .val (.int i3), .val (.int i4), .val (.int (4 : Int32)), .unset, .unset, .unset, .unset, .unset, .unset, .unset] [(.double (FP.i2d i2)), (.int (1 : Int32)), (.ref b64), (.ref b64)]))
    obtain ⟨cl73, Ar73, q73, S73, N73, H73, G73⟩ := id V70
    have hin73 : ¬ ((1 : Int32) < 0 ∨ cl73.slots.size ≤ ((1 : Int32)).toNatClampNeg) := inb_of S73 ⟨by decide, by decide⟩
    obtain ⟨T74, h74, X74, e74, W74, st74⟩ := stD X70 hx hZ e70 Ar73 (j := (1 : Int32)) hin73 (g := (mkF m 129 #[.val (.int i0), .val (.int i1), .val (.int i2), .val (.int i3), .val (.int i4), .val (.int (4 : Int32)), .unset, .unset, .unset, .unset, .unset, .unset, .unset] [(.double (FP.i2d i2)), (.int (1 : Int32)), (.ref b64), (.ref b64)])) rfl rfl (hb hby at_129)
    refine own_st st74 ?_
    have V74 : Arv Z h74 b64 k64 .double (4 : Int32) [(.double (FP.i2d i1)), (.double (FP.i2d i2)), (.double (0 : UInt64)), (.double (0 : UInt64))] (.double (0 : UInt64)) := Arv.set Ar73 q73 S73 N73 H73 G73 rfl W74 1 rfl (Nat.le_of_ble_eq_true rfl)
    have N74 := Fr.snoc X74 N70 ge66
    have K75 : Keep h0 h74 [] := K71.wr W74 (Or.inr sz65)
    have O76 := O72.wr W74 ge66
    show own_Run p e below s _ _ _ (T74.setTop (mkF m 130 #[.val (.int i0), .val (.int i1), .val (.int i2), .val (.int i3), .val (.int i4), .val (.int (4 : Int32)), .unset, .unset, .unset, .unset, .unset, .unset, .unset] [(.ref b64)]))
    refine own_st (fun t k => XS.dup X74.here hx rfl (hb hby at_130) rfl rfl k) ?_
    show own_Run p e below s _ _ _ (T74.setTop (mkF m 131 #[.val (.int i0), .val (.int i1), .val (.int i2), .val (.int i3), .val (.int i4), .val (.int (4 : Int32)), .unset, .unset, .unset, .unset, .unset, .unset, .unset] [(.ref b64), (.ref b64)]))
    refine own_st (fun t k => XS.iconst X74.here hx rfl (hb hby at_131) k) ?_
    show own_Run p e below s _ _ _ (T74.setTop (mkF m 132 #[.val (.int i0), .val (.int i1), .val (.int i2), .val (.int i3), .val (.int i4), .val (.int (4 : Int32)), .unset, .unset, .unset, .unset, .unset, .unset, .unset] [(.int (2 : Int32)), (.ref b64), (.ref b64)]))
    refine own_st (fun t k => XS.iloadN X74.here hx rfl (hb hby at_132) rfl k) ?_
    show own_Run p e below s _ _ _ (T74.setTop (mkF m 133 #[.val (.int i0), .val (.int i1), .val (.int i2), .val (.int i3), .val (.int i4), .val (.int (4 : Int32)), .unset, .unset, .unset, .unset, .unset, .unset, .unset] [(.int i3), (.int (2 : Int32)), (.ref b64), (.ref b64)]))
    refine own_st (fun t k => XS.i2dS X74.here hx rfl (hb hby at_133) rfl (v := (FP.i2d i3)) (rfl) k) ?_
    show own_Run p e below s _ _ _ (T74.setTop (mkF m 134 #[.val (.int i0), .val (.int i1), .val (.int i2), .val (.int i3), .val (.int i4), .val (.int (4 : Int32)), .unset, .unset, .unset, .unset, .unset, .unset, .unset] [(.double (FP.i2d i3)), (.int (2 : Int32)), (.ref b64), (.ref b64)]))
    obtain ⟨cl77, Ar77, q77, S77, N77, H77, G77⟩ := id V74
    have hin77 : ¬ ((2 : Int32) < 0 ∨ cl77.slots.size ≤ ((2 : Int32)).toNatClampNeg) := inb_of S77 ⟨by decide, by decide⟩
    obtain ⟨T78, h78, X78, e78, W78, st78⟩ := stD X74 hx hZ e74 Ar77 (j := (2 : Int32)) hin77 (g := (mkF m 134 #[.val (.int i0), .val (.int i1), .val (.int i2), .val (.int i3), .val (.int i4), .val (.int (4 : Int32)), .unset, .unset, .unset, .unset, .unset, .unset, .unset] [(.double (FP.i2d i3)), (.int (2 : Int32)), (.ref b64), (.ref b64)])) rfl rfl (hb hby at_134)
    refine own_st st78 ?_
    have V78 : Arv Z h78 b64 k64 .double (4 : Int32) [(.double (FP.i2d i1)), (.double (FP.i2d i2)), (.double (FP.i2d i3)), (.double (0 : UInt64))] (.double (0 : UInt64)) := Arv.set Ar77 q77 S77 N77 H77 G77 rfl W78 2 rfl (Nat.le_of_ble_eq_true rfl)
    have N78 := Fr.snoc X78 N74 ge66
    have K79 : Keep h0 h78 [] := K75.wr W78 (Or.inr sz65)
    have O80 := O76.wr W78 ge66
    show own_Run p e below s _ _ _ (T78.setTop (mkF m 135 #[.val (.int i0), .val (.int i1), .val (.int i2), .val (.int i3), .val (.int i4), .val (.int (4 : Int32)), .unset, .unset, .unset, .unset, .unset, .unset, .unset] [(.ref b64)]))
    refine own_st (fun t k => XS.dup X78.here hx rfl (hb hby at_135) rfl rfl k) ?_
    show own_Run p e below s _ _ _ (T78.setTop (mkF m 136 #[.val (.int i0), .val (.int i1), .val (.int i2), .val (.int i3), .val (.int i4), .val (.int (4 : Int32)), .unset, .unset, .unset, .unset, .unset, .unset, .unset] [(.ref b64), (.ref b64)]))
    refine own_st (fun t k => XS.iconst X78.here hx rfl (hb hby at_136) k) ?_
    show own_Run p e below s _ _ _ (T78.setTop (mkF m 137 #[.val (.int i0), .val (.int i1), .val (.int i2), .val (.int i3), .val (.int i4), .val (.int (4 : Int32)), .unset, .unset, .unset, .unset, .unset, .unset, .unset] [(.int (3 : Int32)), (.ref b64), (.ref b64)]))
    refine own_st (fun t k => XS.iload X78.here hx rfl (hb hby at_137) rfl k) ?_
    show own_Run p e below s _ _ _ (T78.setTop (mkF m 139 #[.val (.int i0), .val (.int i1), .val (.int i2), .val (.int i3), .val (.int i4), .val (.int (4 : Int32)), .unset, .unset, .unset, .unset, .unset, .unset, .unset] [(.int i4), (.int (3 : Int32)), (.ref b64), (.ref b64)]))
    refine own_st (fun t k => XS.i2dS X78.here hx rfl (hb hby at_139) rfl (v := (FP.i2d i4)) (rfl) k) ?_
    show own_Run p e below s _ _ _ (T78.setTop (mkF m 140 #[.val (.int i0), .val (.int i1), .val (.int i2), .val (.int i3), .val (.int i4), .val (.int (4 : Int32)), .unset, .unset, .unset, .unset, .unset, .unset, .unset] [(.double (FP.i2d i4)), (.int (3 : Int32)), (.ref b64), (.ref b64)]))
    obtain ⟨cl81, Ar81, q81, S81, N81, H81, G81⟩ := id V78
    have hin81 : ¬ ((3 : Int32) < 0 ∨ cl81.slots.size ≤ ((3 : Int32)).toNatClampNeg) := inb_of S81 ⟨by decide, by decide⟩
    obtain ⟨T82, h82, X82, e82, W82, st82⟩ := stD X78 hx hZ e78 Ar81 (j := (3 : Int32)) hin81 (g := (mkF m 140 #[.val (.int i0), .val (.int i1), .val (.int i2), .val (.int i3), .val (.int i4), .val (.int (4 : Int32)), .unset, .unset, .unset, .unset, .unset, .unset, .unset] [(.double (FP.i2d i4)), (.int (3 : Int32)), (.ref b64), (.ref b64)])) rfl rfl (hb hby at_140)
    refine own_st st82 ?_
    have V82 : Arv Z h82 b64 k64 .double (4 : Int32) [(.double (FP.i2d i1)), (.double (FP.i2d i2)), (.double (FP.i2d i3)), (.double (FP.i2d i4))] (.double (0 : UInt64)) := Arv.set Ar81 q81 S81 N81 H81 G81 rfl W82 3 rfl (Nat.le_of_ble_eq_true rfl)
    have N82 := Fr.snoc X82 N78 ge66
    have K83 : Keep h0 h82 [] := K79.wr W82 (Or.inr sz65)
    have O84 := O80.wr W82 ge66
    show own_Run p e below s _ _ _ (T82.setTop (mkF m 141 #[.val (.int i0), .val (.int i1), .val (.int i2), .val (.int i3), .val (.int i4), .val (.int (4 : Int32)), .unset, .unset, .unset, .unset, .unset, .unset, .unset] [(.ref b64)]))
    refine own_st (fun t k => XS.astore X82.here hx rfl (hb hby at_141) rfl rfl (l' := #[.val (.int i0), .val (.int i1), .val (.int i2), .val (.int i3), .val (.int i4), .val (.int (4 : Int32)), .val (.ref b64), .unset, .unset, .unset, .unset, .unset, .unset]) rfl k) ?_
    show own_Run p e below s _ _ _ (T82.setTop (mkF m 143 #[.val (.int i0), .val (.int i1), .val (.int i2), .val (.int i3), .val (.int i4), .val (.int (4 : Int32)), .val (.ref b64), .unset, .unset, .unset, .unset, .unset, .unset] []))
    refine own_st (fun t k => XS.iloadN X82.here hx rfl (hb hby at_143) rfl k) ?_
    show own_Run p e below s _ _ _ (T82.setTop (mkF m 144 #[.val (.int i0), .val (.int i1), .val (.int i2), .val (.int i3), .val (.int i4), .val (.int (4 : Int32)), .val (.ref b64), .unset, .unset, .unset, .unset, .unset, .unset] [(.int i1)]))
    refine own_st (fun t k => XS.i2l X82.here hx rfl (hb hby at_144) rfl k) ?_
    show own_Run p e below s _ _ _ (T82.setTop (mkF m 145 #[.val (.int i0), .val (.int i1), .val (.int i2), .val (.int i3), .val (.int i4), .val (.int (4 : Int32)), .val (.ref b64), .unset, .unset, .unset, .unset, .unset, .unset] [(.long (i1.toInt64))]))
    refine own_st (fun t k => XS.iloadN X82.here hx rfl (hb hby at_145) rfl k) ?_
    show own_Run p e below s _ _ _ (T82.setTop (mkF m 146 #[.val (.int i0), .val (.int i1), .val (.int i2), .val (.int i3), .val (.int i4), .val (.int (4 : Int32)), .val (.ref b64), .unset, .unset, .unset, .unset, .unset, .unset] [(.int i2), (.long (i1.toInt64))]))
    refine own_st (fun t k => XS.i2l X82.here hx rfl (hb hby at_146) rfl k) ?_
    show own_Run p e below s _ _ _ (T82.setTop (mkF m 147 #[.val (.int i0), .val (.int i1), .val (.int i2), .val (.int i3), .val (.int i4), .val (.int (4 : Int32)), .val (.ref b64), .unset, .unset, .unset, .unset, .unset, .unset] [(.long (i2.toInt64)), (.long (i1.toInt64))]))
    refine own_st (fun t k => XS.ladd X82.here hx rfl (hb hby at_147) rfl k) ?_
    show own_Run p e below s _ _ _ (T82.setTop (mkF m 148 #[.val (.int i0), .val (.int i1), .val (.int i2), .val (.int i3), .val (.int i4), .val (.int (4 : Int32)), .val (.ref b64), .unset, .unset, .unset, .unset, .unset, .unset] [(.long ((i1.toInt64) + (i2.toInt64)))]))
    refine own_st (fun t k => XS.iloadN X82.here hx rfl (hb hby at_148) rfl k) ?_
    show own_Run p e below s _ _ _ (T82.setTop (mkF m 149 #[.val (.int i0), .val (.int i1), .val (.int i2), .val (.int i3), .val (.int i4), .val (.int (4 : Int32)), .val (.ref b64), .unset, .unset, .unset, .unset, .unset, .unset] [(.int i3), (.long ((i1.toInt64) + (i2.toInt64)))]))
    refine own_st (fun t k => XS.i2l X82.here hx rfl (hb hby at_149) rfl k) ?_
    show own_Run p e below s _ _ _ (T82.setTop (mkF m 150 #[.val (.int i0), .val (.int i1), .val (.int i2), .val (.int i3), .val (.int i4), .val (.int (4 : Int32)), .val (.ref b64), .unset, .unset, .unset, .unset, .unset, .unset] [(.long (i3.toInt64)), (.long ((i1.toInt64) + (i2.toInt64)))]))
    refine own_st (fun t k => XS.ladd X82.here hx rfl (hb hby at_150) rfl k) ?_
    show own_Run p e below s _ _ _ (T82.setTop (mkF m 151 #[.val (.int i0), .val (.int i1), .val (.int i2), .val (.int i3), .val (.int i4), .val (.int (4 : Int32)), .val (.ref b64), .unset, .unset, .unset, .unset, .unset, .unset] [(.long (((i1.toInt64) + (i2.toInt64)) + (i3.toInt64)))]))
    refine own_st (fun t k => XS.iload X82.here hx rfl (hb hby at_151) rfl k) ?_
    show own_Run p e below s _ _ _ (T82.setTop (mkF m 153 #[.val (.int i0), .val (.int i1), .val (.int i2), .val (.int i3), .val (.int i4), .val (.int (4 : Int32)), .val (.ref b64), .unset, .unset, .unset, .unset, .unset, .unset] [(.int i4), (.long (((i1.toInt64) + (i2.toInt64)) + (i3.toInt64)))]))
    refine own_st (fun t k => XS.i2l X82.here hx rfl (hb hby at_153) rfl k) ?_
    show own_Run p e below s _ _ _ (T82.setTop (mkF m 154 #[.val (.int i0), .val (.int i1), .val (.int i2), .val (.int i3), .val (.int i4), .val (.int (4 : Int32)), .val (.ref b64), .unset, .unset, .unset, .unset, .unset, .unset] [(.long (i4.toInt64)), (.long (((i1.toInt64) + (i2.toInt64)) + (i3.toInt64)))]))
    refine own_st (fun t k => XS.ladd X82.here hx rfl (hb hby at_154) rfl k) ?_
    show own_Run p e below s _ _ _ (T82.setTop (mkF m 155 #[.val (.int i0), .val (.int i1), .val (.int i2), .val (.int i3), .val (.int i4), .val (.int (4 : Int32)), .val (.ref b64), .unset, .unset, .unset, .unset, .unset, .unset] [(.long ((((i1.toInt64) + (i2.toInt64)) + (i3.toInt64)) + (i4.toInt64)))]))
    refine own_st (fun t k => XS.lstore X82.here hx rfl (hb hby at_155) rfl (l' := #[.val (.int i0), .val (.int i1), .val (.int i2), .val (.int i3), .val (.int i4), .val (.int (4 : Int32)), .val (.ref b64), .val (.long ((((i1.toInt64) + (i2.toInt64)) + (i3.toInt64)) + (i4.toInt64))), .second, .unset, .unset, .unset, .unset]) rfl k) ?_
    show own_Run p e below s _ _ _ (T82.setTop (mkF m 157 #[.val (.int i0), .val (.int i1), .val (.int i2), .val (.int i3), .val (.int i4), .val (.int (4 : Int32)), .val (.ref b64), .val (.long ((((i1.toInt64) + (i2.toInt64)) + (i3.toInt64)) + (i4.toInt64))), .second, .unset, .unset, .unset, .unset] []))
    refine own_st (fun t k => XS.aload X82.here hx rfl (hb hby at_157) rfl rfl k) ?_
    show own_Run p e below s _ _ _ (T82.setTop (mkF m 159 #[.val (.int i0), .val (.int i1), .val (.int i2), .val (.int i3), .val (.int i4), .val (.int (4 : Int32)), .val (.ref b64), .val (.long ((((i1.toInt64) + (i2.toInt64)) + (i3.toInt64)) + (i4.toInt64))), .second, .unset, .unset, .unset, .unset] [(.ref b64)]))
    have rb1 := i1.le_toInt; have ra1 := i1.toInt_lt
    have rb2 := i2.le_toInt; have ra2 := i2.toInt_lt
    have rb3 := i3.le_toInt; have ra3 := i3.toInt_lt
    have rb4 := i4.le_toInt; have ra4 := i4.toInt_lt
    have z0 := own_Z0
    have z3 : own_Z 1074 3 (4613937818241073152 : UInt64) := own_three
    have z_1 := own_zz (y := i1) z0 (by omega)
    have z_2 := own_zz (y := i2) z_1 (by omega)
    have z_3 := own_zz (y := i3) z_2 (by omega)
    have z_4 := own_zz (y := i4) z_3 (by omega)
    have t1 : i1.toInt64.toInt = 0 + i1.toInt := by rw [Int32.toInt_toInt64]; omega
    have e1 : (FP.dadd (0 : UInt64) (FP.i2d i1)) = FP.l2d i1.toInt64 := own_e1 i1
    have t2 := own_ls (y := i2) t1 (by omega)
    have e2 : (FP.dadd (FP.dadd (0 : UInt64) (FP.i2d i1)) (FP.i2d i2)) = FP.l2d (i1.toInt64 + i2.toInt64) := own_e2 e1 (by rw [t1]; omega) (by rw [t1]; omega)
    have t3 := own_ls (y := i3) t2 (by omega)
    have e3 : (FP.dadd (FP.dadd (FP.dadd (0 : UInt64) (FP.i2d i1)) (FP.i2d i2)) (FP.i2d i3)) = FP.l2d ((i1.toInt64 + i2.toInt64) + i3.toInt64) := own_e2 e2 (by rw [t2]; omega) (by rw [t2]; omega)
    have t4 := own_ls (y := i4) t3 (by omega)
    have e4 : (FP.dadd (FP.dadd (FP.dadd (FP.dadd (0 : UInt64) (FP.i2d i1)) (FP.i2d i2)) (FP.i2d i3)) (FP.i2d i4)) = FP.l2d (((i1.toInt64 + i2.toInt64) + i3.toInt64) + i4.toInt64) := own_e2 e3 (by rw [t3]; omega) (by rw [t3]; omega)
    have pnq := own_Z.divnn z_4 z3 (by decide)
    have nw : Jvm.Free.Fl.NoNaN64 (FP.ddiv (FP.l2d (((i1.toInt64 + i2.toInt64) + i3.toInt64) + i4.toInt64)) (4613937818241073152 : UInt64)) := e4 ▸ pnq
    refine own_callS X82 hx hZ (y := (⟨"com/example/triflux/triflux/eval/Accuracy", "triangles", "([D)D"⟩ : MethodName)) hown (hw _ (List.mem_of_getElem? (i := 2) rfl)) (hw _ (List.mem_of_getElem? (i := 3) rfl)) (hw _ (List.mem_of_getElem? (i := 5) rfl)) (hw _ (List.mem_of_getElem? (i := 4) rfl)) (by decide) e82 (argsL := [(.ref b64)]) (rest := []) (W := 0) (own_rm1pn4 l Z a0 hw [] b64 k64 (FP.i2d i1) (FP.i2d i2) (FP.i2d i3) (FP.i2d i4) h82 n0 (Nat.le_trans Z0 K83.1) V82 (z_1.nn) (z_2.nn) (z_3.nn) (z_4.nn) (pnq)) (by decide) (by decide) (by rw [hml]; rfl) (lenOf own_pd1 rfl) rfl (by exact Nat.le_of_eq rfl) (hb hby at_159) (by decide) (by decide) ?_
    intro T85 v85 L85 X85 hq85
    obtain ⟨rfl, N85q, hh85⟩ := hq85
    have N85 := Fr.app N82 N85q
    show own_Run p e below s _ _ _ (T85.setTop (mkF m 162 #[.val (.int i0), .val (.int i1), .val (.int i2), .val (.int i3), .val (.int i4), .val (.int (4 : Int32)), .val (.ref b64), .val (.long ((((i1.toInt64) + (i2.toInt64)) + (i3.toInt64)) + (i4.toInt64))), .second, .unset, .unset, .unset, .unset] [(.double (FP.ddiv (FP.dadd (FP.dadd (FP.dadd (FP.dadd (0 : UInt64) (FP.i2d i1)) (FP.i2d i2)) (FP.i2d i3)) (FP.i2d i4)) (4613937818241073152 : UInt64)))]))
    refine own_st (fun t k => XS.dstore X85.here hx rfl (hb hby at_162) rfl (l' := #[.val (.int i0), .val (.int i1), .val (.int i2), .val (.int i3), .val (.int i4), .val (.int (4 : Int32)), .val (.ref b64), .val (.long ((((i1.toInt64) + (i2.toInt64)) + (i3.toInt64)) + (i4.toInt64))), .second, .val (.double (FP.ddiv (FP.dadd (FP.dadd (FP.dadd (FP.dadd (0 : UInt64) (FP.i2d i1)) (FP.i2d i2)) (FP.i2d i3)) (FP.i2d i4)) (4613937818241073152 : UInt64))), .second, .unset, .unset]) rfl k) ?_
    show own_Run p e below s _ _ _ (T85.setTop (mkF m 164 #[.val (.int i0), .val (.int i1), .val (.int i2), .val (.int i3), .val (.int i4), .val (.int (4 : Int32)), .val (.ref b64), .val (.long ((((i1.toInt64) + (i2.toInt64)) + (i3.toInt64)) + (i4.toInt64))), .second, .val (.double (FP.ddiv (FP.dadd (FP.dadd (FP.dadd (FP.dadd (0 : UInt64) (FP.i2d i1)) (FP.i2d i2)) (FP.i2d i3)) (FP.i2d i4)) (4613937818241073152 : UInt64))), .second, .unset, .unset] []))
    refine own_st (fun t k => XS.lload X85.here hx rfl (hb hby at_164) rfl k) ?_
    show own_Run p e below s _ _ _ (T85.setTop (mkF m 166 #[.val (.int i0), .val (.int i1), .val (.int i2), .val (.int i3), .val (.int i4), .val (.int (4 : Int32)), .val (.ref b64), .val (.long ((((i1.toInt64) + (i2.toInt64)) + (i3.toInt64)) + (i4.toInt64))), .second, .val (.double (FP.ddiv (FP.dadd (FP.dadd (FP.dadd (FP.dadd (0 : UInt64) (FP.i2d i1)) (FP.i2d i2)) (FP.i2d i3)) (FP.i2d i4)) (4613937818241073152 : UInt64))), .second, .unset, .unset] [(.long ((((i1.toInt64) + (i2.toInt64)) + (i3.toInt64)) + (i4.toInt64)))]))
    refine own_st (fun t k => XS.l2dS X85.here hx rfl (hb hby at_166) rfl (v := (FP.l2d ((((i1.toInt64) + (i2.toInt64)) + (i3.toInt64)) + (i4.toInt64)))) (rfl) k) ?_
    show own_Run p e below s _ _ _ (T85.setTop (mkF m 167 #[.val (.int i0), .val (.int i1), .val (.int i2), .val (.int i3), .val (.int i4), .val (.int (4 : Int32)), .val (.ref b64), .val (.long ((((i1.toInt64) + (i2.toInt64)) + (i3.toInt64)) + (i4.toInt64))), .second, .val (.double (FP.ddiv (FP.dadd (FP.dadd (FP.dadd (FP.dadd (0 : UInt64) (FP.i2d i1)) (FP.i2d i2)) (FP.i2d i3)) (FP.i2d i4)) (4613937818241073152 : UInt64))), .second, .unset, .unset] [(.double (FP.l2d ((((i1.toInt64) + (i2.toInt64)) + (i3.toInt64)) + (i4.toInt64))))]))
    refine own_st (X85.ldc2DoubleC hx hown (mvT hZ (hw _ (List.mem_of_getElem? (i := 7) rfl))) (g := (mkF m 167 #[.val (.int i0), .val (.int i1), .val (.int i2), .val (.int i3), .val (.int i4), .val (.int (4 : Int32)), .val (.ref b64), .val (.long ((((i1.toInt64) + (i2.toInt64)) + (i3.toInt64)) + (i4.toInt64))), .second, .val (.double (FP.ddiv (FP.dadd (FP.dadd (FP.dadd (FP.dadd (0 : UInt64) (FP.i2d i1)) (FP.i2d i2)) (FP.i2d i3)) (FP.i2d i4)) (4613937818241073152 : UInt64))), .second, .unset, .unset] [(.double (FP.l2d ((((i1.toInt64) + (i2.toInt64)) + (i3.toInt64)) + (i4.toInt64))))])) rfl (hb hby at_167)) ?_
    show own_Run p e below s _ _ _ (T85.setTop (mkF m 170 #[.val (.int i0), .val (.int i1), .val (.int i2), .val (.int i3), .val (.int i4), .val (.int (4 : Int32)), .val (.ref b64), .val (.long ((((i1.toInt64) + (i2.toInt64)) + (i3.toInt64)) + (i4.toInt64))), .second, .val (.double (FP.ddiv (FP.dadd (FP.dadd (FP.dadd (FP.dadd (0 : UInt64) (FP.i2d i1)) (FP.i2d i2)) (FP.i2d i3)) (FP.i2d i4)) (4613937818241073152 : UInt64))), .second, .unset, .unset] [(.double (4613937818241073152 : UInt64)), (.double (FP.l2d ((((i1.toInt64) + (i2.toInt64)) + (i3.toInt64)) + (i4.toInt64))))]))
    refine own_st (fun t k => XS.ddivS X85.here hx rfl (hb hby at_170) rfl (nw) (v := (FP.ddiv (FP.l2d ((((i1.toInt64) + (i2.toInt64)) + (i3.toInt64)) + (i4.toInt64))) (4613937818241073152 : UInt64))) (rfl) k) ?_
    show own_Run p e below s _ _ _ (T85.setTop (mkF m 171 #[.val (.int i0), .val (.int i1), .val (.int i2), .val (.int i3), .val (.int i4), .val (.int (4 : Int32)), .val (.ref b64), .val (.long ((((i1.toInt64) + (i2.toInt64)) + (i3.toInt64)) + (i4.toInt64))), .second, .val (.double (FP.ddiv (FP.dadd (FP.dadd (FP.dadd (FP.dadd (0 : UInt64) (FP.i2d i1)) (FP.i2d i2)) (FP.i2d i3)) (FP.i2d i4)) (4613937818241073152 : UInt64))), .second, .unset, .unset] [(.double (FP.ddiv (FP.l2d ((((i1.toInt64) + (i2.toInt64)) + (i3.toInt64)) + (i4.toInt64))) (4613937818241073152 : UInt64)))]))
    refine own_st (fun t k => XS.dstore X85.here hx rfl (hb hby at_171) rfl (l' := #[.val (.int i0), .val (.int i1), .val (.int i2), .val (.int i3), .val (.int i4), .val (.int (4 : Int32)), .val (.ref b64), .val (.long ((((i1.toInt64) + (i2.toInt64)) + (i3.toInt64)) + (i4.toInt64))), .second, .val (.double (FP.ddiv (FP.dadd (FP.dadd (FP.dadd (FP.dadd (0 : UInt64) (FP.i2d i1)) (FP.i2d i2)) (FP.i2d i3)) (FP.i2d i4)) (4613937818241073152 : UInt64))), .second, .val (.double (FP.ddiv (FP.l2d ((((i1.toInt64) + (i2.toInt64)) + (i3.toInt64)) + (i4.toInt64))) (4613937818241073152 : UInt64))), .second]) rfl k) ?_
    show own_Run p e below s _ _ _ (T85.setTop (mkF m 173 #[.val (.int i0), .val (.int i1), .val (.int i2), .val (.int i3), .val (.int i4), .val (.int (4 : Int32)), .val (.ref b64), .val (.long ((((i1.toInt64) + (i2.toInt64)) + (i3.toInt64)) + (i4.toInt64))), .second, .val (.double (FP.ddiv (FP.dadd (FP.dadd (FP.dadd (FP.dadd (0 : UInt64) (FP.i2d i1)) (FP.i2d i2)) (FP.i2d i3)) (FP.i2d i4)) (4613937818241073152 : UInt64))), .second, .val (.double (FP.ddiv (FP.l2d ((((i1.toInt64) + (i2.toInt64)) + (i3.toInt64)) + (i4.toInt64))) (4613937818241073152 : UInt64))), .second] []))
    refine own_st (fun t k => XS.dload X85.here hx rfl (hb hby at_173) rfl k) ?_
    show own_Run p e below s _ _ _ (T85.setTop (mkF m 175 #[.val (.int i0), .val (.int i1), .val (.int i2), .val (.int i3), .val (.int i4), .val (.int (4 : Int32)), .val (.ref b64), .val (.long ((((i1.toInt64) + (i2.toInt64)) + (i3.toInt64)) + (i4.toInt64))), .second, .val (.double (FP.ddiv (FP.dadd (FP.dadd (FP.dadd (FP.dadd (0 : UInt64) (FP.i2d i1)) (FP.i2d i2)) (FP.i2d i3)) (FP.i2d i4)) (4613937818241073152 : UInt64))), .second, .val (.double (FP.ddiv (FP.l2d ((((i1.toInt64) + (i2.toInt64)) + (i3.toInt64)) + (i4.toInt64))) (4613937818241073152 : UInt64))), .second] [(.double (FP.ddiv (FP.dadd (FP.dadd (FP.dadd (FP.dadd (0 : UInt64) (FP.i2d i1)) (FP.i2d i2)) (FP.i2d i3)) (FP.i2d i4)) (4613937818241073152 : UInt64)))]))
    refine own_st (fun t k => XS.dload X85.here hx rfl (hb hby at_175) rfl k) ?_
    show own_Run p e below s _ _ _ (T85.setTop (mkF m 177 #[.val (.int i0), .val (.int i1), .val (.int i2), .val (.int i3), .val (.int i4), .val (.int (4 : Int32)), .val (.ref b64), .val (.long ((((i1.toInt64) + (i2.toInt64)) + (i3.toInt64)) + (i4.toInt64))), .second, .val (.double (FP.ddiv (FP.dadd (FP.dadd (FP.dadd (FP.dadd (0 : UInt64) (FP.i2d i1)) (FP.i2d i2)) (FP.i2d i3)) (FP.i2d i4)) (4613937818241073152 : UInt64))), .second, .val (.double (FP.ddiv (FP.l2d ((((i1.toInt64) + (i2.toInt64)) + (i3.toInt64)) + (i4.toInt64))) (4613937818241073152 : UInt64))), .second] [(.double (FP.ddiv (FP.l2d ((((i1.toInt64) + (i2.toInt64)) + (i3.toInt64)) + (i4.toInt64))) (4613937818241073152 : UInt64))), (.double (FP.ddiv (FP.dadd (FP.dadd (FP.dadd (FP.dadd (0 : UInt64) (FP.i2d i1)) (FP.i2d i2)) (FP.i2d i3)) (FP.i2d i4)) (4613937818241073152 : UInt64)))]))
    refine own_st (fun t k => XS.dcmpS X85.here hx rfl (hb hby at_177) rfl (v := (0 : Int32)) (dcmpV_eq (congrArg (fun z => FP.ddiv z (4613937818241073152 : UInt64)) e4) pnq _) k) ?_
    show own_Run p e below s _ _ _ (T85.setTop (mkF m 178 #[.val (.int i0), .val (.int i1), .val (.int i2), .val (.int i3), .val (.int i4), .val (.int (4 : Int32)), .val (.ref b64), .val (.long ((((i1.toInt64) + (i2.toInt64)) + (i3.toInt64)) + (i4.toInt64))), .second, .val (.double (FP.ddiv (FP.dadd (FP.dadd (FP.dadd (FP.dadd (0 : UInt64) (FP.i2d i1)) (FP.i2d i2)) (FP.i2d i3)) (FP.i2d i4)) (4613937818241073152 : UInt64))), .second, .val (.double (FP.ddiv (FP.l2d ((((i1.toInt64) + (i2.toInt64)) + (i3.toInt64)) + (i4.toInt64))) (4613937818241073152 : UInt64))), .second] [(.int (0 : Int32))]))
    refine own_st (fun t k => XS.ifNo X85.here hx rfl (hb hby at_178) rfl ((if0 _ _).trans (teq (by decide : (0 : Int32) = (0 : Int32))).2) k) ?_
    show own_Run p e below s _ _ _ (T85.setTop (mkF m 181 #[.val (.int i0), .val (.int i1), .val (.int i2), .val (.int i3), .val (.int i4), .val (.int (4 : Int32)), .val (.ref b64), .val (.long ((((i1.toInt64) + (i2.toInt64)) + (i3.toInt64)) + (i4.toInt64))), .second, .val (.double (FP.ddiv (FP.dadd (FP.dadd (FP.dadd (FP.dadd (0 : UInt64) (FP.i2d i1)) (FP.i2d i2)) (FP.i2d i3)) (FP.i2d i4)) (4613937818241073152 : UInt64))), .second, .val (.double (FP.ddiv (FP.l2d ((((i1.toInt64) + (i2.toInt64)) + (i3.toInt64)) + (i4.toInt64))) (4613937818241073152 : UInt64))), .second] []))
    refine own_st (fun t k => XS.iconst X85.here hx rfl (hb hby at_181) k) ?_
    show own_Run p e below s _ _ _ (T85.setTop (mkF m 182 #[.val (.int i0), .val (.int i1), .val (.int i2), .val (.int i3), .val (.int i4), .val (.int (4 : Int32)), .val (.ref b64), .val (.long ((((i1.toInt64) + (i2.toInt64)) + (i3.toInt64)) + (i4.toInt64))), .second, .val (.double (FP.ddiv (FP.dadd (FP.dadd (FP.dadd (FP.dadd (0 : UInt64) (FP.i2d i1)) (FP.i2d i2)) (FP.i2d i3)) (FP.i2d i4)) (4613937818241073152 : UInt64))), .second, .val (.double (FP.ddiv (FP.l2d ((((i1.toInt64) + (i2.toInt64)) + (i3.toInt64)) + (i4.toInt64))) (4613937818241073152 : UInt64))), .second] [(.int (1 : Int32))]))
    refine own_st (fun t k => XS.goto X85.here hx rfl (pc0 := 182) (pc' := 186) rfl (hb hby at_182) (by decide) (by decide) k) ?_
    show own_Run p e below s _ _ _ (T85.setTop (mkF m 186 #[.val (.int i0), .val (.int i1), .val (.int i2), .val (.int i3), .val (.int i4), .val (.int (4 : Int32)), .val (.ref b64), .val (.long ((((i1.toInt64) + (i2.toInt64)) + (i3.toInt64)) + (i4.toInt64))), .second, .val (.double (FP.ddiv (FP.dadd (FP.dadd (FP.dadd (FP.dadd (0 : UInt64) (FP.i2d i1)) (FP.i2d i2)) (FP.i2d i3)) (FP.i2d i4)) (4613937818241073152 : UInt64))), .second, .val (.double (FP.ddiv (FP.l2d ((((i1.toInt64) + (i2.toInt64)) + (i3.toInt64)) + (i4.toInt64))) (4613937818241073152 : UInt64))), .second] [(.int (1 : Int32))]))
    exact own_ret X85 hx hlk (t := .boolean) hret rfl (Or.inl ⟨rfl, by simp, _, rfl⟩) (hb hby at_186) (by decide) (by decide) ⟨rfl, N85⟩
set_option maxRecDepth 65536 in
set_option maxHeartbeats 40000000 in
theorem own_comes_1 {Post : Tables → Env → Array Value → State → Outcome → State → Prop} (hpost : ∀ tb e args s v u, (limb_1_1.after args s (.returned v) u = true ∧ limb_1_2.after args s (.returned v) u = true ∧ True) → FrameEnd s (.returned v) u (Jvm.fieldLocs frame_1_writes args s ++ Jvm.arrayLocs frame_1_arrays args s ++ Jvm.staticLocs frame_1_statics s) 16 128 → Post tb e args s (.returned v) u) :
    ArmFor flags0 classFile x code maxLocals ret World_1 tables_1 room_1 Calls_1 rest_1 Pre_1 Post := by
  intro l hfl _ _ p e ha hc hk s m args below hf hA hF happ hP
  obtain ⟨hcalls, hrest, hpre⟩ := hP
  obtain ⟨-, -, -, hnamed, -, -, -, hat⟩ := (Spec.applies_iff hf).mp happ
  obtain ⟨hg, hn⟩ := and_e (Cond.before_iff.mp (show (Jvm.Cond.and given_1 narrow_1).before args s = true from hpre))
  obtain ⟨gv1, gv2⟩ := and_e hg
  obtain ⟨gv3, gv4⟩ := and_e gv2
  obtain ⟨gv5, gv6⟩ := and_e gv4
  obtain ⟨gv7, gv8⟩ := and_e gv6
  obtain ⟨gv9, gv10⟩ := and_e gv8
  obtain ⟨w0, w1, w2, w3, w4, rfl⟩ : ∃ w0 w1 w2 w3 w4 : Value, args = #[w0, w1, w2, w3, w4] := by
    have hs : args.size = 5 := by simpa [Cond.value, given_1] using gv1
    obtain ⟨L⟩ := args
    match L, hs with
    | [w0, w1, w2, w3, w4], _ => exact ⟨w0, w1, w2, w3, w4, rfl⟩
  have hw := fun d (hd : d ∈ tables_1) => atoms_spec (ws := Jvm.Cond.code x code maxLocals ret :: tables_1) hat d (List.mem_cons_of_mem _ hd)
  have hfit : Fit s := fun {y c} hc i hi => by
    obtain ⟨ha, rfl⟩ := Array.getElem?_eq_some_iff.mp hc
    have q := List.all_eq_true.mp ((Array.all_eq_true_iff_forall_mem.mp hF) _ (Array.getElem_mem ha)) i (List.mem_range.mpr hi)
    simpa [Array.getElem?_eq_getElem hi] using q
  obtain ⟨i0, ei0⟩ := is_v gv3
  obtain rfl : w0 = (.int i0) := Option.some.inj ei0
  obtain ⟨i1, ei1⟩ := is_v gv5
  obtain rfl : w1 = (.int i1) := Option.some.inj ei1
  obtain ⟨i2, ei2⟩ := is_v gv7
  obtain rfl : w2 = (.int i2) := Option.some.inj ei2
  obtain ⟨i3, ei3⟩ := is_v gv9
  obtain rfl : w3 = (.int i3) := Option.some.inj ei3
  obtain ⟨i4, ei4⟩ := is_v gv10
  obtain rfl : w4 = (.int i4) := Option.some.inj ei4
  obtain ⟨n, o, h1, h2, h3, _, L, rfl, ⟨rfl, N⟩, hq⟩ := own_rm0 l s _ hw tables_1 i0 i1 i2 i3 i4 s.heap s.heap.size (Nat.le_refl _) (Old.start s)  p e ha hc hk s m _ below hf ((Spec.applies_iff_loose hf).mp happ).1 ⟨rfl, State.Warmed39.refl s, rfl⟩ trivial
  refine ⟨n, _, h1, h2, h3, hpost _ _ _ _ _ _ ⟨Cond.after_iff.mpr rfl, Cond.after_iff.mpr (eq_i res_at (Term.int_eval (1)) rfl), trivial⟩ ⟨hq.1, hq.2.1, (hq.2.2.sift fun y hy => Or.inr (N y hy)).mono (by decide) (by decide)⟩⟩
theorem main_1_1 : Claimed_1_1 := own_comes_1 fun _ _ _ _ _ _ h hF => ⟨h.1, hF⟩
theorem main_1_2 : Claimed_1_2 := own_comes_1 fun _ _ _ _ _ _ h hF => ⟨h.2.1, hF⟩
end Jvm.Pilot.@@N@@
namespace Jvm.Pilot.@@N@@
open Jvm Jvm.ClassFile Sem Op Lib Jvm.Free Jvm.Stand Jvm.Pilot.@@N@@.Jvm.D
/-! MADE BY PROGRAM (witnessworld.py) out of the Statement's table words and the real class files: 11 classes; the members and pool entries that the words name. The judged class is class 1, her method 1. -/
namespace start1
open Jvm.ClassFile
def u (s : String) : CpInfo := .utf8 (stringToUtf16 s)
/-- a pool by its gaps: so many unusable entries, then the entry; so many at the end -/
def gap : Nat → List CpInfo → List CpInfo
  | 0, r => r
  | n + 1, r => .unusable :: gap n r
def poolList (es : List (Nat × CpInfo)) (last : Nat) : List CpInfo := es.foldr (fun e r => gap e.1 (e.2 :: r)) (gap last [])
def pool (es : List (Nat × CpInfo)) (last : Nat) : Array CpInfo := ⟨poolList es last⟩
def fileOf (pool : Array CpInfo) (this : Nat) (attrs : Array Attribute := #[]) (ms : Array MethodInfo := #[]) (fl : Nat := 33) (sup : Nat := 0) (ifs : Array Nat := #[]) (fds : Array FieldInfo := #[]) : ClassFile where
  minorVersion := 0
  majorVersion := 65
  constantPool := pool
  accessFlags := fl
  thisClass := this
  superClass := sup
  interfaces := ifs
  fields := fds
  methods := ms
  attributes := attrs
def plain (name : String) (sup : Option ClassId) : Class where
  name := name
  kind := .ordinary
  loader := none
  accessFlags := 33
  super := sup
  interfaces := #[]
  cf := none
  fields := #[]
  methods := #[]
  instanceTypes := #[]
  staticTypes := #[]
  resolved := #[]
  callSites := []
  init := .initialized
  statics := none
  mirror := none

def pool0 : Array CpInfo := pool [(5, u "<init>"), (0, u "()V"), (1, .class_ 10), (1, u "java/lang/Object")] 113

def k0m0 : Method := { name := "<init>", desc := "()V", sig := { parameters := [], returnType := none }, accessFlags := 1, code := none }
/-- java/lang/Object -/
def k0 : Class := { plain "java/lang/Object" none with
  accessFlags := 33
  interfaces := #[]
  cf := some (fileOf pool0 8 #[] #[{ accessFlags := 1, nameIndex := 5, descriptorIndex := 6, attributes := #[] }] 33 0 #[] #[])
  fields := #[]
  methods := #[k0m0]
  instanceTypes := #[]
  staticTypes := #[]
  resolved := Array.replicate 124 none
  statics := none }

def pool1 : Array CpInfo := pool [(2, .class_ 4), (1, u "java/lang/Object"), (0, u "<init>"), (0, u "()V"), (0, .integer 2147483647), (0, .methodref 9 10), (0, .class_ 11), (0, .nameAndType 12 13), (0, u "com/example/triflux/triflux/eval/Accuracy"), (0, u "triangles"), (0, u "([D)D"), (0, .double 4613937818241073152), (1, .class_ 17), (0, u "com/example/triflux/triflux/eval/AccuracyTrianglesPinLaw"), (2, u "law"), (0, u "(IIIII)Z")] 5

def k1m0 : Method := { name := "<init>", desc := "()V", sig := { parameters := [], returnType := none }, accessFlags := 1, code := none }
def k1c1 : Code := { maxStack := 5, maxLocals := 13, code := code, exceptionTable := #[], attributes := #[] }
def k1m1 : Method := { name := "law", desc := "(IIIII)Z", sig := { parameters := [.int, .int, .int, .int, .int], returnType := some .boolean }, accessFlags := 9, code := some k1c1 }
/-- com/example/triflux/triflux/eval/AccuracyTrianglesPinLaw -/
def k1 : Class := { plain "com/example/triflux/triflux/eval/AccuracyTrianglesPinLaw" (some 0) with
  accessFlags := 49
  interfaces := #[]
  cf := some (fileOf pool1 16 #[] #[{ accessFlags := 1, nameIndex := 5, descriptorIndex := 6, attributes := #[] }, { accessFlags := 9, nameIndex := 20, descriptorIndex := 21, attributes := #[] }] 49 2 #[] #[])
  fields := #[]
  methods := #[k1m0, k1m1]
  instanceTypes := #[]
  staticTypes := #[]
  resolved := Array.replicate 27 none
  statics := none }

def pool2 : Array CpInfo := pool [(2, .class_ 4), (1, u "java/lang/Object"), (22, u "[J"), (3, .class_ 33), (1, u "com/example/triflux/triflux/eval/Accuracy"), (0, u "nodes"), (2, u "[D"), (2, u "truth"), (6, u "truthRanks"), (2, u "triangles"), (0, u "([D)D"), (2, u "D"), (0, .double 4613937818241073152)] 116

def k2c0 : Code := { maxStack := 4, maxLocals := 8, code := prog_47_method_4_code, exceptionTable := #[], attributes := #[] }
def k2m0 : Method := { name := "triangles", desc := "([D)D", sig := { parameters := [(.array .double)], returnType := some .double }, accessFlags := 9, code := some k2c0 }
/-- com/example/triflux/triflux/eval/Accuracy -/
def k2 : Class := { plain "com/example/triflux/triflux/eval/Accuracy" (some 0) with
  accessFlags := 49
  interfaces := #[]
  cf := some (fileOf pool2 31 #[] #[{ accessFlags := 9, nameIndex := 50, descriptorIndex := 51, attributes := #[] }] 49 2 #[] #[{ accessFlags := 18, nameIndex := 34, descriptorIndex := 27, attributes := #[] }, { accessFlags := 18, nameIndex := 40, descriptorIndex := 37, attributes := #[] }, { accessFlags := 18, nameIndex := 47, descriptorIndex := 37, attributes := #[] }, { accessFlags := 18, nameIndex := 50, descriptorIndex := 54, attributes := #[] }])
  fields := #[{ name := "nodes", type := (.array .long), accessFlags := 18, slot := 0, constantValue := 0 }, { name := "truth", type := (.array .double), accessFlags := 18, slot := 1, constantValue := 0 }, { name := "truthRanks", type := (.array .double), accessFlags := 18, slot := 2, constantValue := 0 }, { name := "triangles", type := .double, accessFlags := 18, slot := 3, constantValue := 0 }]
  methods := #[k2m0]
  instanceTypes := #[(.array .long), (.array .double), (.array .double), .double]
  staticTypes := #[]
  resolved := Array.replicate 172 none
  statics := none }

def pool3 : Array CpInfo := pool [(1, u "java/lang/Cloneable"), (0, .class_ 1), (0, u "java/lang/Object"), (0, .class_ 3)] 3

/-- java/lang/Cloneable -/
def k3 : Class := { plain "java/lang/Cloneable" (some 0) with
  accessFlags := 1537
  interfaces := #[]
  cf := some (fileOf pool3 2 #[] #[] 1537 4 #[] #[])
  fields := #[]
  methods := #[]
  instanceTypes := #[]
  staticTypes := #[]
  resolved := Array.replicate 8 none
  statics := none }

def pool4 : Array CpInfo := pool [(1, u "java/io/Serializable"), (0, .class_ 1), (0, u "java/lang/Object"), (0, .class_ 3)] 3

/-- java/io/Serializable -/
def k4 : Class := { plain "java/io/Serializable" (some 0) with
  accessFlags := 1537
  interfaces := #[]
  cf := some (fileOf pool4 2 #[] #[] 1537 4 #[] #[])
  fields := #[]
  methods := #[]
  instanceTypes := #[]
  staticTypes := #[]
  resolved := Array.replicate 8 none
  statics := none }

/-- the primitive byte -/
def k5 : Class := { plain "byte" none with kind := .primitive 'B', accessFlags := 0x411 }
/-- [B -/
def k6 : Class := { plain "[B" (some 0) with kind := .array 5 .byte, interfaces := #[3, 4], accessFlags := 1041 }

/-- the primitive double -/
def k7 : Class := { plain "double" none with kind := .primitive 'D', accessFlags := 0x411 }
/-- [D -/
def k8 : Class := { plain "[D" (some 0) with kind := .array 7 .double, interfaces := #[3, 4], accessFlags := 1041 }

/-- the primitive int -/
def k9 : Class := { plain "int" none with kind := .primitive 'I', accessFlags := 0x411 }
/-- [I -/
def k10 : Class := { plain "[I" (some 0) with kind := .array 9 .int, interfaces := #[3, 4], accessFlags := 1041 }

def heap : Heap := #[]
def classes : Array Class := #[k0, k1, k2, k3, k4, k5, k6, k7, k8, k9, k10]
def interned : List (Array UInt16 × Addr) := []
def slotsUsed : Nat := 0
def theMethod : MethodId := ⟨1, 1⟩
def args0 : Array Value := #[.int 3, .int 5, .int 3, .int 2, .int 4]
def aboutOver (below : List Frame) : State where
  vm := { classes := classes, interned := interned.toArray }
  heap := heap
  slotsUsed := slotsUsed
  threads := #[{ frames := .invoking theMethod args0 :: below }]
def below0 : List Frame := [.native { method := ⟨0, 0⟩, args := #[] }]
def about1 : State := aboutOver below0
def p0 : Program := .bare "" "" ""
def e0 : Env := launch0.env 0 0 0
theorem w_frames : about1.frames = Frame.invoking theMethod args0 :: below0 := rfl
set_option maxRecDepth 65536 in
theorem w_args : argsFit about1.vm theMethod args0 = true := by decide +kernel
set_option maxRecDepth 65536 in
theorem w_heap : heapFits about1 = true := by decide +kernel
set_option maxRecDepth 65536 in
theorem w_runnable : about1.curStatus? = some .runnable := by decide +kernel
set_option maxRecDepth 65536 in
theorem w_alone : about1.alone = true := by decide +kernel
set_option maxRecDepth 65536 in
theorem w_named : about1.methodNamed? x = some theMethod := by decide +kernel
set_option maxRecDepth 65536 in
theorem w_hears : about1.hears theMethod below0 = true := by decide +kernel
set_option maxRecDepth 65536 in
theorem w_ripe : about1.ripe theMethod args0 below0 = true := by decide +kernel
theorem w_running : about1.status = .running := rfl
set_option maxRecDepth 65536 in
theorem w_room : about1.hasRoom e0.platform room_1 = true :=
  launch0.hasRoom_least _ room_1 (by decide +kernel) (by decide +kernel) (by decide +kernel) (by decide +kernel) (by decide +kernel) (by decide +kernel)
theorem allAtoms_all (ts : List Jvm.Cond) (a : Array Jvm.Value) (st : Jvm.State) : (allAtoms ts).before a st = ts.all (fun c => c.before a st) := by
  induction ts with
  | nil => rfl
  | cons c t ih =>
    show (Jvm.Cond.and c (allAtoms t)).before a st = _
    rw [Jvm.Cond.before_and, ih, List.all_cons]
def words1 : List Jvm.Cond := Jvm.Cond.code x code maxLocals ret :: tables_1
/-- a 'code' word, met by the world's own term for the bytes: nothing is compared byte by byte -/
theorem code_word {y : MethodName} {bytes : ByteArray} {mx : Nat} {rt : Option FieldType} {a : Array Value} {s : State} {m : MethodId} {meth : Method} {c : Code} (h1 : s.methodNamed? y = some m) (h2 : s.vm.method? m = some meth) (h3 : meth.code = some c) (h4 : c.code = bytes)
    (h5 : (c.maxLocals == mx && c.exceptionTable.isEmpty && decide (c.maxStack ≤ mostOperands) && decide (meth.sig.returnType = rt) && !meth.locks && decide (parseMethodDescriptor y.desc = some meth.sig)) = true) : (Jvm.Cond.code y bytes mx rt).before a s = true := by
  simp only [Bool.and_eq_true, beq_iff_eq, Bool.not_eq_true', decide_eq_true_eq] at h5
  obtain ⟨⟨⟨⟨⟨g1, g2⟩, g3⟩, g4⟩, g5⟩, g6⟩ := h5
  simp [Cond.before, Cond.holds, Cond.value, h1, h2, h3, h4, g1, g2, g3, g4, g5, g6]
def isCode : Jvm.Cond → Bool
  | .code _ _ _ _ => true
  | _ => false
theorem all_split {L : List Jvm.Cond} {P : Jvm.Cond → Bool} (h1 : L.all (fun c => isCode c || P c) = true) (h2 : ∀ c ∈ L.filter isCode, P c = true) : L.all P = true := by
  refine List.all_eq_true.mpr fun c hc => ?_
  have h := List.all_eq_true.mp h1 c hc
  rcases Bool.eq_false_or_eq_true (isCode c) with hi | hi
  · exact h2 c (List.mem_filter.mpr ⟨hc, hi⟩)
  · simpa [hi] using h
set_option maxRecDepth 65536 in
theorem w_c0 : (Jvm.Cond.code x code maxLocals ret).before args0 about1 = true := code_word (m := ⟨1, 1⟩) (meth := k1m1) (c := k1c1) (by decide +kernel) rfl rfl rfl (by decide +kernel)
set_option maxRecDepth 65536 in
theorem w_c1 : (Jvm.Cond.code ({ cls := "com/example/triflux/triflux/eval/Accuracy", name := "triangles", desc := "([D)D" } : Jvm.MethodName) prog_47_method_4_code (8 : Nat) (Option.some Jvm.ClassFile.FieldType.double)).before args0 about1 = true := code_word (m := ⟨2, 0⟩) (meth := k2m0) (c := k2c0) (by decide +kernel) rfl rfl rfl (by decide +kernel)
def codes1 : List Jvm.Cond := [Jvm.Cond.code x code maxLocals ret, Jvm.Cond.code ({ cls := "com/example/triflux/triflux/eval/Accuracy", name := "triangles", desc := "([D)D" } : Jvm.MethodName) prog_47_method_4_code (8 : Nat) (Option.some Jvm.ClassFile.FieldType.double)]
set_option maxRecDepth 65536 in
theorem codes_eq : words1.filter isCode = codes1 := rfl
theorem w_codes : ∀ c ∈ words1.filter isCode, c.before args0 about1 = true := by
  rw [codes_eq]
  intro c hc
  simp only [codes1, List.mem_cons, List.not_mem_nil, or_false] at hc
  rcases hc with rfl | rfl
  · exact w_c0
  · exact w_c1
set_option maxRecDepth 65536 in
theorem w_t1 : words1.all (fun c => isCode c || c.before args0 about1) = true := by decide +kernel
theorem w_tables : (allAtoms (Jvm.Cond.code x code maxLocals ret :: tables_1)).before args0 about1 = true := by
  rw [allAtoms_all]
  show words1.all (fun c => c.before args0 about1) = true
  refine all_split ?_ w_codes
  rw [w_t1]
set_option maxRecDepth 65536 in
theorem w_case : (Jvm.Cond.and given_1 narrow_1).before args0 about1 = true := by decide +kernel
theorem w_applies : (headSpec (Jvm.Cond.code x code maxLocals ret :: tables_1) room_1).applies x e0.platform about1 = true :=
  (Spec.applies_iff w_frames).mpr ⟨w_running, w_runnable, w_alone, w_named, w_hears, w_ripe, w_room, w_tables⟩
theorem atStart : AtStart classFile x code maxLocals ret World_1 tables_1 room_1 Calls_1 rest_1 Pre_1 launch0 p0 e0 about1 theMethod args0 below0 :=
  ⟨lists_1, trivial, launch0.admits_env _ _ _, launch0.least_env, fairChoices_fair.cas, fairChoices_fair.clock, w_frames, w_args, w_heap, w_applies, trivial, trivial, w_case⟩
end start1
theorem witness_1 : WitnessClaimed_1 := ⟨start1.p0, start1.e0, start1.about1, start1.theMethod, start1.args0, start1.below0, start1.atStart⟩
end Jvm.Pilot.@@N@@
