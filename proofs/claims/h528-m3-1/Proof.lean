import JvmDerived
import JvmDerived.Pilot.@@N@@Statement
import JvmDerived.Pilot.@@N@@Code
set_option linter.unusedVariables false
set_option linter.unusedSimpArgs false
namespace Jvm.Pilot.@@N@@
open Jvm Jvm.ClassFile Sem Op Lib Jvm.Free Jvm.Stand Jvm.LawKit Jvm.RoadKit Bundle Jvm.Pilot.@@N@@.Jvm.D
def own_Run (p : Program) (e : Env) (below : List Frame) (s : State) (Q : Option Value → Heap → List Loc → Prop) (ck sk : Nat) (U : State) : Prop :=
  ∃ s₂ o, Steps p.tables e below U s₂ ∧ s₂.status = .running ∧ Ended s₂ below o ∧ ∃ v L, o = .returned v ∧ Q v s₂.heap L ∧ FrameEnd s o s₂ L ck sk
section OwnLayer
variable {p : Program} {l : Launch} {e : Env} {R : Room} {s : State} {m : MethodId} {args : Array Value} {below : List Frame} {meth : Method} {c : Code} {T : State} {locs : List Loc} {cells slots : Nat} {Z : State} {a0 : Array Value} {h : Heap} {Q : Option Value → Heap → List Loc → Prop} {ck sk : Nat}
theorem own_st {U U' : State} (hh : ∀ t, Steps p.tables e below U' t → Steps p.tables e below U t) (K : own_Run p e below s Q ck sk U') : own_Run p e below s Q ck sk U := by
  obtain ⟨s2, o, h1, r⟩ := K
  exact ⟨s2, o, hh _ h1, r⟩
theorem own_topI {pc : Nat} {Ls : Array Slot} {st : List Value} {v v' : Int32} (hv : v = v') (K : own_Run p e below s Q ck sk (T.setTop (mkF m pc Ls (.int v' :: st)))) : own_Run p e below s Q ck sk (T.setTop (mkF m pc Ls (.int v :: st))) := hv ▸ K
theorem own_topJ {pc : Nat} {Ls : Array Slot} {st : List Value} {v v' : Int64} (hv : v = v') (K : own_Run p e below s Q ck sk (T.setTop (mkF m pc Ls (.long v' :: st)))) : own_Run p e below s Q ck sk (T.setTop (mkF m pc Ls (.long v :: st))) := hv ▸ K
theorem own_topD {pc : Nat} {Ls : Array Slot} {st : List Value} {v v' : UInt64} (hv : v = v') (K : own_Run p e below s Q ck sk (T.setTop (mkF m pc Ls (.double v' :: st)))) : own_Run p e below s Q ck sk (T.setTop (mkF m pc Ls (.double v :: st))) := hv ▸ K
theorem own_ret (X : Stand p l e R s m args below meth c T locs cells slots) (hx : p.tables.exec = Jvm.exec) (hlk : meth.locks = false) {pc : Nat} {Ls : Array Slot} {w : Value} {t : FieldType} {i : Instr} {rest : List Value} (hret : meth.sig.returnType = some t) (hn : narrow t w = w)
    (hi : (i = .ireturn ∧ (t = .int ∨ t = .boolean ∨ t = .byte ∨ t = .char ∨ t = .short) ∧ ∃ z, w = .int z) ∨ (i = .lreturn ∧ t = .long ∧ ∃ z, w = .long z) ∨ (i = .dreturn ∧ t = .double ∧ ∃ z, w = .double z) ∨ (i = .freturn ∧ t = .float ∧ ∃ z, w = .float z) ∨ (i = .areturn ∧ t.isReference = true ∧ w.isRef = true))
    (hd : decode c.code pc = .ok (i, 1)) (hc : cells ≤ ck) (hs : slots ≤ sk) (hq : Q (some w) T.heap locs) : own_Run p e below s Q ck sk (T.setTop (mkF m pc Ls (w :: rest))) := by
  obtain ⟨fs, hr, hrun, hended, hW, hsame⟩ := X.leave (v := some w) (fun q => by rw [hret] at q; cases q) hlk
  exact ⟨_, _, retOut X hx hret hn hi hd hr, hrun, hended, _, _, rfl, hq, ⟨_, rfl⟩, hW, hsame.mono hc hs⟩
theorem own_retV (X : Stand p l e R s m args below meth c T locs cells slots) (hx : p.tables.exec = Jvm.exec) (hlk : meth.locks = false) {pc : Nat} {Ls : Array Slot} (hret : meth.sig.returnType = none)
    (hd : decode c.code pc = .ok (.return_, 1)) (hc : cells ≤ ck) (hs : slots ≤ sk) (hq : Q none T.heap locs) : own_Run p e below s Q ck sk (T.setTop (mkF m pc Ls [])) := by
  obtain ⟨fs, hr, hrun, hended, hW, hsame⟩ := X.leave (v := none) (fun _ => rfl) hlk
  exact ⟨_, _, X.returnOut hx hret hd hr, hrun, hended, _, _, rfl, hq, ⟨_, rfl⟩, hW, hsame.mono hc hs⟩
theorem own_body {y : MethodName} {bytes : ByteArray} {maxL : Nat} {ret : Option FieldType} {ws : List Jvm.Cond} {rm : Room} {as' : Array Value} {h0 : Heap} (hpl : plainFor y = true)
    (hbody : ∀ (p : Program) (e : Env) (s : State) (m : MethodId) (below : List Frame) (meth : Method) (c : Code) (s₁ : State), p.tables.exec = Jvm.exec → c.code = bytes → c.maxLocals = maxL → Z.Warmed39 s.vm → s.vm.findClass y.cls = some m.cls → meth.name = y.name → meth.sig.returnType = ret → meth.locks = false → Stand p l e rm s m as' below meth c s₁ [] 0 0 → s₁.heap = h0 → own_Run p e below s Q rm.cells rm.slots (s₁.setTop (entryFrame m as' maxL))) :
    MetFree l y (head1 (Jvm.Cond.code y bytes maxL ret :: ws) rm) (fun a U => a = as' ∧ Z.Warmed39 U.vm ∧ U.heap = h0) (fun _ _ _ _ _ => True) (fun _ U o U' => ∃ v L, o = .returned v ∧ Q v U'.heap L ∧ FrameEnd U o U' L rm.cells rm.slots) := by
  refine MetFree.of_bodySF hpl hisR ?_
  intro p e s m args below meth c s₁ Bd hml0 hP hK
  obtain ⟨rfl, hZ, hh⟩ := hP
  exact hbody p e s m below meth c s₁ Bd.exec Bd.bytes hml0 hZ (findClass_of_methodNamed Bd.named) (name_of_methodNamed Bd.named Bd.method).1 Bd.returns Bd.notSynchronized (Stand.of_body Bd) (by rw [← hh, Bd.state]; rfl)
theorem own_callI (X : Stand p l e R s m args below meth c T locs cells slots) (hx : p.tables.exec = Jvm.exec) (hZ : Z.Warmed39 s.vm) {own : String} {idx : Nat} {y : MethodName} (hy1 : y.name = "<init>") (hown : s.vm.findClass own = some m.cls) (w1 : (Jvm.Cond.methodLink own idx y).before a0 Z = true) (w2 : (Jvm.Cond.instanceMethod y).before a0 Z = true)
    {bytes : ByteArray} {maxL : Nat} (w3 : (Jvm.Cond.code y bytes maxL none).before a0 Z = true) (wz : (Jvm.Cond.initialized y.cls).before a0 Z = true) (hy : y.cls ≠ "java/lang/invoke/MethodHandle" ∧ y.cls ≠ "java/lang/invoke/VarHandle") (eT : T.heap = h) {rm : Room} {Qc : Option Value → Heap → List Loc → Prop} {a : Addr} {argsL rest : List Value}
    (hM : MetFree l y (head1 [Jvm.Cond.code y bytes maxL none] rm) (fun b U => b = (Value.ref a :: argsL).toArray ∧ Z.Warmed39 U.vm ∧ U.heap = h) (fun _ _ _ _ _ => True) (fun _ U o U' => ∃ v L, o = .returned v ∧ Qc v U'.heap L ∧ FrameEnd U o U' L rm.cells rm.slots))
    {W : Nat} (hf : rm.frames + 1 ≤ R.frames) (hl : W + (maxL + 11) + rm.locals ≤ R.locals) {pc : Nat} {Ls : Array Slot} {st : List Value} (hsize : Ls.size = c.maxLocals) (hlen : ∀ sig, parseMethodDescriptor y.desc = some sig → argsL.length = sig.parameters.length) (hst : st = argsL.reverse ++ .ref a :: rest) (hW : (rest.map fun v => v.category).sum ≤ W) (hd : decode c.code pc = .ok (.invokespecial idx, 3)) (hc : cells + rm.cells ≤ R.cells) (hs : slots + rm.slots ≤ R.slots)
    (K : ∀ (T' : State) (v : Option Value) (L : List Loc), Stand p l e R s m args below meth c T' (locs ++ L) (cells + rm.cells) (slots + rm.slots) → Qc v T'.heap L → own_Run p e below s Q ck sk (T'.setTop (mkF m (pc + 3) Ls (v.toList ++ rest)))) :
    own_Run p e below s Q ck sk (T.setTop (mkF m pc Ls st)) := by
  obtain ⟨v, _, ⟨T', L', k', n'⟩, -, X', ⟨Lc, hQ, hl', hk', hn'⟩, st'⟩ := X.specialBack hx (y := y) hy1 hown (mvT hZ w1) (mvT hZ w2) (mvT hZ w3) hy (backOf (W := W) hM hZ w3 wz hf hl) (g := mkF m pc Ls st) rfl hsize (Steps.refl _) (a := a) (argsL := argsL) (rest := rest) hlen hst (by show 2 * 0 + _ ≤ _; omega) hd (fun _ _ => ⟨rfl, eT, hc, hs⟩)
  dsimp only [Pt.U, Pt.locs, Pt.cells, Pt.slots] at X' hl' hk' hn' st' hQ
  subst hl' hk' hn'
  exact own_st (fun t k => st'.trans k) (K T' v Lc X' hQ)
theorem own_callV (X : Stand p l e R s m args below meth c T locs cells slots) (hx : p.tables.exec = Jvm.exec) (hZ : Z.Warmed39 s.vm) {own C : String} {idx : Nat} {y : MethodName} (hown : s.vm.findClass own = some m.cls) (w1 : (Jvm.Cond.methodLink own idx y).before a0 Z = true) (w2 : (Jvm.Cond.declares y).before a0 Z = true) (w3 : (Jvm.Cond.selects C y y).before a0 Z = true) (w4 : (Jvm.Cond.instanceMethod y).before a0 Z = true)
    {bytes : ByteArray} {maxL : Nat} {ret : Option FieldType} (w5 : (Jvm.Cond.code y bytes maxL ret).before a0 Z = true) (wz : (Jvm.Cond.initialized y.cls).before a0 Z = true) (hy : y.cls ≠ "java/lang/invoke/MethodHandle" ∧ y.cls ≠ "java/lang/invoke/VarHandle") (eT : T.heap = h) {a : Addr} (E : Exa Z h a C) {rm : Room} {Qc : Option Value → Heap → List Loc → Prop} {argsL rest : List Value}
    (hM : MetFree l y (head1 [Jvm.Cond.code y bytes maxL ret] rm) (fun b U => b = (Value.ref a :: argsL).toArray ∧ Z.Warmed39 U.vm ∧ U.heap = h) (fun _ _ _ _ _ => True) (fun _ U o U' => ∃ v L, o = .returned v ∧ Qc v U'.heap L ∧ FrameEnd U o U' L rm.cells rm.slots))
    {W : Nat} (hf : rm.frames + 1 ≤ R.frames) (hl : W + (maxL + 11) + rm.locals ≤ R.locals) {pc : Nat} {Ls : Array Slot} {st : List Value} (hsize : Ls.size = c.maxLocals) (hlen : ∀ sig, parseMethodDescriptor y.desc = some sig → argsL.length = sig.parameters.length) (hst : st = argsL.reverse ++ .ref a :: rest) (hW : (rest.map fun v => v.category).sum ≤ W) (hd : decode c.code pc = .ok (.invokevirtual idx, 3)) (hc : cells + rm.cells ≤ R.cells) (hs : slots + rm.slots ≤ R.slots)
    (K : ∀ (T' : State) (v : Option Value) (L : List Loc), Stand p l e R s m args below meth c T' (locs ++ L) (cells + rm.cells) (slots + rm.slots) → Qc v T'.heap L → own_Run p e below s Q ck sk (T'.setTop (mkF m (pc + 3) Ls (v.toList ++ rest)))) :
    own_Run p e below s Q ck sk (T.setTop (mkF m pc Ls st)) := by
  obtain ⟨cq, kq, qa, qb, qc⟩ := isOf hZ eT E
  obtain ⟨v, _, ⟨T', L', k', n'⟩, -, X', ⟨Lc, hQ, hl', hk', hn'⟩, st'⟩ := X.virtualBack hx (y := y) (z := y) hown (mvT hZ w1) (mvT hZ w2) (notFace_of_selects (args := #[]) (mvT hZ w3)) (mvT hZ w3) (mvT hZ w4) hy (backOf (W := W) hM hZ w5 wz hf hl) qa qc (g := mkF m pc Ls st) rfl hsize (Steps.refl _) (argsL := argsL) (rest := rest) hlen hst (by show 2 * 0 + _ ≤ _; omega) hd (fun _ _ => ⟨rfl, eT, hc, hs⟩)
  dsimp only [Pt.U, Pt.locs, Pt.cells, Pt.slots] at X' hl' hk' hn' st' hQ
  subst hl' hk' hn'
  exact own_st (fun t k => st'.trans k) (K T' v Lc X' hQ)
theorem own_callS (X : Stand p l e R s m args below meth c T locs cells slots) (hx : p.tables.exec = Jvm.exec) (hZ : Z.Warmed39 s.vm) {own : String} {idx : Nat} {y : MethodName} (hown : s.vm.findClass own = some m.cls) (w1 : (Jvm.Cond.methodLink own idx y).before a0 Z = true) (w2 : (Jvm.Cond.static y).before a0 Z = true)
    {bytes : ByteArray} {maxL : Nat} {ret : Option FieldType} (w5 : (Jvm.Cond.code y bytes maxL ret).before a0 Z = true) (wz : (Jvm.Cond.initialized y.cls).before a0 Z = true) (hy : y.cls ≠ "java/lang/invoke/MethodHandle" ∧ y.cls ≠ "java/lang/invoke/VarHandle") (eT : T.heap = h) {rm : Room} {Qc : Option Value → Heap → List Loc → Prop} {argsL rest : List Value}
    (hM : MetFree l y (head1 [Jvm.Cond.code y bytes maxL ret] rm) (fun b U => b = argsL.toArray ∧ Z.Warmed39 U.vm ∧ U.heap = h) (fun _ _ _ _ _ => True) (fun _ U o U' => ∃ v L, o = .returned v ∧ Qc v U'.heap L ∧ FrameEnd U o U' L rm.cells rm.slots))
    {W : Nat} (hf : rm.frames + 1 ≤ R.frames) (hl : W + (maxL + 11) + rm.locals ≤ R.locals) {pc : Nat} {Ls : Array Slot} {st : List Value} (hsize : Ls.size = c.maxLocals) (hlen : ∀ sig, parseMethodDescriptor y.desc = some sig → argsL.length = sig.parameters.length) (hst : st = argsL.reverse ++ rest) (hW : (rest.map fun v => v.category).sum ≤ W) (hd : decode c.code pc = .ok (.invokestatic idx, 3)) (hc : cells + rm.cells ≤ R.cells) (hs : slots + rm.slots ≤ R.slots)
    (K : ∀ (T' : State) (v : Option Value) (L : List Loc), Stand p l e R s m args below meth c T' (locs ++ L) (cells + rm.cells) (slots + rm.slots) → Qc v T'.heap L → own_Run p e below s Q ck sk (T'.setTop (mkF m (pc + 3) Ls (v.toList ++ rest)))) :
    own_Run p e below s Q ck sk (T.setTop (mkF m pc Ls st)) := by
  obtain ⟨v, _, ⟨T', L', k', n'⟩, -, X', ⟨Lc, hQ, hl', hk', hn'⟩, st'⟩ := Jvm.LawKit.callS X hx (y := y) hown (mvT hZ w1) (mvT hZ w2) (mvT hZ wz) (mvT hZ w5) hy (backOf (W := W) hM hZ w5 wz hf hl) (g := mkF m pc Ls st) rfl hsize (argsL := argsL) (rest := rest) hlen hst (by show 2 * 0 + _ ≤ _; omega) hd (fun _ _ => ⟨rfl, eT, hc, hs⟩)
  dsimp only [Pt.U, Pt.locs, Pt.cells, Pt.slots] at X' hl' hk' hn' st' hQ
  subst hl' hk' hn'
  exact own_st st' (K T' v Lc X' hQ)
end OwnLayer
section OwnNums
open Jvm.FP Jvm.Free.Fl
theorem own_b53 (x : Int32) : B53 x.toInt64 := by
  have := x.le_toInt; have := x.toInt_lt
  unfold B53; rw [Int32.toInt_toInt64]; omega
theorem own_i64lt (x y : Int32) : x.toInt64 < y.toInt64 ↔ x < y := by
  rw [Int64.lt_iff_toInt_lt, Int32.lt_iff_toInt_lt, Int32.toInt_toInt64, Int32.toInt_toInt64]
theorem own_i64eq (x y : Int32) : x.toInt64 = y.toInt64 ↔ x = y := by
  rw [← Int64.toInt_inj, ← Int32.toInt_inj, Int32.toInt_toInt64, Int32.toInt_toInt64]
theorem own_dcmp_lt (x y : Int32) (o : CmpOp) : cmpValue (FP.dcmp (FP.i2d x) (FP.i2d y)) o < 0 ↔ x < y := by
  rw [i2d_w, i2d_w, dcmpV_w (own_b53 x) (own_b53 y), lw_lt, own_i64lt]
theorem own_dcmp_gt (x y : Int32) (o : CmpOp) : 0 < cmpValue (FP.dcmp (FP.i2d x) (FP.i2d y)) o ↔ y < x := by
  rw [i2d_w, i2d_w, dcmpV_w (own_b53 x) (own_b53 y), lw_gt, own_i64lt]
theorem own_dcmp_eq (x y : Int32) (o : CmpOp) : cmpValue (FP.dcmp (FP.i2d x) (FP.i2d y)) o = 0 ↔ x = y := by
  rw [i2d_w, i2d_w, dcmpV_w (own_b53 x) (own_b53 y), lw_eq, own_i64eq]
theorem own_sub_lt (x y : Int32) : lcmpW (x.toInt64 - y.toInt64) 0 < 0 ↔ x < y := by
  have h := sub64 (own_b53 x) (own_b53 y)
  rw [lw_lt, Int64.lt_iff_toInt_lt, Int32.lt_iff_toInt_lt, h, Int32.toInt_toInt64, Int32.toInt_toInt64]
  have : (0 : Int64).toInt = 0 := rfl
  omega
end OwnNums
section OwnWords
theorem own_eqint {args : Array Value} {first s : State} {o : Option Outcome} {idx : List Nat} {t : Term} {k : Int32} (h : (Jvm.Cond.eq t (.int k)).value args first o s idx = some true) : t.eval args first o idx s = some (.int k) := by
  simp only [Cond.value, Term.eval] at h
  cases ht : t.eval args first o idx s with
  | none => simp [ht] at h
  | some x => cases x <;> simp [ht] at h ⊢; exact h
end OwnWords
section OwnInts
theorem own_prod {a b : Int} {A B : Nat} (ha : a.natAbs ≤ A) (hb : b.natAbs ≤ B) : (a * b).natAbs ≤ A * B := by
  rw [Int.natAbs_mul]; exact Nat.mul_le_mul ha hb
theorem own_shr (x : Int32) : (x >>> ((11 : Int32) &&& 31)).toInt.natAbs ≤ 1048576 := by
  rw [c_ishr x 11 11 (by decide)]
  have := x.le_toInt; have := x.toInt_lt
  show (x.toInt / (2048 : Nat)).natAbs ≤ _
  omega
end OwnInts
section OwnFl
open Jvm.FP Jvm.Free.Fl
abbrev own_zv (a : UInt64) : Int := Core.zval Core.b64 (Core.val64 a)
abbrev own_zm (a : UInt64) : Nat := Core.zmag Core.b64 (Core.val64 a)
theorem own_one : (Core.one64 : Nat) = 2 ^ 1074 := rfl
theorem own_finnn {a : UInt64} (h : Core.DFin a) : NoNaN64 a := (fin64_core.mpr h).noNaN
theorem own_finne {a : UInt64} (h : Core.DFin a) : Core.val64 a ≠ .nan := h.ne_nan
theorem own_addle {a b V : UInt64} (ha : Core.DFin a) (hb : Core.DFin b) (hV : Core.val64 V ≠ .nan) (h : own_zv a + own_zv b ≤ own_zv V) : own_zv (FP.dadd a b) ≤ own_zv V := by
  show Core.zval Core.b64 (Core.val64 (Core.dadd a b)) ≤ _
  rw [Core.val64_dadd]
  exact Core.sum_le Core.good_b64 ha hb (Core.val64_fits a) (Core.val64_fits b) (Core.val64_fits V) hV h
theorem own_addge {a b V : UInt64} (ha : Core.DFin a) (hb : Core.DFin b) (hV : Core.val64 V ≠ .nan) (h : own_zv V ≤ own_zv a + own_zv b) : own_zv V ≤ own_zv (FP.dadd a b) := by
  show _ ≤ Core.zval Core.b64 (Core.val64 (Core.dadd a b))
  rw [Core.val64_dadd]
  exact Core.sum_ge Core.good_b64 ha hb (Core.val64_fits a) (Core.val64_fits b) (Core.val64_fits V) hV h
theorem own_negfin {b : UInt64} (hb : Core.DFin b) : ∃ s c q, Core.negate (Core.val64 b) = .fin s c q := by
  obtain ⟨s, c, q, h⟩ := hb
  exact ⟨!s, c, q, by rw [h]; rfl⟩
theorem own_suble {a b V : UInt64} (ha : Core.DFin a) (hb : Core.DFin b) (hV : Core.val64 V ≠ .nan) (h : own_zv a - own_zv b ≤ own_zv V) : own_zv (FP.dsub a b) ≤ own_zv V := by
  show Core.zval Core.b64 (Core.val64 (Core.dsub a b)) ≤ _
  rw [Core.val64_dsub]
  exact Core.sum_le Core.good_b64 ha (own_negfin hb) (Core.val64_fits a) (Core.negate_fits (Core.val64_fits b)) (Core.val64_fits V) hV (by rw [Core.zval_negate]; exact h)
theorem own_subge {a b V : UInt64} (ha : Core.DFin a) (hb : Core.DFin b) (hV : Core.val64 V ≠ .nan) (h : own_zv V ≤ own_zv a - own_zv b) : own_zv V ≤ own_zv (FP.dsub a b) := by
  show _ ≤ Core.zval Core.b64 (Core.val64 (Core.dsub a b))
  rw [Core.val64_dsub]
  exact Core.sum_ge Core.good_b64 ha (own_negfin hb) (Core.val64_fits a) (Core.negate_fits (Core.val64_fits b)) (Core.val64_fits V) hV (by rw [Core.zval_negate]; exact h)
theorem own_pow2q : (2 ^ (Core.b64.qmin - 2 * Core.b64.qmin).toNat : Nat) = Core.one64 := by
  rw [show Core.b64.qmin - 2 * Core.b64.qmin = -Core.b64.qmin by omega]; exact Core.pow_qmin64
theorem own_mulle {a b V : UInt64} (ha : Core.DFin a) (hb : Core.DFin b) (hV : Core.val64 V ≠ .nan) (h : own_zv a * own_zv b ≤ own_zv V * (Core.one64 : Int)) : own_zv (FP.dmul a b) ≤ own_zv V := by
  obtain ⟨s, c, q, ea⟩ := ha
  obtain ⟨t, d, r, eb⟩ := hb
  have fa := Core.val64_fits a
  have fb := Core.val64_fits b
  rw [ea] at fa; rw [eb] at fb
  obtain ⟨h1, h2, h3⟩ := Core.product_units fa fb
  show Core.zval Core.b64 (Core.val64 (Core.dmul a b)) ≤ _
  rw [Core.val64_dmul, ea, eb, h1]
  refine Core.zval_round_le Core.good_b64 (Core.val64_fits V) hV (e0 := 2 * Core.b64.qmin) (by decide) h2 ?_
  rw [h3, Core.signed_xor, own_pow2q]
  simp only [own_zv, ea, eb] at h
  exact h
theorem own_mulge {a b V : UInt64} (ha : Core.DFin a) (hb : Core.DFin b) (hV : Core.val64 V ≠ .nan) (h : own_zv V * (Core.one64 : Int) ≤ own_zv a * own_zv b) : own_zv V ≤ own_zv (FP.dmul a b) := by
  obtain ⟨s, c, q, ea⟩ := ha
  obtain ⟨t, d, r, eb⟩ := hb
  have fa := Core.val64_fits a
  have fb := Core.val64_fits b
  rw [ea] at fa; rw [eb] at fb
  obtain ⟨h1, h2, h3⟩ := Core.product_units fa fb
  show _ ≤ Core.zval Core.b64 (Core.val64 (Core.dmul a b))
  rw [Core.val64_dmul, ea, eb, h1]
  refine Core.zval_round_ge Core.good_b64 (Core.val64_fits V) hV (e0 := 2 * Core.b64.qmin) (by decide) h2 ?_
  rw [h3, Core.signed_xor, own_pow2q]
  simp only [own_zv, ea, eb] at h
  exact h
theorem own_divdat {a b : UInt64} (ha : Core.DFin a) (hb : Core.DFin b) (hz : own_zm b ≠ 0) : ∃ (s t : Bool) (c d : Nat) (q r : Int), Core.val64 a = .fin s c q ∧ Core.val64 b = .fin t d r ∧ 0 < d ∧ Core.b64.qmin ≤ q ∧ Core.b64.qmin ≤ r ∧ Core.val64 (FP.ddiv a b) = Core.roundRatio Core.b64 (s != t) c d (q - r) := by
  obtain ⟨s, c, q, ea⟩ := ha
  obtain ⟨t, d, r, eb⟩ := hb
  have fa := Core.val64_fits a
  have fb := Core.val64_fits b
  rw [ea] at fa; rw [eb] at fb
  have hd : d ≠ 0 := fun q => hz (by unfold own_zm; rw [eb, q]; show Core.inUnits 0 _ _ = 0; unfold Core.inUnits; exact Nat.zero_mul _)
  refine ⟨s, t, c, d, q, r, ea, eb, Nat.pos_of_ne_zero hd, fa.2.1, fb.2.1, ?_⟩
  show Core.val64 (Core.ddiv a b) = _
  rw [Core.val64_ddiv, ea, eb]
  show (if d = 0 then _ else _) = _
  rw [if_neg hd]
theorem own_divunits {c d : Nat} {q r : Int} (hq : Core.b64.qmin ≤ q) (hr : Core.b64.qmin ≤ r) : 2 * Core.b64.qmin - r ≤ Core.b64.qmin ∧ 2 * Core.b64.qmin - r ≤ q - r ∧ Core.inUnits c (q - r) (2 * Core.b64.qmin - r) = Core.inUnits c q Core.b64.qmin * Core.one64 ∧ ∀ m : Nat, m * 2 ^ (Core.b64.qmin - (2 * Core.b64.qmin - r)).toNat * d = m * Core.inUnits d r Core.b64.qmin := by
  have hqm : Core.b64.qmin = -1074 := Core.qmin_b64
  refine ⟨by omega, by omega, ?_, fun m => ?_⟩
  · unfold Core.inUnits
    rw [show (q - r - (2 * Core.b64.qmin - r)).toNat = (q - Core.b64.qmin).toNat + (-Core.b64.qmin).toNat by omega, Nat.pow_add, Core.pow_qmin64, Nat.mul_assoc]
  · unfold Core.inUnits
    rw [show (Core.b64.qmin - (2 * Core.b64.qmin - r)).toNat = (r - Core.b64.qmin).toNat by omega, Nat.mul_assoc, Nat.mul_comm d]
theorem own_divle {a b V : UInt64} (ha : Core.DFin a) (hb : Core.DFin b) (hz : own_zm b ≠ 0) (hV : Core.val64 V ≠ .nan) (h : own_zm a * Core.one64 ≤ own_zm V * own_zm b) : own_zm (FP.ddiv a b) ≤ own_zm V := by
  obtain ⟨s, t, c, d, q, r, ea, eb, hd, hq, hr, e⟩ := own_divdat ha hb hz
  obtain ⟨u1, u2, u3, u4⟩ := own_divunits (c := c) (d := d) hq hr
  unfold own_zm
  rw [e]
  refine Core.zmag_roundRatio_le Core.good_b64 hd (Core.val64_fits V) hV u1 u2 ?_
  rw [u3, u4]
  simp only [own_zm, ea, eb] at h
  exact h
theorem own_divge {a b V : UInt64} (ha : Core.DFin a) (hb : Core.DFin b) (hz : own_zm b ≠ 0) (h : own_zm V * own_zm b ≤ own_zm a * Core.one64) : own_zm V ≤ own_zm (FP.ddiv a b) := by
  obtain ⟨s, t, c, d, q, r, ea, eb, hd, hq, hr, e⟩ := own_divdat ha hb hz
  obtain ⟨u1, u2, u3, u4⟩ := own_divunits (c := c) (d := d) hq hr
  unfold own_zm
  rw [e]
  refine Core.zmag_roundRatio_ge Core.good_b64 hd (Core.val64_fits V) u1 u2 ?_
  rw [u3, u4]
  simp only [own_zm, ea, eb] at h
  exact h
theorem own_divsgn {a b : UInt64} (ha : Core.DFin a) (hb : Core.DFin b) (hz : own_zm b ≠ 0) : Core.sgn (Core.val64 (FP.ddiv a b)) = (Core.sgn (Core.val64 a) != Core.sgn (Core.val64 b)) ∧ Core.val64 (FP.ddiv a b) ≠ .nan := by
  obtain ⟨s, t, c, d, q, r, ea, eb, hd, hq, hr, e⟩ := own_divdat ha hb hz
  rw [e, ea, eb]
  exact ⟨Core.sgn_roundRatio _ _ _ _ _, Core.roundRatio_ne_nan _ _ _ _ _⟩
theorem own_fintop {a : UInt64} (hn : Core.val64 a ≠ .nan) (h : own_zm a < Core.b64.tails * 2 ^ (Core.b64.exps - 2)) : Core.DFin a := by
  cases e : Core.val64 a with
  | nan => exact absurd e hn
  | inf s => rw [own_zm, e] at h; exact absurd h (Nat.lt_irrefl _)
  | fin s c q => exact ⟨s, c, q, e⟩
theorem own_finle {a V : UInt64} (hn : Core.val64 a ≠ .nan) (hV : Core.DFin V) (h : own_zm a ≤ own_zm V) : Core.DFin a := own_fintop hn (Nat.lt_of_le_of_lt h hV.zval_lt)
theorem own_zmabs (a : UInt64) : (own_zv a).natAbs = own_zm a := Core.natAbs_signed _ _
theorem own_addne {a b : UInt64} (ha : Core.DFin a) (hb : Core.DFin b) : Core.val64 (FP.dadd a b) ≠ .nan := (Core.notNaN_iff _).mp (Core.dadd_out ha.notNaN hb)
theorem own_subne {a b : UInt64} (ha : Core.DFin a) (hb : Core.DFin b) : Core.val64 (FP.dsub a b) ≠ .nan := (Core.notNaN_iff _).mp (Core.dsub_out ha.notNaN hb)
theorem own_mulne {a b : UInt64} (ha : Core.DFin a) (hb : Core.DFin b) : Core.val64 (FP.dmul a b) ≠ .nan := (Core.notNaN_iff _).mp (Core.dmul_out ha hb)
theorem own_nnof {a : UInt64} (h : Core.val64 a ≠ .nan) : NoNaN64 a := val64_no.mpr h
/-- the double a is i times two to the power (j - 1074) -/
def own_Z (j : Nat) (i : Int) (a : UInt64) : Prop := Core.DFin a ∧ own_zv a = i * ((2 ^ j : Nat) : Int)
theorem own_rep (n : Int) (j : Nat) (hn : n.natAbs < 2 ^ 53) (hj : j ≤ 2045) : ∃ V, own_Z j n V := by
  have hqm : Core.b64.qmin = -1074 := Core.qmin_b64
  have hqx : Core.b64.qmax = 971 := by decide
  obtain ⟨c', q', h1, h2⟩ := Core.round_exact Core.good_b64 (decide (n < 0)) (c := n.natAbs) (q := Core.b64.qmin + j) hn (by omega) (by omega)
  have hv : Core.val64 (Core.of64 (Core.round Core.b64 (.fin (decide (n < 0)) n.natAbs (Core.b64.qmin + j)))) = .fin (decide (n < 0)) c' q' := by
    rw [Core.val64_of64 (Core.round_fits Core.good_b64 _), h1]
  refine ⟨_, ⟨_, _, _, hv⟩, ?_⟩
  unfold own_zv
  rw [hv]
  show Core.signed (decide (n < 0)) (Core.inUnits c' q' Core.b64.qmin) = _
  rw [h2]
  unfold Core.inUnits
  rw [show (Core.b64.qmin + (j : Int) - Core.b64.qmin).toNat = j by omega, Core.signed_mul]
  congr 1
  unfold Core.signed
  by_cases h : n < 0 <;> simp [h] <;> omega
theorem own_Z.nn {j : Nat} {i : Int} {a : UInt64} (h : own_Z j i a) : NoNaN64 a := own_finnn h.1
theorem own_Z.eqv {j : Nat} {i : Int} {a V : UInt64} (hV : own_Z j i V) (hn : Core.val64 a ≠ .nan) (h1 : own_zv a ≤ own_zv V) (h2 : own_zv V ≤ own_zv a) : own_Z j i a := by
  have e : own_zv a = own_zv V := Int.le_antisymm h1 h2
  refine ⟨own_finle hn hV.1 ?_, e.trans hV.2⟩
  rw [← own_zmabs, ← own_zmabs, e]; exact Nat.le_refl _
theorem own_Z.add {j : Nat} {i k : Int} {a b : UInt64} (ha : own_Z j i a) (hb : own_Z j k b) (hn : (i + k).natAbs < 2 ^ 53) (hj : j ≤ 2045 := by decide) : own_Z j (i + k) (FP.dadd a b) := by
  obtain ⟨V, hV⟩ := own_rep (i + k) j hn hj
  have e : own_zv a + own_zv b = own_zv V := by rw [ha.2, hb.2, hV.2, Int.add_mul]
  exact hV.eqv (own_addne ha.1 hb.1) (own_addle ha.1 hb.1 (own_finne hV.1) (Int.le_of_eq e)) (own_addge ha.1 hb.1 (own_finne hV.1) (Int.le_of_eq e.symm))
theorem own_Z.sub {j : Nat} {i k : Int} {a b : UInt64} (ha : own_Z j i a) (hb : own_Z j k b) (hn : (i - k).natAbs < 2 ^ 53) (hj : j ≤ 2045 := by decide) : own_Z j (i - k) (FP.dsub a b) := by
  obtain ⟨V, hV⟩ := own_rep (i - k) j hn hj
  have e : own_zv a - own_zv b = own_zv V := by rw [ha.2, hb.2, hV.2, Int.sub_mul]
  exact hV.eqv (own_subne ha.1 hb.1) (own_suble ha.1 hb.1 (own_finne hV.1) (Int.le_of_eq e)) (own_subge ha.1 hb.1 (own_finne hV.1) (Int.le_of_eq e.symm))
theorem own_Z.mul {j j' J : Nat} {i k : Int} {a b : UInt64} (ha : own_Z j i a) (hb : own_Z j' k b) (hn : (i * k).natAbs < 2 ^ 53) (hJ : J + 1074 = j + j' := by decide) (hj : J ≤ 2045 := by decide) : own_Z J (i * k) (FP.dmul a b) := by
  obtain ⟨V, hV⟩ := own_rep (i * k) J hn hj
  have e : own_zv a * own_zv b = own_zv V * (Core.one64 : Int) := by
    rw [ha.2, hb.2, hV.2, own_one, Int.mul_assoc (i * k), ← Int.natCast_mul, ← Nat.pow_add, hJ, Nat.pow_add, Int.natCast_mul]
    simp only [Int.mul_assoc, Int.mul_left_comm, Int.mul_comm]
  exact hV.eqv (own_mulne ha.1 hb.1) (own_mulle ha.1 hb.1 (own_finne hV.1) (Int.le_of_eq e)) (own_mulge ha.1 hb.1 (own_finne hV.1) (Int.le_of_eq e.symm))
theorem own_zmZ {j : Nat} {i : Int} {a : UInt64} (h : own_Z j i a) : own_zm a = i.natAbs * 2 ^ j := by
  rw [← own_zmabs, h.2, Int.natAbs_mul, Int.natAbs_natCast]
theorem own_Z.div {j j' J : Nat} {i m : Int} {a b : UInt64} (ha : own_Z j (i * m) a) (hb : own_Z j' m b) (hm : m ≠ 0) (hn : i.natAbs < 2 ^ 53) (hJ : J + j' = j + 1074 := by decide) (hj : J ≤ 2045 := by decide) : own_Z J i (FP.ddiv a b) := by
  obtain ⟨V, hV⟩ := own_rep i J hn hj
  have hb0 : own_zm b ≠ 0 := by
    rw [own_zmZ hb]
    exact Nat.mul_ne_zero (by omega) (Nat.ne_of_gt (Nat.two_pow_pos _))
  have e : own_zm a * Core.one64 = own_zm V * own_zm b := by
    rw [own_zmZ ha, own_zmZ hb, own_zmZ hV, own_one, Int.natAbs_mul, Nat.mul_assoc, ← Nat.pow_add, ← hJ, Nat.pow_add]
    simp only [Nat.mul_assoc, Nat.mul_left_comm, Nat.mul_comm]
  obtain ⟨hs, hne⟩ := own_divsgn ha.1 hb.1 hb0
  have em : own_zm (FP.ddiv a b) = own_zm V := Nat.le_antisymm (own_divle ha.1 hb.1 hb0 (own_finne hV.1) (Nat.le_of_eq e)) (own_divge ha.1 hb.1 hb0 (Nat.le_of_eq e.symm))
  refine ⟨own_finle hne hV.1 (Nat.le_of_eq em), ?_⟩
  have ev : own_zv (FP.ddiv a b) * own_zv b = own_zv a * (Core.one64 : Int) := by
    show Core.signed _ _ * Core.signed _ _ = Core.signed _ _ * _
    rw [← Core.signed_xor, hs, ← Core.signed_mul]
    have e2 : Core.zmag Core.b64 (Core.val64 (FP.ddiv a b)) * Core.zmag Core.b64 (Core.val64 b) = Core.zmag Core.b64 (Core.val64 a) * Core.one64 := by
      rw [show Core.zmag Core.b64 (Core.val64 (FP.ddiv a b)) = own_zm V from em]; exact e.symm
    rw [e2]
    cases Core.sgn (Core.val64 a) <;> cases Core.sgn (Core.val64 b) <;> rfl
  rw [ha.2, hb.2, own_one] at ev
  have hp : ((2 ^ j' : Nat) : Int) ≠ 0 := by have := Nat.two_pow_pos j'; omega
  refine Int.eq_of_mul_eq_mul_right (Int.mul_ne_zero hm hp) (ev.trans ?_)
  rw [Int.mul_assoc (i * m), ← Int.natCast_mul, ← Nat.pow_add, ← hJ, Nat.pow_add, Int.natCast_mul]
  simp only [Int.mul_assoc, Int.mul_left_comm, Int.mul_comm]
theorem own_Z.neg {j : Nat} {i : Int} {a : UInt64} (h : own_Z j i a) : own_Z j (-i) (FP.dneg a) := by
  refine ⟨?_, ?_⟩
  · obtain ⟨s, c, q, e⟩ := own_negfin h.1
    exact ⟨s, c, q, by rw [FP.val64_dneg]; exact e⟩
  · unfold own_zv
    rw [FP.val64_dneg, Core.zval_negate]
    have := h.2; unfold own_zv at this; rw [this, Int.neg_mul]
theorem own_Z.of_int {i : Int} {a : UInt64} (h : Core.DInt i a) : own_Z 1074 i a := by
  refine ⟨?_, Core.DInt_zval h⟩
  unfold Core.DInt at h
  cases e : Core.val64 a with
  | nan => rw [e] at h; exact h.elim
  | inf s => rw [e] at h; exact h.elim
  | fin s c q => exact ⟨s, c, q, e⟩
theorem own_Z.i2d (x : Int32) : own_Z 1074 x.toInt (FP.i2d x) := own_Z.of_int (Core.i2d_int x)
theorem own_Z.l2d {x : Int64} (h : x.toInt.natAbs ≤ 2 ^ 53) : own_Z 1074 x.toInt (FP.l2d x) := own_Z.of_int (Core.l2d_int h)
theorem own_Z.shift {j k : Nat} {i : Int} {a : UInt64} (h : own_Z (j + k) i a) : own_Z j (i * ((2 ^ k : Nat) : Int)) a := by
  refine ⟨h.1, h.2.trans ?_⟩
  rw [Nat.add_comm, Nat.pow_add, Int.natCast_mul, Int.mul_assoc]
theorem own_Z.cmp {j : Nat} {i k : Int} {a b : UInt64} (ha : own_Z j i a) (hb : own_Z j k b) : FP.dcmp a b = some (compare i k) := by
  have h := Core.dcmp_zval (own_finne ha.1) (own_finne hb.1)
  have h1 := ha.2; have h2 := hb.2
  unfold own_zv at h1 h2
  rw [h1, h2, Core.compare_mul_pos _ _ _ (by have := Nat.two_pow_pos j; omega)] at h
  exact h
theorem own_Z.cmpE {j : Nat} {i k : Int} {a b : UInt64} (ha : own_Z j i a) (hb : own_Z j k b) (h : i = k) (o : CmpOp) : cmpValue (FP.dcmp a b) o = 0 := by
  rw [ha.cmp hb, (Core.compare_eq_iff _ _).mpr h]; cases o <;> rfl
theorem own_Z.cmpL {j : Nat} {i k : Int} {a b : UInt64} (ha : own_Z j i a) (hb : own_Z j k b) (h : i < k) (o : CmpOp) : cmpValue (FP.dcmp a b) o = -1 := by
  rw [ha.cmp hb, (Core.compare_lt_iff _ _).mpr h]; cases o <;> rfl
theorem own_Z.cmpG {j : Nat} {i k : Int} {a b : UInt64} (ha : own_Z j i a) (hb : own_Z j k b) (h : k < i) (o : CmpOp) : cmpValue (FP.dcmp a b) o = 1 := by
  rw [ha.cmp hb, (Core.compare_gt_iff _ _).mpr h]; cases o <;> rfl
theorem own_Z.eq {j : Nat} {i k : Int} {a : UInt64} (ha : own_Z j i a) (h : i = k) : own_Z j k a := h ▸ ha
theorem own_mulb {a b : Int} {A B : Nat} (ha : a.natAbs ≤ A) (hb : b.natAbs ≤ B) : (a * b).natAbs ≤ A * B := by
  rw [Int.natAbs_mul]; exact Nat.mul_le_mul ha hb
theorem own_Z0 : own_Z 1074 0 0 := by
  refine ⟨⟨false, 0, Core.b64.qmin, by decide +kernel⟩, by decide +kernel⟩
theorem own_Z1 : own_Z 1074 1 4607182418800017408 := own_Z.of_int Core.dint_one
end OwnFl
section OwnMean
open Jvm.FP Jvm.Free.Fl
theorem own_finok {x : UInt64} (h : Core.DFin x) : NoNaN64 x ∧ ¬ ((0 : Int32) < cmpValue (FP.dcmp (x &&& 0x7fffffffffffffff) (9218868437227405311 : UInt64)) .g) := by
  refine ⟨own_finnn h, ?_⟩
  have q := (Core.le_max h.notNaN).mpr h
  rcases q with q | q
  · rw [show FP.dcmp (x &&& 0x7fffffffffffffff) (9218868437227405311 : UInt64) = some .lt from q]; decide
  · rw [show FP.dcmp (x &&& 0x7fffffffffffffff) (9218868437227405311 : UInt64) = some .eq from q]; decide
theorem own_mulfin {j j' : Nat} {i k : Int} {a b : UInt64} (ha : own_Z j i a) (hb : own_Z j' k b) (hi : i.natAbs ≤ 1099511627776) (hk : k.natAbs ≤ 1099511627776) (h1 : j ≤ 1074) (h2 : j' ≤ 1074) : Core.DFin (FP.dmul a b) := by
  obtain ⟨V, hV⟩ := own_rep 1 1154 (by decide) (by decide)
  obtain ⟨W, hW⟩ := own_rep (-1) 1154 (by decide) (by decide)
  have e : own_zv a * own_zv b = (i * k) * ((2 ^ (j + j') : Nat) : Int) := by
    rw [ha.2, hb.2, Nat.pow_add, Int.natCast_mul]
    simp only [Int.mul_assoc, Int.mul_left_comm, Int.mul_comm]
  have hp : (i * k).natAbs ≤ 1099511627776 * 1099511627776 := own_prod hi hk
  have hP : (2 ^ (j + j') : Nat) ≤ 2 ^ 2148 := Nat.pow_le_pow_right (by decide) (by omega)
  have hm : (own_zv a * own_zv b).natAbs ≤ 2 ^ 80 * 2 ^ 2148 := by
    rw [e, Int.natAbs_mul, Int.natAbs_natCast]
    exact Nat.mul_le_mul (Nat.le_trans hp (by decide)) hP
  have hv : own_zv V * (Core.one64 : Int) = ((2 ^ 80 * 2 ^ 2148 : Nat) : Int) := by
    rw [hV.2, own_one, Int.one_mul, ← Int.natCast_mul, ← Nat.pow_add, ← Nat.pow_add]
  have hw : own_zv W * (Core.one64 : Int) = -((2 ^ 80 * 2 ^ 2148 : Nat) : Int) := by
    rw [hW.2, own_one, Int.neg_mul, Int.one_mul, Int.neg_mul, ← Int.natCast_mul, ← Nat.pow_add, ← Nat.pow_add]
  generalize hG : (2 ^ 80 * 2 ^ 2148 : Nat) = G at hm hv hw
  have u := own_mulle ha.1 hb.1 (own_finne hV.1) (by rw [hv]; omega)
  have l := own_mulge ha.1 hb.1 (own_finne hW.1) (by rw [hw]; omega)
  refine own_finle (own_mulne ha.1 hb.1) hV.1 ?_
  rw [← own_zmabs, ← own_zmabs]
  have e1 := hV.2; have e2 := hW.2
  rw [e2] at l; rw [e1] at u ⊢
  generalize ((2 ^ 1154 : Nat) : Int) = H at *
  omega
theorem own_zl (x : Int32) : own_Z 1074 x.toInt (FP.l2d x.toInt64) := by
  have h := own_Z.i2d x; rw [i2d_w] at h; exact h
theorem own_cl {a b t : Int32} {cl : Int64} (h : (((3 : Int64) * t.toInt64) - a.toInt64) - b.toInt64 = cl) : own_Z 1074 (3 * t.toInt - a.toInt - b.toInt) (FP.l2d cl) := by
  have ra := rng32 a; have rb := rng32 b; have rt := rng32 t
  have w1 := Int32.toInt_toInt64 a; have w2 := Int32.toInt_toInt64 b; have w3 := Int32.toInt_toInt64 t
  have o3 : (3 : Int64).toInt = 3 := rfl
  have f1 : ((3 : Int64) * t.toInt64).toInt = 3 * t.toInt := by rw [Core.int64_mul (by rw [w3, o3]; omega) (by rw [w3, o3]; omega), w3, o3]
  have f2 : ((3 : Int64) * t.toInt64 - a.toInt64).toInt = 3 * t.toInt - a.toInt := by rw [Core.int64_sub (by rw [f1, w1]; omega) (by rw [f1, w1]; omega), f1, w1]
  have f3 : cl.toInt = 3 * t.toInt - a.toInt - b.toInt := by rw [← h, Core.int64_sub (by rw [f2, w2]; omega) (by rw [f2, w2]; omega), f2, w2]
  exact own_Z.eq (own_Z.l2d (by rw [f3]; omega)) f3
theorem own_four (x : Int32) : (x &&& (3 : Int32)) = (0 : Int32) ∨ (x &&& (3 : Int32)) = (1 : Int32) ∨ (x &&& (3 : Int32)) = (2 : Int32) ∨ (x &&& (3 : Int32)) = (3 : Int32) := by
  have q := c_mask x 3 2 (by decide) (by decide)
  have : (x &&& (3 : Int32)).toInt = 0 ∨ (x &&& (3 : Int32)).toInt = 1 ∨ (x &&& (3 : Int32)).toInt = 2 ∨ (x &&& (3 : Int32)).toInt = 3 := by omega
  rcases this with r | r | r | r
  · exact Or.inl (Int32.toInt_inj.mp r)
  · exact Or.inr (Or.inl (Int32.toInt_inj.mp r))
  · exact Or.inr (Or.inr (Or.inl (Int32.toInt_inj.mp r)))
  · exact Or.inr (Or.inr (Or.inr (Int32.toInt_inj.mp r)))
theorem own_k (n : Int64) (k : Int) (h : n.toInt = k) (hk : k.natAbs ≤ 4) : own_Z 1074 k (FP.l2d n) := own_Z.eq (own_Z.l2d (by rw [h]; omega)) h
def own_Got (d f m q kk m2 q2 : UInt64) : Prop := NoNaN64 d ∧ ¬ ((0 : Int32) < cmpValue (FP.dcmp (d &&& 0x7fffffffffffffff) (9218868437227405311 : UInt64)) .g) ∧ NoNaN64 (FP.dsub d f) ∧ NoNaN64 (FP.dsub (FP.dsub d f) m) ∧ NoNaN64 (FP.ddiv (FP.dsub (FP.dsub d f) m) kk) ∧ NoNaN64 (FP.dadd m (FP.ddiv (FP.dsub (FP.dsub d f) m) kk)) ∧ FP.dadd m (FP.ddiv (FP.dsub (FP.dsub d f) m) kk) = m2 ∧ NoNaN64 (FP.dsub (FP.dsub d f) m2) ∧ NoNaN64 (FP.dmul (FP.dsub (FP.dsub d f) m) (FP.dsub (FP.dsub d f) m2)) ∧ NoNaN64 (FP.dadd q (FP.dmul (FP.dsub (FP.dsub d f) m) (FP.dsub (FP.dsub d f) m2))) ∧ FP.dadd q (FP.dmul (FP.dsub (FP.dsub d f) m) (FP.dsub (FP.dsub d f) m2)) = q2
theorem own_got {d f m q kk : UInt64} {S D M R : Int} (fd : Core.DFin d) (hs : own_Z 1073 S (FP.dsub d f)) (hd : own_Z 1073 D (FP.dsub (FP.dsub d f) m)) (hv : NoNaN64 (FP.ddiv (FP.dsub (FP.dsub d f) m) kk)) (hm : own_Z 1073 M (FP.dadd m (FP.ddiv (FP.dsub (FP.dsub d f) m) kk))) (hr : own_Z 1073 R (FP.dsub (FP.dsub d f) (FP.dadd m (FP.ddiv (FP.dsub (FP.dsub d f) m) kk)))) (fq : Core.DFin q) :
    own_Got d f m q kk (FP.dadd m (FP.ddiv (FP.dsub (FP.dsub d f) m) kk)) (FP.dadd q (FP.dmul (FP.dsub (FP.dsub d f) m) (FP.dsub (FP.dsub d f) (FP.dadd m (FP.ddiv (FP.dsub (FP.dsub d f) m) kk))))) := by
  have np := own_mulne hd.1 hr.1
  exact ⟨(own_finok fd).1, (own_finok fd).2, hs.nn, hd.nn, hv, hm.nn, rfl, hr.nn, own_nnof np, own_nnof ((Core.notNaN_iff _).mp (Core.dadd_out' fq ((Core.notNaN_iff _).mpr np))), rfl⟩
theorem own_half {i : Int} {a : UInt64} (h : own_Z 1074 i a) : own_Z 1073 (i * 2) a := own_Z.shift (j := 1073) (k := 1) h
theorem own_add1 (a : Int32) : ∃ m2 q2, own_Got (FP.l2d a.toInt64) (FP.l2d a.toInt64) 0 0 (FP.l2d ((0 : Int64) + (1 : Int64))) m2 q2 ∧ own_Z 1073 0 m2 ∧ own_Z 1074 0 q2 := by
  have ra := rng32 a
  have A := own_zl a
  have z0 : own_Z 1073 0 0 := own_half own_Z0
  have hs := own_Z.eq ((own_half A).sub (own_half A) (by omega)) (Int.sub_self _)
  have hd := own_Z.eq (hs.sub z0 (by decide)) (Int.sub_self 0)
  have k1 := own_k ((0 : Int64) + (1 : Int64)) 1 (by decide) (by decide)
  have hv : own_Z 1073 0 _ := own_Z.div (own_Z.eq hd (Int.mul_one 0).symm) k1 (by decide) (by decide)
  have hm := own_Z.eq (z0.add hv (by decide)) (Int.add_zero 0)
  have hr := own_Z.eq (hs.sub hm (by decide)) (Int.sub_self 0)
  have hp : own_Z 1072 0 _ := own_Z.eq (hd.mul hr (by decide)) (Int.mul_zero 0)
  have z0' : own_Z 1072 0 0 := own_Z.shift (j := 1072) (k := 2) own_Z0
  refine ⟨_, _, own_got A.1 hs hd hv.nn hm hr own_Z0.1, hm, ?_⟩
  have hq := z0'.add hp (by decide)
  exact ⟨hq.1, hq.2.trans (by rw [Int.add_zero, Int.zero_mul, Int.zero_mul])⟩
theorem own_add2 (a b : Int32) {m q : UInt64} (zm : own_Z 1073 0 m) (zq : own_Z 1074 0 q) : ∃ m2 q2, own_Got (FP.l2d b.toInt64) (FP.l2d a.toInt64) m q (FP.l2d (((0 : Int64) + (1 : Int64)) + (1 : Int64))) m2 q2 ∧ own_Z 1073 (b.toInt - a.toInt) m2 ∧ Core.DFin q2 := by
  have ra := rng32 a; have rb := rng32 b
  have A := own_half (own_zl a); have B := own_half (own_zl b)
  have hs := own_Z.eq (B.sub A (by omega)) (k := (b.toInt - a.toInt) * 2) (by omega)
  have hd := own_Z.eq (hs.sub zm (by omega)) (Int.sub_zero _)
  have k2 := own_k (((0 : Int64) + (1 : Int64)) + (1 : Int64)) 2 (by decide) (by decide)
  have hv : own_Z 1073 (b.toInt - a.toInt) _ := own_Z.div hd k2 (by decide) (by omega)
  have hm := own_Z.eq (zm.add hv (by omega)) (Int.zero_add _)
  have hr := own_Z.eq (hs.sub hm (by omega)) (k := b.toInt - a.toInt) (by omega)
  have fp := own_mulfin hd hr (by omega) (by omega) (by decide) (by decide)
  refine ⟨_, _, own_got (own_zl b).1 hs hd hv.nn hm hr zq.1, hm, ?_⟩
  have hz : own_zv q = 0 := zq.2.trans (Int.zero_mul _)
  have u := own_addle zq.1 fp (own_finne fp) (by rw [hz]; omega)
  have l := own_addge zq.1 fp (own_finne fp) (by rw [hz]; omega)
  exact own_finle (own_addne zq.1 fp) fp (by rw [← own_zmabs, ← own_zmabs, Int.le_antisymm u l]; exact Nat.le_refl _)
theorem own_add3 {a b t : Int32} {cl : UInt64} {m q : UInt64} (zc : own_Z 1074 (3 * t.toInt - a.toInt - b.toInt) cl) (zm : own_Z 1073 (b.toInt - a.toInt) m) (fq : Core.DFin q) : ∃ m2 q2, own_Got cl (FP.l2d a.toInt64) m q (FP.l2d ((((0 : Int64) + (1 : Int64)) + (1 : Int64)) + (1 : Int64))) m2 q2 ∧ own_Z 1073 ((t.toInt - a.toInt) * 2) m2 := by
  have ra := rng32 a; have rb := rng32 b; have rt := rng32 t
  have A := own_half (own_zl a); have C := own_half zc
  have hs := own_Z.eq (C.sub A (by omega)) (k := (3 * t.toInt - 2 * a.toInt - b.toInt) * 2) (by omega)
  have hd := own_Z.eq (hs.sub zm (by omega)) (k := (2 * t.toInt - a.toInt - b.toInt) * 3) (by omega)
  have k3 := own_k ((((0 : Int64) + (1 : Int64)) + (1 : Int64)) + (1 : Int64)) 3 (by decide) (by decide)
  have hv : own_Z 1073 (2 * t.toInt - a.toInt - b.toInt) _ := own_Z.div hd k3 (by decide) (by omega)
  have hm := own_Z.eq (zm.add hv (by omega)) (k := (t.toInt - a.toInt) * 2) (by omega)
  have hr := own_Z.eq (hs.sub hm (by omega)) (k := (2 * t.toInt - a.toInt - b.toInt) * 2) (by omega)
  exact ⟨_, _, own_got zc.1 hs hd hv.nn hm hr fq, hm⟩
theorem own_mn1 {a : Int32} {m : UInt64} (zm : own_Z 1073 0 m) : own_Z 1074 a.toInt (FP.dadd (FP.l2d a.toInt64) m) := by
  have z0 : own_Z 1074 0 m := ⟨zm.1, zm.2.trans (by rw [Int.zero_mul, Int.zero_mul])⟩
  have ra := rng32 a
  exact own_Z.eq ((own_zl a).add z0 (by omega)) (Int.add_zero _)
theorem own_mn2 {a b : Int32} {m : UInt64} (zm : own_Z 1073 (b.toInt - a.toInt) m) : own_Z 1073 (a.toInt + b.toInt) (FP.dadd (FP.l2d a.toInt64) m) := by
  have ra := rng32 a; have rb := rng32 b
  exact own_Z.eq ((own_half (own_zl a)).add zm (by omega)) (by omega)
theorem own_mn3 {a t : Int32} {m : UInt64} (zm : own_Z 1073 ((t.toInt - a.toInt) * 2) m) : own_Z 1074 t.toInt (FP.dadd (FP.l2d a.toInt64) m) := by
  have ra := rng32 a; have rt := rng32 t
  have h := own_Z.eq ((own_half (own_zl a)).add zm (by omega)) (k := t.toInt * 2) (by omega)
  refine ⟨h.1, h.2.trans ?_⟩
  have e : ((2 ^ 1074 : Nat) : Int) = 2 * ((2 ^ 1073 : Nat) : Int) := by
    rw [show (1074 : Nat) = 1 + 1073 from rfl, Nat.pow_add, Int.natCast_mul]
    generalize ((2 ^ 1073 : Nat) : Int) = P
    rfl
  rw [e, Int.mul_assoc]
theorem own_h2 (a b : Int32) : own_Z 1073 (a.toInt + b.toInt) (FP.ddiv (FP.l2d (a.toInt64 + b.toInt64)) 4611686018427387904) := by
  have ra := rng32 a; have rb := rng32 b
  have w1 := Int32.toInt_toInt64 a; have w2 := Int32.toInt_toInt64 b
  have f : (a.toInt64 + b.toInt64).toInt = a.toInt + b.toInt := by rw [Core.int64_add (by rw [w1, w2]; omega) (by rw [w1, w2]; omega), w1, w2]
  have z2 : own_Z 1075 1 4611686018427387904 := ⟨⟨false, 4503599627370496, -51, by decide +kernel⟩, by decide +kernel⟩
  exact own_Z.div (own_Z.eq (own_Z.l2d (by rw [f]; omega)) (by rw [f]; exact (Int.mul_one _).symm)) z2 (by decide) (by omega)
end OwnMean
theorem own_d1_0 : decode prog_53_method_1_code 0 = .ok (.aload_n 0, 1) := by decide +kernel
theorem own_d1_1 : decode prog_53_method_1_code 1 = .ok (.invokespecial 1, 3) := by decide +kernel
theorem own_d1_4 : decode prog_53_method_1_code 4 = .ok (.return_, 1) := by decide +kernel
set_option maxHeartbeats 4000000 in
theorem own_ef1 (m : MethodId) (x0 : Addr) : entryFrame m #[(.ref x0)] 1 = mkF m 0 #[.val (.ref x0)] [] := by first | (simp [entryFrame, mkF, argsToLocals, Value.category]; done) | rfl
theorem own_pn0 : plainName "com/example/triflux/triflux/eval/Summary" = true := by first | (simp [plainName, overriddenIn]; done) | decide +kernel
def own_Q1 (Z : State) (a0 : Array Value) (o0 : Addr) (h0 : Heap) (n0 : Nat) (v : Option Value) (h : Heap) (L : List Loc) : Prop := v = none ∧ Fr n0 L ∧ h = h0
set_option maxRecDepth 65536 in
set_option maxHeartbeats 40000000 in
theorem own_rm1 (l : Launch) (Z : State) (a0 : Array Value) (hw : ∀ d ∈ tables_1, d.before a0 Z = true) (ws : List Jvm.Cond) (o0 : Addr) (h0 : Heap) (n0 : Nat) (Z0 : n0 ≤ h0.size) :
    MetFree l (⟨"com/example/triflux/triflux/eval/Summary", "<init>", "()V"⟩ : MethodName) (head1 (Jvm.Cond.code (⟨"com/example/triflux/triflux/eval/Summary", "<init>", "()V"⟩ : MethodName) prog_53_method_1_code 1 none :: ws) ({ frames := 1, cells := 0, slots := 0, locals := 12 } : Room)) (fun a U => a = #[(.ref o0)] ∧ Z.Warmed39 U.vm ∧ U.heap = h0) (fun _ _ _ _ _ => True) (fun _ U o U' => ∃ v L, o = .returned v ∧ own_Q1 Z a0 o0 h0 n0 v U'.heap L ∧ FrameEnd U o U' L ({ frames := 1, cells := 0, slots := 0, locals := 12 } : Room).cells ({ frames := 1, cells := 0, slots := 0, locals := 12 } : Room).slots) := by
  refine own_body (Q := fun v h L => own_Q1 Z a0 o0 h0 n0 v h L) (plainFor_of_name own_pn0) ?_
  intro p e s m below meth c s₁ hx hby hml hZ hown hnm hret hlk X0 e0
  replace hml : c.maxLocals = 1 := hml
  have N0 := Fr.nil n0
  have K0 : Keep h0 h0 [] := Keep.refl _ _
  refine own_st (fun t k => castTop (own_ef1 m o0) k) ?_
  show own_Run p e below s _ _ _ (s₁.setTop (mkF m 0 #[.val (.ref o0)] []))
  refine own_st (fun t k => XS.aloadN X0.here hx rfl (hb hby own_d1_0) rfl rfl k) ?_
  show own_Run p e below s _ _ _ (s₁.setTop (mkF m 1 #[.val (.ref o0)] [(.ref o0)]))
  obtain ⟨T1, X1, e1, st1⟩ := initO X0 hx hZ hown (hw _ (List.mem_of_getElem? (i := 7) rfl)) (hw _ (List.mem_of_getElem? (i := 8) rfl)) (hw _ (List.mem_of_getElem? (i := 9) rfl)) e0 (g := (mkF m 1 #[.val (.ref o0)] [(.ref o0)])) rfl (by rw [hml]; rfl) rfl (hb hby own_d1_1) (by decide) (W := 0) (by show 2 * 0 + _ ≤ _; exact Nat.le_of_eq rfl) (by decide)
  refine own_st st1 ?_
  show own_Run p e below s _ _ _ (T1.setTop (mkF m 4 #[.val (.ref o0)] []))
  exact own_retV X1 hx hlk hret (hb hby own_d1_4) (by decide) (by decide) ⟨rfl, N0, e1⟩
theorem own_d3_0 : decode prog_53_method_4_code 0 = .ok (.aload_n 0, 1) := by decide +kernel
theorem own_d3_1 : decode prog_53_method_4_code 1 = .ok (.getfield 22, 3) := by decide +kernel
theorem own_d3_4 : decode prog_53_method_4_code 4 = .ok (.lconst 0, 1) := by decide +kernel
theorem own_d3_5 : decode prog_53_method_4_code 5 = .ok (.lcmp, 1) := by decide +kernel
theorem own_d3_6 : decode prog_53_method_4_code 6 = .ok (.ifCond .ne 9, 3) := by decide +kernel
theorem own_d3_9 : decode prog_53_method_4_code 9 = .ok (.ldc2_w 38, 3) := by decide +kernel
theorem own_d3_12 : decode prog_53_method_4_code 12 = .ok (.goto 12, 3) := by decide +kernel
theorem own_d3_24 : decode prog_53_method_4_code 24 = .ok (.dreturn, 1) := by decide +kernel
set_option maxHeartbeats 4000000 in
theorem own_ef3Z (m : MethodId) (x0 : Addr) : entryFrame m #[(.ref x0)] 1 = mkF m 0 #[.val (.ref x0)] [] := by first | (simp [entryFrame, mkF, argsToLocals, Value.category]; done) | rfl
def own_Q3Z (Z : State) (a0 : Array Value) (o0 : Addr) (h0 : Heap) (n0 : Nat) (v : Option Value) (h : Heap) (L : List Loc) : Prop := v = some (.double (9221120237041090560 : UInt64)) ∧ Fr n0 L ∧ h = h0
set_option maxRecDepth 65536 in
set_option maxHeartbeats 40000000 in
theorem own_rm3Z (l : Launch) (Z : State) (a0 : Array Value) (hw : ∀ d ∈ tables_1, d.before a0 Z = true) (ws : List Jvm.Cond) (o0 : Addr) (h0 : Heap) (n0 : Nat) (Z0 : n0 ≤ h0.size) (pc : Fld Z h0 o0 "com/example/triflux/triflux/eval/Summary" "count" "J" (.long (0 : Int64))) :
    MetFree l (⟨"com/example/triflux/triflux/eval/Summary", "mean", "()D"⟩ : MethodName) (head1 (Jvm.Cond.code (⟨"com/example/triflux/triflux/eval/Summary", "mean", "()D"⟩ : MethodName) prog_53_method_4_code 1 (some .double) :: ws) ({ frames := 0, cells := 0, slots := 0, locals := 0 } : Room)) (fun a U => a = #[(.ref o0)] ∧ Z.Warmed39 U.vm ∧ U.heap = h0) (fun _ _ _ _ _ => True) (fun _ U o U' => ∃ v L, o = .returned v ∧ own_Q3Z Z a0 o0 h0 n0 v U'.heap L ∧ FrameEnd U o U' L ({ frames := 0, cells := 0, slots := 0, locals := 0 } : Room).cells ({ frames := 0, cells := 0, slots := 0, locals := 0 } : Room).slots) := by
  refine own_body (Q := fun v h L => own_Q3Z Z a0 o0 h0 n0 v h L) (plainFor_of_name own_pn0) ?_
  intro p e s m below meth c s₁ hx hby hml hZ hown hnm hret hlk X0 e0
  replace hml : c.maxLocals = 1 := hml
  have N0 := Fr.nil n0
  have K0 : Keep h0 h0 [] := Keep.refl _ _
  refine own_st (fun t k => castTop (own_ef3Z m o0) k) ?_
  show own_Run p e below s _ _ _ (s₁.setTop (mkF m 0 #[.val (.ref o0)] []))
  refine own_st (fun t k => XS.aloadN X0.here hx rfl (hb hby own_d3_0) rfl rfl k) ?_
  show own_Run p e below s _ _ _ (s₁.setTop (mkF m 1 #[.val (.ref o0)] [(.ref o0)]))
  obtain ⟨T2, X2, e2, st2⟩ := getF X0 hx hZ hown (host := "") (Or.inl (hw _ (List.mem_of_getElem? (i := 15) rfl))) Via.refl e0 pc (g := (mkF m 1 #[.val (.ref o0)] [(.ref o0)])) rfl rfl (hb hby own_d3_1)
  refine own_st st2 ?_
  show own_Run p e below s _ _ _ (T2.setTop (mkF m 4 #[.val (.ref o0)] [(.long (0 : Int64))]))
  refine own_st (fun t k => XS.lconst X2.here hx rfl (hb hby own_d3_4) k) ?_
  show own_Run p e below s _ _ _ (T2.setTop (mkF m 5 #[.val (.ref o0)] [(.long (0 : Int64)), (.long (0 : Int64))]))
  refine own_st (fun t k => XS.lcmp X2.here hx rfl (hb hby own_d3_5) rfl k) ?_
  show own_Run p e below s _ _ _ (T2.setTop (mkF m 6 #[.val (.ref o0)] [(.int (lcmpW (0 : Int64) (0 : Int64)))]))
  refine own_st (fun t k => XS.ifNo X2.here hx rfl (hb hby own_d3_6) rfl ((if0 _ _).trans (teq (by decide : (lcmpW (0 : Int64) (0 : Int64)) = (0 : Int32))).2) k) ?_
  show own_Run p e below s _ _ _ (T2.setTop (mkF m 9 #[.val (.ref o0)] []))
  refine own_st (X2.ldc2DoubleC hx hown (mvT hZ (hw _ (List.mem_of_getElem? (i := 17) rfl))) (g := (mkF m 9 #[.val (.ref o0)] [])) rfl (hb hby own_d3_9)) ?_
  show own_Run p e below s _ _ _ (T2.setTop (mkF m 12 #[.val (.ref o0)] [(.double (9221120237041090560 : UInt64))]))
  refine own_st (fun t k => XS.goto X2.here hx rfl (pc0 := 12) (pc' := 24) rfl (hb hby own_d3_12) (by decide) (by decide) k) ?_
  show own_Run p e below s _ _ _ (T2.setTop (mkF m 24 #[.val (.ref o0)] [(.double (9221120237041090560 : UInt64))]))
  exact own_ret X2 hx hlk (t := .double) hret rfl (Or.inr (Or.inr (Or.inl ⟨rfl, rfl, _, rfl⟩))) (hb hby own_d3_24) (by decide) (by decide) ⟨rfl, N0, e2⟩
theorem own_d3_15 : decode prog_53_method_4_code 15 = .ok (.aload_n 0, 1) := by decide +kernel
theorem own_d3_16 : decode prog_53_method_4_code 16 = .ok (.getfield 28, 3) := by decide +kernel
theorem own_d3_19 : decode prog_53_method_4_code 19 = .ok (.aload_n 0, 1) := by decide +kernel
theorem own_d3_20 : decode prog_53_method_4_code 20 = .ok (.getfield 32, 3) := by decide +kernel
theorem own_d3_23 : decode prog_53_method_4_code 23 = .ok (.dadd, 1) := by decide +kernel
set_option maxHeartbeats 4000000 in
theorem own_ef3V (m : MethodId) (x0 : Addr) : entryFrame m #[(.ref x0)] 1 = mkF m 0 #[.val (.ref x0)] [] := by first | (simp [entryFrame, mkF, argsToLocals, Value.category]; done) | rfl
def own_Q3V (Z : State) (a0 : Array Value) (o0 : Addr) (cn : Int64) (ff : UInt64) (mm : UInt64) (h0 : Heap) (n0 : Nat) (v : Option Value) (h : Heap) (L : List Loc) : Prop := v = some (.double (FP.dadd ff mm)) ∧ Fr n0 L ∧ h = h0
set_option maxRecDepth 65536 in
set_option maxHeartbeats 40000000 in
theorem own_rm3V (l : Launch) (Z : State) (a0 : Array Value) (hw : ∀ d ∈ tables_1, d.before a0 Z = true) (ws : List Jvm.Cond) (o0 : Addr) (cn : Int64) (ff : UInt64) (mm : UInt64) (h0 : Heap) (n0 : Nat) (Z0 : n0 ≤ h0.size) (pc : Fld Z h0 o0 "com/example/triflux/triflux/eval/Summary" "count" "J" (.long cn)) (pf : Fld Z h0 o0 "com/example/triflux/triflux/eval/Summary" "first" "D" (.double ff)) (pm : Fld Z h0 o0 "com/example/triflux/triflux/eval/Summary" "shiftedMean" "D" (.double mm)) (hc : cn ≠ 0) (pn0 : Jvm.Free.Fl.NoNaN64 (FP.dadd ff mm)) :
    MetFree l (⟨"com/example/triflux/triflux/eval/Summary", "mean", "()D"⟩ : MethodName) (head1 (Jvm.Cond.code (⟨"com/example/triflux/triflux/eval/Summary", "mean", "()D"⟩ : MethodName) prog_53_method_4_code 1 (some .double) :: ws) ({ frames := 0, cells := 0, slots := 0, locals := 0 } : Room)) (fun a U => a = #[(.ref o0)] ∧ Z.Warmed39 U.vm ∧ U.heap = h0) (fun _ _ _ _ _ => True) (fun _ U o U' => ∃ v L, o = .returned v ∧ own_Q3V Z a0 o0 cn ff mm h0 n0 v U'.heap L ∧ FrameEnd U o U' L ({ frames := 0, cells := 0, slots := 0, locals := 0 } : Room).cells ({ frames := 0, cells := 0, slots := 0, locals := 0 } : Room).slots) := by
  refine own_body (Q := fun v h L => own_Q3V Z a0 o0 cn ff mm h0 n0 v h L) (plainFor_of_name own_pn0) ?_
  intro p e s m below meth c s₁ hx hby hml hZ hown hnm hret hlk X0 e0
  replace hml : c.maxLocals = 1 := hml
  have N0 := Fr.nil n0
  have K0 : Keep h0 h0 [] := Keep.refl _ _
  refine own_st (fun t k => castTop (own_ef3V m o0) k) ?_
  show own_Run p e below s _ _ _ (s₁.setTop (mkF m 0 #[.val (.ref o0)] []))
  refine own_st (fun t k => XS.aloadN X0.here hx rfl (hb hby own_d3_0) rfl rfl k) ?_
  show own_Run p e below s _ _ _ (s₁.setTop (mkF m 1 #[.val (.ref o0)] [(.ref o0)]))
  obtain ⟨T3, X3, e3, st3⟩ := getF X0 hx hZ hown (host := "") (Or.inl (hw _ (List.mem_of_getElem? (i := 15) rfl))) Via.refl e0 pc (g := (mkF m 1 #[.val (.ref o0)] [(.ref o0)])) rfl rfl (hb hby own_d3_1)
  refine own_st st3 ?_
  show own_Run p e below s _ _ _ (T3.setTop (mkF m 4 #[.val (.ref o0)] [(.long cn)]))
  refine own_st (fun t k => XS.lconst X3.here hx rfl (hb hby own_d3_4) k) ?_
  show own_Run p e below s _ _ _ (T3.setTop (mkF m 5 #[.val (.ref o0)] [(.long (0 : Int64)), (.long cn)]))
  refine own_st (fun t k => XS.lcmp X3.here hx rfl (hb hby own_d3_5) rfl k) ?_
  show own_Run p e below s _ _ _ (T3.setTop (mkF m 6 #[.val (.ref o0)] [(.int (lcmpW cn (0 : Int64)))]))
  refine own_st (fun t k => XS.ifYes X3.here hx rfl (pc0 := 6) (pc' := 15) rfl (hb hby own_d3_6) rfl ((if0 _ _).trans (feq (fun z => hc ((lw_eq _ _).mp z) : ¬ ((lcmpW cn (0 : Int64)) = (0 : Int32)))).2) (by decide) (by decide) k) ?_
  show own_Run p e below s _ _ _ (T3.setTop (mkF m 15 #[.val (.ref o0)] []))
  refine own_st (fun t k => XS.aloadN X3.here hx rfl (hb hby own_d3_15) rfl rfl k) ?_
  show own_Run p e below s _ _ _ (T3.setTop (mkF m 16 #[.val (.ref o0)] [(.ref o0)]))
  obtain ⟨T4, X4, e4, st4⟩ := getF X3 hx hZ hown (host := "") (Or.inl (hw _ (List.mem_of_getElem? (i := 32) rfl))) Via.refl e3 pf (g := (mkF m 16 #[.val (.ref o0)] [(.ref o0)])) rfl rfl (hb hby own_d3_16)
  refine own_st st4 ?_
  show own_Run p e below s _ _ _ (T4.setTop (mkF m 19 #[.val (.ref o0)] [(.double ff)]))
  refine own_st (fun t k => XS.aloadN X4.here hx rfl (hb hby own_d3_19) rfl rfl k) ?_
  show own_Run p e below s _ _ _ (T4.setTop (mkF m 20 #[.val (.ref o0)] [(.ref o0), (.double ff)]))
  obtain ⟨T5, X5, e5, st5⟩ := getF X4 hx hZ hown (host := "") (Or.inl (hw _ (List.mem_of_getElem? (i := 34) rfl))) Via.refl e4 pm (g := (mkF m 20 #[.val (.ref o0)] [(.ref o0), (.double ff)])) rfl rfl (hb hby own_d3_20)
  refine own_st st5 ?_
  show own_Run p e below s _ _ _ (T5.setTop (mkF m 23 #[.val (.ref o0)] [(.double mm), (.double ff)]))
  refine own_st (fun t k => XS.daddS X5.here hx rfl (hb hby own_d3_23) rfl (pn0) (v := (FP.dadd ff mm)) (rfl) k) ?_
  show own_Run p e below s _ _ _ (T5.setTop (mkF m 24 #[.val (.ref o0)] [(.double (FP.dadd ff mm))]))
  exact own_ret X5 hx hlk (t := .double) hret rfl (Or.inr (Or.inr (Or.inl ⟨rfl, rfl, _, rfl⟩))) (hb hby own_d3_24) (by decide) (by decide) ⟨rfl, N0, e5⟩
theorem own_d5_0 : decode jdk_117_method_8_code 0 = .ok (.dload_n 0, 1) := by decide +kernel
theorem own_d5_1 : decode jdk_117_method_8_code 1 = .ok (.invokestatic 38, 3) := by decide +kernel
theorem own_pd1 : parseMethodDescriptor "(D)D" = some ⟨[.double], some .double⟩ := by decide +kernel
theorem own_d5_4 : decode jdk_117_method_8_code 4 = .ok (.ldc2_w 111, 3) := by decide +kernel
theorem own_d5_7 : decode jdk_117_method_8_code 7 = .ok (.dcmp .g, 1) := by decide +kernel
theorem own_d5_8 : decode jdk_117_method_8_code 8 = .ok (.ifCond .gt 7, 3) := by decide +kernel
theorem own_d5_11 : decode jdk_117_method_8_code 11 = .ok (.iconst 1, 1) := by decide +kernel
theorem own_d5_12 : decode jdk_117_method_8_code 12 = .ok (.goto 4, 3) := by decide +kernel
theorem own_d5_16 : decode jdk_117_method_8_code 16 = .ok (.ireturn, 1) := by decide +kernel
set_option maxHeartbeats 4000000 in
theorem own_ef5 (m : MethodId) (x0 : UInt64) : entryFrame m #[(.double x0)] 2 = mkF m 0 #[.val (.double x0), .second] [] := by first | (simp [entryFrame, mkF, argsToLocals, Value.category]; done) | rfl
theorem own_pn2 : plainName "java/lang/Double" = true := by first | (simp [plainName, overriddenIn]; done) | decide +kernel
def own_Q5 (Z : State) (a0 : Array Value) (d0 : UInt64) (h0 : Heap) (n0 : Nat) (v : Option Value) (h : Heap) (L : List Loc) : Prop := v = some (.int (1 : Int32)) ∧ Fr n0 L ∧ h = h0
set_option maxRecDepth 65536 in
set_option maxHeartbeats 40000000 in
theorem own_rm5 (l : Launch) (Z : State) (a0 : Array Value) (hw : ∀ d ∈ tables_1, d.before a0 Z = true) (ws : List Jvm.Cond) (d0 : UInt64) (h0 : Heap) (n0 : Nat) (Z0 : n0 ≤ h0.size) (pn0 : Jvm.Free.Fl.NoNaN64 d0) (pn1 : ¬ ((0 : Int32) < (cmpValue (FP.dcmp (d0 &&& 0x7fffffffffffffff) (9218868437227405311 : UInt64)) .g))) :
    MetFree l (⟨"java/lang/Double", "isFinite", "(D)Z"⟩ : MethodName) (head1 (Jvm.Cond.code (⟨"java/lang/Double", "isFinite", "(D)Z"⟩ : MethodName) jdk_117_method_8_code 2 (some .boolean) :: ws) ({ frames := 1, cells := 0, slots := 0, locals := 13 } : Room)) (fun a U => a = #[(.double d0)] ∧ Z.Warmed39 U.vm ∧ U.heap = h0) (fun _ _ _ _ _ => True) (fun _ U o U' => ∃ v L, o = .returned v ∧ own_Q5 Z a0 d0 h0 n0 v U'.heap L ∧ FrameEnd U o U' L ({ frames := 1, cells := 0, slots := 0, locals := 13 } : Room).cells ({ frames := 1, cells := 0, slots := 0, locals := 13 } : Room).slots) := by
  refine own_body (Q := fun v h L => own_Q5 Z a0 d0 h0 n0 v h L) (plainFor_of_name own_pn2) ?_
  intro p e s m below meth c s₁ hx hby hml hZ hown hnm hret hlk X0 e0
  replace hml : c.maxLocals = 2 := hml
  have N0 := Fr.nil n0
  have K0 : Keep h0 h0 [] := Keep.refl _ _
  refine own_st (fun t k => castTop (own_ef5 m d0) k) ?_
  show own_Run p e below s _ _ _ (s₁.setTop (mkF m 0 #[.val (.double d0), .second] []))
  refine own_st (fun t k => XS.dloadN X0.here hx rfl (hb hby own_d5_0) rfl k) ?_
  show own_Run p e below s _ _ _ (s₁.setTop (mkF m 1 #[.val (.double d0), .second] [(.double d0)]))
  obtain ⟨T6, X6, e6, st6⟩ := natS X0 hx hZ (y := (⟨"java/lang/Math", "abs", "(D)D"⟩ : MethodName)) hown (hw _ (List.mem_of_getElem? (i := 27) rfl)) (hw _ (List.mem_of_getElem? (i := 28) rfl)) (hw _ (List.mem_of_getElem? (i := 29) rfl)) (by0 := jdk_29_method_64_code) (ml := 2) (rt := some .double) (hw _ (List.mem_of_getElem? (i := 30) rfl)) (by decide) e0 (W := 0) (F := fun a' => a' = #[(.double d0)] ∧ Jvm.Free.Fl.NoNaN64 d0) (val := .double (d0 &&& 0x7fffffffffffffff)) (val' := .double (d0 &&& 0x7fffffffffffffff)) (fun hc => Jvm.Free.Fl.Abs.absD_pays d0 hc (by decide) (by decide)) (g := (mkF m 1 #[.val (.double d0), .second] [(.double d0)])) rfl (by rw [hml]; rfl) (argsL := [(.double d0)]) (rest := []) (lenOf own_pd1 rfl) rfl (by show 2 * 0 + _ ≤ _; exact Nat.le_of_eq rfl) (hb hby own_d5_1) (by decide) (by decide) ⟨rfl, pn0⟩ (rfl)
  refine own_st st6 ?_
  show own_Run p e below s _ _ _ (T6.setTop (mkF m 4 #[.val (.double d0), .second] [(.double (d0 &&& 0x7fffffffffffffff))]))
  refine own_st (X6.ldc2DoubleC hx hown (mvT hZ (hw _ (List.mem_of_getElem? (i := 31) rfl))) (g := (mkF m 4 #[.val (.double d0), .second] [(.double (d0 &&& 0x7fffffffffffffff))])) rfl (hb hby own_d5_4)) ?_
  show own_Run p e below s _ _ _ (T6.setTop (mkF m 7 #[.val (.double d0), .second] [(.double (9218868437227405311 : UInt64)), (.double (d0 &&& 0x7fffffffffffffff))]))
  refine own_st (fun t k => XS.dcmpS X6.here hx rfl (hb hby own_d5_7) rfl (v := (cmpValue (FP.dcmp (d0 &&& 0x7fffffffffffffff) (9218868437227405311 : UInt64)) .g)) (rfl) k) ?_
  show own_Run p e below s _ _ _ (T6.setTop (mkF m 8 #[.val (.double d0), .second] [(.int (cmpValue (FP.dcmp (d0 &&& 0x7fffffffffffffff) (9218868437227405311 : UInt64)) .g))]))
  refine own_st (fun t k => XS.ifNo X6.here hx rfl (hb hby own_d5_8) rfl ((if0 _ _).trans (flt (pn1 : ¬ ((0 : Int32) < (cmpValue (FP.dcmp (d0 &&& 0x7fffffffffffffff) (9218868437227405311 : UInt64)) .g)))).2.2.1) k) ?_
  show own_Run p e below s _ _ _ (T6.setTop (mkF m 11 #[.val (.double d0), .second] []))
  refine own_st (fun t k => XS.iconst X6.here hx rfl (hb hby own_d5_11) k) ?_
  show own_Run p e below s _ _ _ (T6.setTop (mkF m 12 #[.val (.double d0), .second] [(.int (1 : Int32))]))
  refine own_st (fun t k => XS.goto X6.here hx rfl (pc0 := 12) (pc' := 16) rfl (hb hby own_d5_12) (by decide) (by decide) k) ?_
  show own_Run p e below s _ _ _ (T6.setTop (mkF m 16 #[.val (.double d0), .second] [(.int (1 : Int32))]))
  exact own_ret X6 hx hlk (t := .boolean) hret rfl (Or.inl ⟨rfl, by simp, _, rfl⟩) (hb hby own_d5_16) (by decide) (by decide) ⟨rfl, N0, e6⟩
theorem own_d4_0 : decode prog_53_method_2_code 0 = .ok (.dload_n 1, 1) := by decide +kernel
theorem own_d4_1 : decode prog_53_method_2_code 1 = .ok (.invokestatic 7, 3) := by decide +kernel
theorem own_pd3 : parseMethodDescriptor "(D)Z" = some ⟨[.double], some .boolean⟩ := by decide +kernel
theorem own_d4_4 : decode prog_53_method_2_code 4 = .ok (.ifCond .ne 17, 3) := by decide +kernel
theorem own_d4_21 : decode prog_53_method_2_code 21 = .ok (.aload_n 0, 1) := by decide +kernel
theorem own_d4_22 : decode prog_53_method_2_code 22 = .ok (.getfield 22, 3) := by decide +kernel
theorem own_d4_25 : decode prog_53_method_2_code 25 = .ok (.lconst 0, 1) := by decide +kernel
theorem own_d4_26 : decode prog_53_method_2_code 26 = .ok (.lcmp, 1) := by decide +kernel
theorem own_d4_27 : decode prog_53_method_2_code 27 = .ok (.ifCond .ne 8, 3) := by decide +kernel
theorem own_d4_30 : decode prog_53_method_2_code 30 = .ok (.aload_n 0, 1) := by decide +kernel
theorem own_d4_31 : decode prog_53_method_2_code 31 = .ok (.dload_n 1, 1) := by decide +kernel
theorem own_d4_32 : decode prog_53_method_2_code 32 = .ok (.putfield 28, 3) := by decide +kernel
theorem own_d4_35 : decode prog_53_method_2_code 35 = .ok (.dload_n 1, 1) := by decide +kernel
theorem own_d4_36 : decode prog_53_method_2_code 36 = .ok (.aload_n 0, 1) := by decide +kernel
theorem own_d4_37 : decode prog_53_method_2_code 37 = .ok (.getfield 28, 3) := by decide +kernel
theorem own_d4_40 : decode prog_53_method_2_code 40 = .ok (.dsub, 1) := by decide +kernel
theorem own_d4_41 : decode prog_53_method_2_code 41 = .ok (.dstore_n 3, 1) := by decide +kernel
theorem own_d4_42 : decode prog_53_method_2_code 42 = .ok (.aload_n 0, 1) := by decide +kernel
theorem own_d4_43 : decode prog_53_method_2_code 43 = .ok (.dup, 1) := by decide +kernel
theorem own_d4_44 : decode prog_53_method_2_code 44 = .ok (.getfield 22, 3) := by decide +kernel
theorem own_d4_47 : decode prog_53_method_2_code 47 = .ok (.lconst 1, 1) := by decide +kernel
theorem own_d4_48 : decode prog_53_method_2_code 48 = .ok (.ladd, 1) := by decide +kernel
theorem own_d4_49 : decode prog_53_method_2_code 49 = .ok (.putfield 22, 3) := by decide +kernel
theorem own_d4_52 : decode prog_53_method_2_code 52 = .ok (.dload_n 3, 1) := by decide +kernel
theorem own_d4_53 : decode prog_53_method_2_code 53 = .ok (.aload_n 0, 1) := by decide +kernel
theorem own_d4_54 : decode prog_53_method_2_code 54 = .ok (.getfield 32, 3) := by decide +kernel
theorem own_d4_57 : decode prog_53_method_2_code 57 = .ok (.dsub, 1) := by decide +kernel
theorem own_d4_58 : decode prog_53_method_2_code 58 = .ok (.dstore 5, 2) := by decide +kernel
theorem own_d4_60 : decode prog_53_method_2_code 60 = .ok (.aload_n 0, 1) := by decide +kernel
theorem own_d4_61 : decode prog_53_method_2_code 61 = .ok (.dup, 1) := by decide +kernel
theorem own_d4_62 : decode prog_53_method_2_code 62 = .ok (.getfield 32, 3) := by decide +kernel
theorem own_d4_65 : decode prog_53_method_2_code 65 = .ok (.dload 5, 2) := by decide +kernel
theorem own_d4_67 : decode prog_53_method_2_code 67 = .ok (.aload_n 0, 1) := by decide +kernel
theorem own_d4_68 : decode prog_53_method_2_code 68 = .ok (.getfield 22, 3) := by decide +kernel
theorem own_d4_71 : decode prog_53_method_2_code 71 = .ok (.l2d, 1) := by decide +kernel
theorem own_d4_72 : decode prog_53_method_2_code 72 = .ok (.ddiv, 1) := by decide +kernel
theorem own_d4_73 : decode prog_53_method_2_code 73 = .ok (.dadd, 1) := by decide +kernel
theorem own_d4_74 : decode prog_53_method_2_code 74 = .ok (.putfield 32, 3) := by decide +kernel
theorem own_d4_77 : decode prog_53_method_2_code 77 = .ok (.aload_n 0, 1) := by decide +kernel
theorem own_d4_78 : decode prog_53_method_2_code 78 = .ok (.dup, 1) := by decide +kernel
theorem own_d4_79 : decode prog_53_method_2_code 79 = .ok (.getfield 35, 3) := by decide +kernel
theorem own_d4_82 : decode prog_53_method_2_code 82 = .ok (.dload 5, 2) := by decide +kernel
theorem own_d4_84 : decode prog_53_method_2_code 84 = .ok (.dload_n 3, 1) := by decide +kernel
theorem own_d4_85 : decode prog_53_method_2_code 85 = .ok (.aload_n 0, 1) := by decide +kernel
theorem own_d4_86 : decode prog_53_method_2_code 86 = .ok (.getfield 32, 3) := by decide +kernel
theorem own_d4_89 : decode prog_53_method_2_code 89 = .ok (.dsub, 1) := by decide +kernel
theorem own_d4_90 : decode prog_53_method_2_code 90 = .ok (.dmul, 1) := by decide +kernel
theorem own_d4_91 : decode prog_53_method_2_code 91 = .ok (.dadd, 1) := by decide +kernel
theorem own_d4_92 : decode prog_53_method_2_code 92 = .ok (.putfield 35, 3) := by decide +kernel
theorem own_d4_95 : decode prog_53_method_2_code 95 = .ok (.return_, 1) := by decide +kernel
set_option maxHeartbeats 4000000 in
theorem own_ef4A (m : MethodId) (x0 : Addr) (x1 : UInt64) : entryFrame m #[(.ref x0), (.double x1)] 7 = mkF m 0 #[.val (.ref x0), .val (.double x1), .second, .unset, .unset, .unset, .unset] [] := by first | (simp [entryFrame, mkF, argsToLocals, Value.category]; done) | rfl
def own_Q4A (Z : State) (a0 : Array Value) (o0 : Addr) (d1 : UInt64) (ff : UInt64) (mm : UInt64) (qq : UInt64) (m2 : UInt64) (q2 : UInt64) (h0 : Heap) (n0 : Nat) (v : Option Value) (h : Heap) (L : List Loc) : Prop := v = none ∧ Fr n0 L ∧ Keep h0 h [o0] ∧ Exa Z h o0 "com/example/triflux/triflux/eval/Summary" ∧ Fld Z h o0 "com/example/triflux/triflux/eval/Summary" "count" "J" (.long ((0 : Int64) + (1 : Int64))) ∧ Fld Z h o0 "com/example/triflux/triflux/eval/Summary" "first" "D" (.double d1) ∧ Fld Z h o0 "com/example/triflux/triflux/eval/Summary" "shiftedMean" "D" (.double m2) ∧ Fld Z h o0 "com/example/triflux/triflux/eval/Summary" "squaredDeviations" "D" (.double q2)
set_option maxRecDepth 65536 in
set_option maxHeartbeats 40000000 in
theorem own_rm4A (l : Launch) (Z : State) (a0 : Array Value) (hw : ∀ d ∈ tables_1, d.before a0 Z = true) (ws : List Jvm.Cond) (o0 : Addr) (d1 : UInt64) (ff : UInt64) (mm : UInt64) (qq : UInt64) (m2 : UInt64) (q2 : UInt64) (h0 : Heap) (n0 : Nat) (Z0 : n0 ≤ h0.size) (E0 : Exa Z h0 o0 "com/example/triflux/triflux/eval/Summary") (G0 : n0 ≤ o0) (pc : Fld Z h0 o0 "com/example/triflux/triflux/eval/Summary" "count" "J" (.long (0 : Int64))) (pf : Fld Z h0 o0 "com/example/triflux/triflux/eval/Summary" "first" "D" (.double ff)) (pm : Fld Z h0 o0 "com/example/triflux/triflux/eval/Summary" "shiftedMean" "D" (.double mm)) (pq : Fld Z h0 o0 "com/example/triflux/triflux/eval/Summary" "squaredDeviations" "D" (.double qq)) (m0 : Jvm.Free.Fl.NoNaN64 d1) (m1 : ¬ ((0 : Int32) < (cmpValue (FP.dcmp (d1 &&& 0x7fffffffffffffff) (9218868437227405311 : UInt64)) .g))) (pn1 : Jvm.Free.Fl.NoNaN64 (FP.dsub d1 d1)) (pn2 : Jvm.Free.Fl.NoNaN64 (FP.dsub (FP.dsub d1 d1) mm)) (pn3 : Jvm.Free.Fl.NoNaN64 (FP.ddiv (FP.dsub (FP.dsub d1 d1) mm) (FP.l2d ((0 : Int64) + (1 : Int64))))) (pn4 : Jvm.Free.Fl.NoNaN64 (FP.dadd mm (FP.ddiv (FP.dsub (FP.dsub d1 d1) mm) (FP.l2d ((0 : Int64) + (1 : Int64)))))) (hm : FP.dadd mm (FP.ddiv (FP.dsub (FP.dsub d1 d1) mm) (FP.l2d ((0 : Int64) + (1 : Int64)))) = m2) (pn5 : Jvm.Free.Fl.NoNaN64 (FP.dsub (FP.dsub d1 d1) m2)) (pn6 : Jvm.Free.Fl.NoNaN64 (FP.dmul (FP.dsub (FP.dsub d1 d1) mm) (FP.dsub (FP.dsub d1 d1) m2))) (pn7 : Jvm.Free.Fl.NoNaN64 (FP.dadd qq (FP.dmul (FP.dsub (FP.dsub d1 d1) mm) (FP.dsub (FP.dsub d1 d1) m2)))) (hq : FP.dadd qq (FP.dmul (FP.dsub (FP.dsub d1 d1) mm) (FP.dsub (FP.dsub d1 d1) m2)) = q2) :
    MetFree l (⟨"com/example/triflux/triflux/eval/Summary", "add", "(D)V"⟩ : MethodName) (head1 (Jvm.Cond.code (⟨"com/example/triflux/triflux/eval/Summary", "add", "(D)V"⟩ : MethodName) prog_53_method_2_code 7 none :: ws) ({ frames := 2, cells := 0, slots := 0, locals := 26 } : Room)) (fun a U => a = #[(.ref o0), (.double d1)] ∧ Z.Warmed39 U.vm ∧ U.heap = h0) (fun _ _ _ _ _ => True) (fun _ U o U' => ∃ v L, o = .returned v ∧ own_Q4A Z a0 o0 d1 ff mm qq m2 q2 h0 n0 v U'.heap L ∧ FrameEnd U o U' L ({ frames := 2, cells := 0, slots := 0, locals := 26 } : Room).cells ({ frames := 2, cells := 0, slots := 0, locals := 26 } : Room).slots) := by
  refine own_body (Q := fun v h L => own_Q4A Z a0 o0 d1 ff mm qq m2 q2 h0 n0 v h L) (plainFor_of_name own_pn0) ?_
  intro p e s m below meth c s₁ hx hby hml hZ hown hnm hret hlk X0 e0
  replace hml : c.maxLocals = 7 := hml
  have N0 := Fr.nil n0
  have K0 : Keep h0 h0 [o0] := Keep.refl _ _
  refine own_st (fun t k => castTop (own_ef4A m o0 d1) k) ?_
  show own_Run p e below s _ _ _ (s₁.setTop (mkF m 0 #[.val (.ref o0), .val (.double d1), .second, .unset, .unset, .unset, .unset] []))
  refine own_st (fun t k => XS.dloadN X0.here hx rfl (hb hby own_d4_0) rfl k) ?_
  show own_Run p e below s _ _ _ (s₁.setTop (mkF m 1 #[.val (.ref o0), .val (.double d1), .second, .unset, .unset, .unset, .unset] [(.double d1)]))
  refine own_callS X0 hx hZ (y := (⟨"java/lang/Double", "isFinite", "(D)Z"⟩ : MethodName)) hown (hw _ (List.mem_of_getElem? (i := 23) rfl)) (hw _ (List.mem_of_getElem? (i := 24) rfl)) (hw _ (List.mem_of_getElem? (i := 26) rfl)) (hw _ (List.mem_of_getElem? (i := 25) rfl)) (by decide) e0 (argsL := [(.double d1)]) (rest := []) (W := 0) (own_rm5 l Z a0 hw [] d1 h0 n0 (Nat.le_trans Z0 K0.1) (m0) (m1)) (by decide) (by decide) (by rw [hml]; rfl) (lenOf own_pd3 rfl) rfl (by exact Nat.le_of_eq rfl) (hb hby own_d4_1) (by decide) (by decide) ?_
  intro T7 v7 L7 X7 hq7
  obtain ⟨rfl, N7q, hh7⟩ := hq7
  have N7 := Fr.app N0 N7q
  show own_Run p e below s _ _ _ (T7.setTop (mkF m 4 #[.val (.ref o0), .val (.double d1), .second, .unset, .unset, .unset, .unset] [(.int (1 : Int32))]))
  refine own_st (fun t k => XS.ifYes X7.here hx rfl (pc0 := 4) (pc' := 21) rfl (hb hby own_d4_4) rfl ((if0 _ _).trans (feq (by decide : ¬ ((1 : Int32) = (0 : Int32)))).2) (by decide) (by decide) k) ?_
  show own_Run p e below s _ _ _ (T7.setTop (mkF m 21 #[.val (.ref o0), .val (.double d1), .second, .unset, .unset, .unset, .unset] []))
  refine own_st (fun t k => XS.aloadN X7.here hx rfl (hb hby own_d4_21) rfl rfl k) ?_
  show own_Run p e below s _ _ _ (T7.setTop (mkF m 22 #[.val (.ref o0), .val (.double d1), .second, .unset, .unset, .unset, .unset] [(.ref o0)]))
  obtain ⟨T8, X8, e8, st8⟩ := getF X7 hx hZ hown (host := "") (Or.inl (hw _ (List.mem_of_getElem? (i := 15) rfl))) Via.refl hh7 pc (g := (mkF m 22 #[.val (.ref o0), .val (.double d1), .second, .unset, .unset, .unset, .unset] [(.ref o0)])) rfl rfl (hb hby own_d4_22)
  refine own_st st8 ?_
  show own_Run p e below s _ _ _ (T8.setTop (mkF m 25 #[.val (.ref o0), .val (.double d1), .second, .unset, .unset, .unset, .unset] [(.long (0 : Int64))]))
  refine own_st (fun t k => XS.lconst X8.here hx rfl (hb hby own_d4_25) k) ?_
  show own_Run p e below s _ _ _ (T8.setTop (mkF m 26 #[.val (.ref o0), .val (.double d1), .second, .unset, .unset, .unset, .unset] [(.long (0 : Int64)), (.long (0 : Int64))]))
  refine own_st (fun t k => XS.lcmp X8.here hx rfl (hb hby own_d4_26) rfl k) ?_
  show own_Run p e below s _ _ _ (T8.setTop (mkF m 27 #[.val (.ref o0), .val (.double d1), .second, .unset, .unset, .unset, .unset] [(.int (lcmpW (0 : Int64) (0 : Int64)))]))
  refine own_st (fun t k => XS.ifNo X8.here hx rfl (hb hby own_d4_27) rfl ((if0 _ _).trans (teq (by decide : (lcmpW (0 : Int64) (0 : Int64)) = (0 : Int32))).2) k) ?_
  show own_Run p e below s _ _ _ (T8.setTop (mkF m 30 #[.val (.ref o0), .val (.double d1), .second, .unset, .unset, .unset, .unset] []))
  refine own_st (fun t k => XS.aloadN X8.here hx rfl (hb hby own_d4_30) rfl rfl k) ?_
  show own_Run p e below s _ _ _ (T8.setTop (mkF m 31 #[.val (.ref o0), .val (.double d1), .second, .unset, .unset, .unset, .unset] [(.ref o0)]))
  refine own_st (fun t k => XS.dloadN X8.here hx rfl (hb hby own_d4_31) rfl k) ?_
  show own_Run p e below s _ _ _ (T8.setTop (mkF m 32 #[.val (.ref o0), .val (.double d1), .second, .unset, .unset, .unset, .unset] [(.double d1), (.ref o0)]))
  obtain ⟨T9, h9, X9, e9, W9, st9⟩ := putF X8 hx hZ hown (host := "") (Or.inl (hw _ (List.mem_of_getElem? (i := 32) rfl))) Via.refl e8 pf E0 (Or.inl (hw _ (List.mem_of_getElem? (i := 33) rfl))) (hw _ (List.mem_of_getElem? (i := 2) rfl)) (ty := .double) (by decide) rfl rfl (g := (mkF m 32 #[.val (.ref o0), .val (.double d1), .second, .unset, .unset, .unset, .unset] [(.double d1), (.ref o0)])) rfl rfl (hb hby own_d4_32)
  refine own_st st9 ?_
  have Fw9 := pf.same W9
  have N9 := Fr.snoc X9 N7 G0
  have K10 : Keep h0 h9 [o0] := K0.wr W9 (Or.inl (List.mem_of_getElem? (i := 0) rfl))
  show own_Run p e below s _ _ _ (T9.setTop (mkF m 35 #[.val (.ref o0), .val (.double d1), .second, .unset, .unset, .unset, .unset] []))
  refine own_st (fun t k => XS.dloadN X9.here hx rfl (hb hby own_d4_35) rfl k) ?_
  show own_Run p e below s _ _ _ (T9.setTop (mkF m 36 #[.val (.ref o0), .val (.double d1), .second, .unset, .unset, .unset, .unset] [(.double d1)]))
  refine own_st (fun t k => XS.aloadN X9.here hx rfl (hb hby own_d4_36) rfl rfl k) ?_
  show own_Run p e below s _ _ _ (T9.setTop (mkF m 37 #[.val (.ref o0), .val (.double d1), .second, .unset, .unset, .unset, .unset] [(.ref o0), (.double d1)]))
  obtain ⟨T12, X12, e12, st12⟩ := getF X9 hx hZ hown (host := "") (Or.inl (hw _ (List.mem_of_getElem? (i := 32) rfl))) Via.refl e9 Fw9 (g := (mkF m 37 #[.val (.ref o0), .val (.double d1), .second, .unset, .unset, .unset, .unset] [(.ref o0), (.double d1)])) rfl rfl (hb hby own_d4_37)
  refine own_st st12 ?_
  show own_Run p e below s _ _ _ (T12.setTop (mkF m 40 #[.val (.ref o0), .val (.double d1), .second, .unset, .unset, .unset, .unset] [(.double d1), (.double d1)]))
  refine own_st (fun t k => XS.dsubS X12.here hx rfl (hb hby own_d4_40) rfl (pn1) (v := (FP.dsub d1 d1)) (rfl) k) ?_
  show own_Run p e below s _ _ _ (T12.setTop (mkF m 41 #[.val (.ref o0), .val (.double d1), .second, .unset, .unset, .unset, .unset] [(.double (FP.dsub d1 d1))]))
  refine own_st (fun t k => XS.dstoreN X12.here hx rfl (hb hby own_d4_41) rfl (l' := #[.val (.ref o0), .val (.double d1), .second, .val (.double (FP.dsub d1 d1)), .second, .unset, .unset]) rfl k) ?_
  show own_Run p e below s _ _ _ (T12.setTop (mkF m 42 #[.val (.ref o0), .val (.double d1), .second, .val (.double (FP.dsub d1 d1)), .second, .unset, .unset] []))
  refine own_st (fun t k => XS.aloadN X12.here hx rfl (hb hby own_d4_42) rfl rfl k) ?_
  show own_Run p e below s _ _ _ (T12.setTop (mkF m 43 #[.val (.ref o0), .val (.double d1), .second, .val (.double (FP.dsub d1 d1)), .second, .unset, .unset] [(.ref o0)]))
  refine own_st (fun t k => XS.dup X12.here hx rfl (hb hby own_d4_43) rfl rfl k) ?_
  show own_Run p e below s _ _ _ (T12.setTop (mkF m 44 #[.val (.ref o0), .val (.double d1), .second, .val (.double (FP.dsub d1 d1)), .second, .unset, .unset] [(.ref o0), (.ref o0)]))
  have F13 := (pc.other W9 (Or.inr (slot_ne (Or.inl (hw _ (List.mem_of_getElem? (i := 16) rfl))) (Or.inl (hw _ (List.mem_of_getElem? (i := 33) rfl))) (by decide) (t := .long) (t' := .double) (by decide) (by decide))))
  obtain ⟨T14, X14, e14, st14⟩ := getF X12 hx hZ hown (host := "") (Or.inl (hw _ (List.mem_of_getElem? (i := 15) rfl))) Via.refl e12 F13 (g := (mkF m 44 #[.val (.ref o0), .val (.double d1), .second, .val (.double (FP.dsub d1 d1)), .second, .unset, .unset] [(.ref o0), (.ref o0)])) rfl rfl (hb hby own_d4_44)
  refine own_st st14 ?_
  show own_Run p e below s _ _ _ (T14.setTop (mkF m 47 #[.val (.ref o0), .val (.double d1), .second, .val (.double (FP.dsub d1 d1)), .second, .unset, .unset] [(.long (0 : Int64)), (.ref o0)]))
  refine own_st (fun t k => XS.lconst X14.here hx rfl (hb hby own_d4_47) k) ?_
  show own_Run p e below s _ _ _ (T14.setTop (mkF m 48 #[.val (.ref o0), .val (.double d1), .second, .val (.double (FP.dsub d1 d1)), .second, .unset, .unset] [(.long (1 : Int64)), (.long (0 : Int64)), (.ref o0)]))
  refine own_st (fun t k => XS.ladd X14.here hx rfl (hb hby own_d4_48) rfl k) ?_
  show own_Run p e below s _ _ _ (T14.setTop (mkF m 49 #[.val (.ref o0), .val (.double d1), .second, .val (.double (FP.dsub d1 d1)), .second, .unset, .unset] [(.long ((0 : Int64) + (1 : Int64))), (.ref o0)]))
  have E15 := (E0.wr W9)
  obtain ⟨T16, h16, X16, e16, W16, st16⟩ := putF X14 hx hZ hown (host := "") (Or.inl (hw _ (List.mem_of_getElem? (i := 15) rfl))) Via.refl e14 F13 E15 (Or.inl (hw _ (List.mem_of_getElem? (i := 16) rfl))) (hw _ (List.mem_of_getElem? (i := 2) rfl)) (ty := .long) (by decide) rfl rfl (g := (mkF m 49 #[.val (.ref o0), .val (.double d1), .second, .val (.double (FP.dsub d1 d1)), .second, .unset, .unset] [(.long ((0 : Int64) + (1 : Int64))), (.ref o0)])) rfl rfl (hb hby own_d4_49)
  refine own_st st16 ?_
  have Fw16 := F13.same W16
  have N16 := Fr.snoc X16 N9 G0
  have K17 : Keep h0 h16 [o0] := K10.wr W16 (Or.inl (List.mem_of_getElem? (i := 0) rfl))
  show own_Run p e below s _ _ _ (T16.setTop (mkF m 52 #[.val (.ref o0), .val (.double d1), .second, .val (.double (FP.dsub d1 d1)), .second, .unset, .unset] []))
  refine own_st (fun t k => XS.dloadN X16.here hx rfl (hb hby own_d4_52) rfl k) ?_
  show own_Run p e below s _ _ _ (T16.setTop (mkF m 53 #[.val (.ref o0), .val (.double d1), .second, .val (.double (FP.dsub d1 d1)), .second, .unset, .unset] [(.double (FP.dsub d1 d1))]))
  refine own_st (fun t k => XS.aloadN X16.here hx rfl (hb hby own_d4_53) rfl rfl k) ?_
  show own_Run p e below s _ _ _ (T16.setTop (mkF m 54 #[.val (.ref o0), .val (.double d1), .second, .val (.double (FP.dsub d1 d1)), .second, .unset, .unset] [(.ref o0), (.double (FP.dsub d1 d1))]))
  have F19 := ((pm.other W9 (Or.inr (slot_ne (Or.inl (hw _ (List.mem_of_getElem? (i := 35) rfl))) (Or.inl (hw _ (List.mem_of_getElem? (i := 33) rfl))) (by decide) (t := .double) (t' := .double) (by decide) (by decide)))).other W16 (Or.inr (slot_ne (Or.inl (hw _ (List.mem_of_getElem? (i := 35) rfl))) (Or.inl (hw _ (List.mem_of_getElem? (i := 16) rfl))) (by decide) (t := .double) (t' := .long) (by decide) (by decide))))
  obtain ⟨T20, X20, e20, st20⟩ := getF X16 hx hZ hown (host := "") (Or.inl (hw _ (List.mem_of_getElem? (i := 34) rfl))) Via.refl e16 F19 (g := (mkF m 54 #[.val (.ref o0), .val (.double d1), .second, .val (.double (FP.dsub d1 d1)), .second, .unset, .unset] [(.ref o0), (.double (FP.dsub d1 d1))])) rfl rfl (hb hby own_d4_54)
  refine own_st st20 ?_
  show own_Run p e below s _ _ _ (T20.setTop (mkF m 57 #[.val (.ref o0), .val (.double d1), .second, .val (.double (FP.dsub d1 d1)), .second, .unset, .unset] [(.double mm), (.double (FP.dsub d1 d1))]))
  refine own_st (fun t k => XS.dsubS X20.here hx rfl (hb hby own_d4_57) rfl (pn2) (v := (FP.dsub (FP.dsub d1 d1) mm)) (rfl) k) ?_
  show own_Run p e below s _ _ _ (T20.setTop (mkF m 58 #[.val (.ref o0), .val (.double d1), .second, .val (.double (FP.dsub d1 d1)), .second, .unset, .unset] [(.double (FP.dsub (FP.dsub d1 d1) mm))]))
  refine own_st (fun t k => XS.dstore X20.here hx rfl (hb hby own_d4_58) rfl (l' := #[.val (.ref o0), .val (.double d1), .second, .val (.double (FP.dsub d1 d1)), .second, .val (.double (FP.dsub (FP.dsub d1 d1) mm)), .second]) rfl k) ?_
  show own_Run p e below s _ _ _ (T20.setTop (mkF m 60 #[.val (.ref o0), .val (.double d1), .second, .val (.double (FP.dsub d1 d1)), .second, .val (.double (FP.dsub (FP.dsub d1 d1) mm)), .second] []))
  refine own_st (fun t k => XS.aloadN X20.here hx rfl (hb hby own_d4_60) rfl rfl k) ?_
  show own_Run p e below s _ _ _ (T20.setTop (mkF m 61 #[.val (.ref o0), .val (.double d1), .second, .val (.double (FP.dsub d1 d1)), .second, .val (.double (FP.dsub (FP.dsub d1 d1) mm)), .second] [(.ref o0)]))
  refine own_st (fun t k => XS.dup X20.here hx rfl (hb hby own_d4_61) rfl rfl k) ?_
  show own_Run p e below s _ _ _ (T20.setTop (mkF m 62 #[.val (.ref o0), .val (.double d1), .second, .val (.double (FP.dsub d1 d1)), .second, .val (.double (FP.dsub (FP.dsub d1 d1) mm)), .second] [(.ref o0), (.ref o0)]))
  obtain ⟨T21, X21, e21, st21⟩ := getF X20 hx hZ hown (host := "") (Or.inl (hw _ (List.mem_of_getElem? (i := 34) rfl))) Via.refl e20 F19 (g := (mkF m 62 #[.val (.ref o0), .val (.double d1), .second, .val (.double (FP.dsub d1 d1)), .second, .val (.double (FP.dsub (FP.dsub d1 d1) mm)), .second] [(.ref o0), (.ref o0)])) rfl rfl (hb hby own_d4_62)
  refine own_st st21 ?_
  show own_Run p e below s _ _ _ (T21.setTop (mkF m 65 #[.val (.ref o0), .val (.double d1), .second, .val (.double (FP.dsub d1 d1)), .second, .val (.double (FP.dsub (FP.dsub d1 d1) mm)), .second] [(.double mm), (.ref o0)]))
  refine own_st (fun t k => XS.dload X21.here hx rfl (hb hby own_d4_65) rfl k) ?_
  show own_Run p e below s _ _ _ (T21.setTop (mkF m 67 #[.val (.ref o0), .val (.double d1), .second, .val (.double (FP.dsub d1 d1)), .second, .val (.double (FP.dsub (FP.dsub d1 d1) mm)), .second] [(.double (FP.dsub (FP.dsub d1 d1) mm)), (.double mm), (.ref o0)]))
  refine own_st (fun t k => XS.aloadN X21.here hx rfl (hb hby own_d4_67) rfl rfl k) ?_
  show own_Run p e below s _ _ _ (T21.setTop (mkF m 68 #[.val (.ref o0), .val (.double d1), .second, .val (.double (FP.dsub d1 d1)), .second, .val (.double (FP.dsub (FP.dsub d1 d1) mm)), .second] [(.ref o0), (.double (FP.dsub (FP.dsub d1 d1) mm)), (.double mm), (.ref o0)]))
  obtain ⟨T22, X22, e22, st22⟩ := getF X21 hx hZ hown (host := "") (Or.inl (hw _ (List.mem_of_getElem? (i := 15) rfl))) Via.refl e21 Fw16 (g := (mkF m 68 #[.val (.ref o0), .val (.double d1), .second, .val (.double (FP.dsub d1 d1)), .second, .val (.double (FP.dsub (FP.dsub d1 d1) mm)), .second] [(.ref o0), (.double (FP.dsub (FP.dsub d1 d1) mm)), (.double mm), (.ref o0)])) rfl rfl (hb hby own_d4_68)
  refine own_st st22 ?_
  show own_Run p e below s _ _ _ (T22.setTop (mkF m 71 #[.val (.ref o0), .val (.double d1), .second, .val (.double (FP.dsub d1 d1)), .second, .val (.double (FP.dsub (FP.dsub d1 d1) mm)), .second] [(.long ((0 : Int64) + (1 : Int64))), (.double (FP.dsub (FP.dsub d1 d1) mm)), (.double mm), (.ref o0)]))
  refine own_st (fun t k => XS.l2dS X22.here hx rfl (hb hby own_d4_71) rfl (v := (FP.l2d ((0 : Int64) + (1 : Int64)))) (rfl) k) ?_
  show own_Run p e below s _ _ _ (T22.setTop (mkF m 72 #[.val (.ref o0), .val (.double d1), .second, .val (.double (FP.dsub d1 d1)), .second, .val (.double (FP.dsub (FP.dsub d1 d1) mm)), .second] [(.double (FP.l2d ((0 : Int64) + (1 : Int64)))), (.double (FP.dsub (FP.dsub d1 d1) mm)), (.double mm), (.ref o0)]))
  refine own_st (fun t k => XS.ddivS X22.here hx rfl (hb hby own_d4_72) rfl (pn3) (v := (FP.ddiv (FP.dsub (FP.dsub d1 d1) mm) (FP.l2d ((0 : Int64) + (1 : Int64))))) (rfl) k) ?_
  show own_Run p e below s _ _ _ (T22.setTop (mkF m 73 #[.val (.ref o0), .val (.double d1), .second, .val (.double (FP.dsub d1 d1)), .second, .val (.double (FP.dsub (FP.dsub d1 d1) mm)), .second] [(.double (FP.ddiv (FP.dsub (FP.dsub d1 d1) mm) (FP.l2d ((0 : Int64) + (1 : Int64))))), (.double mm), (.ref o0)]))
  refine own_st (fun t k => XS.daddS X22.here hx rfl (hb hby own_d4_73) rfl (pn4) (v := m2) (hm) k) ?_
  show own_Run p e below s _ _ _ (T22.setTop (mkF m 74 #[.val (.ref o0), .val (.double d1), .second, .val (.double (FP.dsub d1 d1)), .second, .val (.double (FP.dsub (FP.dsub d1 d1) mm)), .second] [(.double m2), (.ref o0)]))
  have E23 := (E15.wr W16)
  obtain ⟨T24, h24, X24, e24, W24, st24⟩ := putF X22 hx hZ hown (host := "") (Or.inl (hw _ (List.mem_of_getElem? (i := 34) rfl))) Via.refl e22 F19 E23 (Or.inl (hw _ (List.mem_of_getElem? (i := 35) rfl))) (hw _ (List.mem_of_getElem? (i := 2) rfl)) (ty := .double) (by decide) rfl rfl (g := (mkF m 74 #[.val (.ref o0), .val (.double d1), .second, .val (.double (FP.dsub d1 d1)), .second, .val (.double (FP.dsub (FP.dsub d1 d1) mm)), .second] [(.double m2), (.ref o0)])) rfl rfl (hb hby own_d4_74)
  refine own_st st24 ?_
  have Fw24 := F19.same W24
  have N24 := Fr.snoc X24 N16 G0
  have K25 : Keep h0 h24 [o0] := K17.wr W24 (Or.inl (List.mem_of_getElem? (i := 0) rfl))
  show own_Run p e below s _ _ _ (T24.setTop (mkF m 77 #[.val (.ref o0), .val (.double d1), .second, .val (.double (FP.dsub d1 d1)), .second, .val (.double (FP.dsub (FP.dsub d1 d1) mm)), .second] []))
  refine own_st (fun t k => XS.aloadN X24.here hx rfl (hb hby own_d4_77) rfl rfl k) ?_
  show own_Run p e below s _ _ _ (T24.setTop (mkF m 78 #[.val (.ref o0), .val (.double d1), .second, .val (.double (FP.dsub d1 d1)), .second, .val (.double (FP.dsub (FP.dsub d1 d1) mm)), .second] [(.ref o0)]))
  refine own_st (fun t k => XS.dup X24.here hx rfl (hb hby own_d4_78) rfl rfl k) ?_
  show own_Run p e below s _ _ _ (T24.setTop (mkF m 79 #[.val (.ref o0), .val (.double d1), .second, .val (.double (FP.dsub d1 d1)), .second, .val (.double (FP.dsub (FP.dsub d1 d1) mm)), .second] [(.ref o0), (.ref o0)]))
  have F27 := (((pq.other W9 (Or.inr (slot_ne (Or.inl (hw _ (List.mem_of_getElem? (i := 37) rfl))) (Or.inl (hw _ (List.mem_of_getElem? (i := 33) rfl))) (by decide) (t := .double) (t' := .double) (by decide) (by decide)))).other W16 (Or.inr (slot_ne (Or.inl (hw _ (List.mem_of_getElem? (i := 37) rfl))) (Or.inl (hw _ (List.mem_of_getElem? (i := 16) rfl))) (by decide) (t := .double) (t' := .long) (by decide) (by decide)))).other W24 (Or.inr (slot_ne (Or.inl (hw _ (List.mem_of_getElem? (i := 37) rfl))) (Or.inl (hw _ (List.mem_of_getElem? (i := 35) rfl))) (by decide) (t := .double) (t' := .double) (by decide) (by decide))))
  obtain ⟨T28, X28, e28, st28⟩ := getF X24 hx hZ hown (host := "") (Or.inl (hw _ (List.mem_of_getElem? (i := 36) rfl))) Via.refl e24 F27 (g := (mkF m 79 #[.val (.ref o0), .val (.double d1), .second, .val (.double (FP.dsub d1 d1)), .second, .val (.double (FP.dsub (FP.dsub d1 d1) mm)), .second] [(.ref o0), (.ref o0)])) rfl rfl (hb hby own_d4_79)
  refine own_st st28 ?_
  show own_Run p e below s _ _ _ (T28.setTop (mkF m 82 #[.val (.ref o0), .val (.double d1), .second, .val (.double (FP.dsub d1 d1)), .second, .val (.double (FP.dsub (FP.dsub d1 d1) mm)), .second] [(.double qq), (.ref o0)]))
  refine own_st (fun t k => XS.dload X28.here hx rfl (hb hby own_d4_82) rfl k) ?_
  show own_Run p e below s _ _ _ (T28.setTop (mkF m 84 #[.val (.ref o0), .val (.double d1), .second, .val (.double (FP.dsub d1 d1)), .second, .val (.double (FP.dsub (FP.dsub d1 d1) mm)), .second] [(.double (FP.dsub (FP.dsub d1 d1) mm)), (.double qq), (.ref o0)]))
  refine own_st (fun t k => XS.dloadN X28.here hx rfl (hb hby own_d4_84) rfl k) ?_
  show own_Run p e below s _ _ _ (T28.setTop (mkF m 85 #[.val (.ref o0), .val (.double d1), .second, .val (.double (FP.dsub d1 d1)), .second, .val (.double (FP.dsub (FP.dsub d1 d1) mm)), .second] [(.double (FP.dsub d1 d1)), (.double (FP.dsub (FP.dsub d1 d1) mm)), (.double qq), (.ref o0)]))
  refine own_st (fun t k => XS.aloadN X28.here hx rfl (hb hby own_d4_85) rfl rfl k) ?_
  show own_Run p e below s _ _ _ (T28.setTop (mkF m 86 #[.val (.ref o0), .val (.double d1), .second, .val (.double (FP.dsub d1 d1)), .second, .val (.double (FP.dsub (FP.dsub d1 d1) mm)), .second] [(.ref o0), (.double (FP.dsub d1 d1)), (.double (FP.dsub (FP.dsub d1 d1) mm)), (.double qq), (.ref o0)]))
  obtain ⟨T29, X29, e29, st29⟩ := getF X28 hx hZ hown (host := "") (Or.inl (hw _ (List.mem_of_getElem? (i := 34) rfl))) Via.refl e28 Fw24 (g := (mkF m 86 #[.val (.ref o0), .val (.double d1), .second, .val (.double (FP.dsub d1 d1)), .second, .val (.double (FP.dsub (FP.dsub d1 d1) mm)), .second] [(.ref o0), (.double (FP.dsub d1 d1)), (.double (FP.dsub (FP.dsub d1 d1) mm)), (.double qq), (.ref o0)])) rfl rfl (hb hby own_d4_86)
  refine own_st st29 ?_
  show own_Run p e below s _ _ _ (T29.setTop (mkF m 89 #[.val (.ref o0), .val (.double d1), .second, .val (.double (FP.dsub d1 d1)), .second, .val (.double (FP.dsub (FP.dsub d1 d1) mm)), .second] [(.double m2), (.double (FP.dsub d1 d1)), (.double (FP.dsub (FP.dsub d1 d1) mm)), (.double qq), (.ref o0)]))
  refine own_st (fun t k => XS.dsubS X29.here hx rfl (hb hby own_d4_89) rfl (pn5) (v := (FP.dsub (FP.dsub d1 d1) m2)) (rfl) k) ?_
  show own_Run p e below s _ _ _ (T29.setTop (mkF m 90 #[.val (.ref o0), .val (.double d1), .second, .val (.double (FP.dsub d1 d1)), .second, .val (.double (FP.dsub (FP.dsub d1 d1) mm)), .second] [(.double (FP.dsub (FP.dsub d1 d1) m2)), (.double (FP.dsub (FP.dsub d1 d1) mm)), (.double qq), (.ref o0)]))
  refine own_st (fun t k => XS.dmulS X29.here hx rfl (hb hby own_d4_90) rfl (pn6) (v := (FP.dmul (FP.dsub (FP.dsub d1 d1) mm) (FP.dsub (FP.dsub d1 d1) m2))) (rfl) k) ?_
  show own_Run p e below s _ _ _ (T29.setTop (mkF m 91 #[.val (.ref o0), .val (.double d1), .second, .val (.double (FP.dsub d1 d1)), .second, .val (.double (FP.dsub (FP.dsub d1 d1) mm)), .second] [(.double (FP.dmul (FP.dsub (FP.dsub d1 d1) mm) (FP.dsub (FP.dsub d1 d1) m2))), (.double qq), (.ref o0)]))
  refine own_st (fun t k => XS.daddS X29.here hx rfl (hb hby own_d4_91) rfl (pn7) (v := q2) (hq) k) ?_
  show own_Run p e below s _ _ _ (T29.setTop (mkF m 92 #[.val (.ref o0), .val (.double d1), .second, .val (.double (FP.dsub d1 d1)), .second, .val (.double (FP.dsub (FP.dsub d1 d1) mm)), .second] [(.double q2), (.ref o0)]))
  have E30 := (E23.wr W24)
  obtain ⟨T31, h31, X31, e31, W31, st31⟩ := putF X29 hx hZ hown (host := "") (Or.inl (hw _ (List.mem_of_getElem? (i := 36) rfl))) Via.refl e29 F27 E30 (Or.inl (hw _ (List.mem_of_getElem? (i := 37) rfl))) (hw _ (List.mem_of_getElem? (i := 2) rfl)) (ty := .double) (by decide) rfl rfl (g := (mkF m 92 #[.val (.ref o0), .val (.double d1), .second, .val (.double (FP.dsub d1 d1)), .second, .val (.double (FP.dsub (FP.dsub d1 d1) mm)), .second] [(.double q2), (.ref o0)])) rfl rfl (hb hby own_d4_92)
  refine own_st st31 ?_
  have Fw31 := F27.same W31
  have N31 := Fr.snoc X31 N24 G0
  have K32 : Keep h0 h31 [o0] := K25.wr W31 (Or.inl (List.mem_of_getElem? (i := 0) rfl))
  show own_Run p e below s _ _ _ (T31.setTop (mkF m 95 #[.val (.ref o0), .val (.double d1), .second, .val (.double (FP.dsub d1 d1)), .second, .val (.double (FP.dsub (FP.dsub d1 d1) mm)), .second] []))
  have hQe := e31
  subst hQe
  have E34 := (E30.wr W31)
  have F35 := ((Fw16.other W24 (Or.inr (slot_ne (Or.inl (hw _ (List.mem_of_getElem? (i := 16) rfl))) (Or.inl (hw _ (List.mem_of_getElem? (i := 35) rfl))) (by decide) (t := .long) (t' := .double) (by decide) (by decide)))).other W31 (Or.inr (slot_ne (Or.inl (hw _ (List.mem_of_getElem? (i := 16) rfl))) (Or.inl (hw _ (List.mem_of_getElem? (i := 37) rfl))) (by decide) (t := .long) (t' := .double) (by decide) (by decide))))
  have F36 := (((Fw9.other W16 (Or.inr (slot_ne (Or.inl (hw _ (List.mem_of_getElem? (i := 33) rfl))) (Or.inl (hw _ (List.mem_of_getElem? (i := 16) rfl))) (by decide) (t := .double) (t' := .long) (by decide) (by decide)))).other W24 (Or.inr (slot_ne (Or.inl (hw _ (List.mem_of_getElem? (i := 33) rfl))) (Or.inl (hw _ (List.mem_of_getElem? (i := 35) rfl))) (by decide) (t := .double) (t' := .double) (by decide) (by decide)))).other W31 (Or.inr (slot_ne (Or.inl (hw _ (List.mem_of_getElem? (i := 33) rfl))) (Or.inl (hw _ (List.mem_of_getElem? (i := 37) rfl))) (by decide) (t := .double) (t' := .double) (by decide) (by decide))))
  have F37 := (Fw24.other W31 (Or.inr (slot_ne (Or.inl (hw _ (List.mem_of_getElem? (i := 35) rfl))) (Or.inl (hw _ (List.mem_of_getElem? (i := 37) rfl))) (by decide) (t := .double) (t' := .double) (by decide) (by decide))))
  exact own_retV X31 hx hlk hret (hb hby own_d4_95) (by decide) (by decide) ⟨rfl, N31, K32, E34, F35, F36, F37, Fw31⟩
set_option maxHeartbeats 4000000 in
theorem own_ef4B (m : MethodId) (x0 : Addr) (x1 : UInt64) : entryFrame m #[(.ref x0), (.double x1)] 7 = mkF m 0 #[.val (.ref x0), .val (.double x1), .second, .unset, .unset, .unset, .unset] [] := by first | (simp [entryFrame, mkF, argsToLocals, Value.category]; done) | rfl
def own_Q4B (Z : State) (a0 : Array Value) (o0 : Addr) (d1 : UInt64) (cn : Int64) (ff : UInt64) (mm : UInt64) (qq : UInt64) (m2 : UInt64) (q2 : UInt64) (h0 : Heap) (n0 : Nat) (v : Option Value) (h : Heap) (L : List Loc) : Prop := v = none ∧ Fr n0 L ∧ Keep h0 h [o0] ∧ Exa Z h o0 "com/example/triflux/triflux/eval/Summary" ∧ Fld Z h o0 "com/example/triflux/triflux/eval/Summary" "count" "J" (.long (cn + (1 : Int64))) ∧ Fld Z h o0 "com/example/triflux/triflux/eval/Summary" "first" "D" (.double ff) ∧ Fld Z h o0 "com/example/triflux/triflux/eval/Summary" "shiftedMean" "D" (.double m2) ∧ Fld Z h o0 "com/example/triflux/triflux/eval/Summary" "squaredDeviations" "D" (.double q2)
set_option maxRecDepth 65536 in
set_option maxHeartbeats 40000000 in
theorem own_rm4B (l : Launch) (Z : State) (a0 : Array Value) (hw : ∀ d ∈ tables_1, d.before a0 Z = true) (ws : List Jvm.Cond) (o0 : Addr) (d1 : UInt64) (cn : Int64) (ff : UInt64) (mm : UInt64) (qq : UInt64) (m2 : UInt64) (q2 : UInt64) (h0 : Heap) (n0 : Nat) (Z0 : n0 ≤ h0.size) (E0 : Exa Z h0 o0 "com/example/triflux/triflux/eval/Summary") (G0 : n0 ≤ o0) (pc : Fld Z h0 o0 "com/example/triflux/triflux/eval/Summary" "count" "J" (.long cn)) (pf : Fld Z h0 o0 "com/example/triflux/triflux/eval/Summary" "first" "D" (.double ff)) (pm : Fld Z h0 o0 "com/example/triflux/triflux/eval/Summary" "shiftedMean" "D" (.double mm)) (pq : Fld Z h0 o0 "com/example/triflux/triflux/eval/Summary" "squaredDeviations" "D" (.double qq)) (hc : cn ≠ 0) (m0 : Jvm.Free.Fl.NoNaN64 d1) (m1 : ¬ ((0 : Int32) < (cmpValue (FP.dcmp (d1 &&& 0x7fffffffffffffff) (9218868437227405311 : UInt64)) .g))) (pn1 : Jvm.Free.Fl.NoNaN64 (FP.dsub d1 ff)) (pn2 : Jvm.Free.Fl.NoNaN64 (FP.dsub (FP.dsub d1 ff) mm)) (pn3 : Jvm.Free.Fl.NoNaN64 (FP.ddiv (FP.dsub (FP.dsub d1 ff) mm) (FP.l2d (cn + (1 : Int64))))) (pn4 : Jvm.Free.Fl.NoNaN64 (FP.dadd mm (FP.ddiv (FP.dsub (FP.dsub d1 ff) mm) (FP.l2d (cn + (1 : Int64)))))) (hm : FP.dadd mm (FP.ddiv (FP.dsub (FP.dsub d1 ff) mm) (FP.l2d (cn + (1 : Int64)))) = m2) (pn5 : Jvm.Free.Fl.NoNaN64 (FP.dsub (FP.dsub d1 ff) m2)) (pn6 : Jvm.Free.Fl.NoNaN64 (FP.dmul (FP.dsub (FP.dsub d1 ff) mm) (FP.dsub (FP.dsub d1 ff) m2))) (pn7 : Jvm.Free.Fl.NoNaN64 (FP.dadd qq (FP.dmul (FP.dsub (FP.dsub d1 ff) mm) (FP.dsub (FP.dsub d1 ff) m2)))) (hq : FP.dadd qq (FP.dmul (FP.dsub (FP.dsub d1 ff) mm) (FP.dsub (FP.dsub d1 ff) m2)) = q2) :
    MetFree l (⟨"com/example/triflux/triflux/eval/Summary", "add", "(D)V"⟩ : MethodName) (head1 (Jvm.Cond.code (⟨"com/example/triflux/triflux/eval/Summary", "add", "(D)V"⟩ : MethodName) prog_53_method_2_code 7 none :: ws) ({ frames := 2, cells := 0, slots := 0, locals := 26 } : Room)) (fun a U => a = #[(.ref o0), (.double d1)] ∧ Z.Warmed39 U.vm ∧ U.heap = h0) (fun _ _ _ _ _ => True) (fun _ U o U' => ∃ v L, o = .returned v ∧ own_Q4B Z a0 o0 d1 cn ff mm qq m2 q2 h0 n0 v U'.heap L ∧ FrameEnd U o U' L ({ frames := 2, cells := 0, slots := 0, locals := 26 } : Room).cells ({ frames := 2, cells := 0, slots := 0, locals := 26 } : Room).slots) := by
  refine own_body (Q := fun v h L => own_Q4B Z a0 o0 d1 cn ff mm qq m2 q2 h0 n0 v h L) (plainFor_of_name own_pn0) ?_
  intro p e s m below meth c s₁ hx hby hml hZ hown hnm hret hlk X0 e0
  replace hml : c.maxLocals = 7 := hml
  have N0 := Fr.nil n0
  have K0 : Keep h0 h0 [o0] := Keep.refl _ _
  refine own_st (fun t k => castTop (own_ef4B m o0 d1) k) ?_
  show own_Run p e below s _ _ _ (s₁.setTop (mkF m 0 #[.val (.ref o0), .val (.double d1), .second, .unset, .unset, .unset, .unset] []))
  refine own_st (fun t k => XS.dloadN X0.here hx rfl (hb hby own_d4_0) rfl k) ?_
  show own_Run p e below s _ _ _ (s₁.setTop (mkF m 1 #[.val (.ref o0), .val (.double d1), .second, .unset, .unset, .unset, .unset] [(.double d1)]))
  refine own_callS X0 hx hZ (y := (⟨"java/lang/Double", "isFinite", "(D)Z"⟩ : MethodName)) hown (hw _ (List.mem_of_getElem? (i := 23) rfl)) (hw _ (List.mem_of_getElem? (i := 24) rfl)) (hw _ (List.mem_of_getElem? (i := 26) rfl)) (hw _ (List.mem_of_getElem? (i := 25) rfl)) (by decide) e0 (argsL := [(.double d1)]) (rest := []) (W := 0) (own_rm5 l Z a0 hw [] d1 h0 n0 (Nat.le_trans Z0 K0.1) (m0) (m1)) (by decide) (by decide) (by rw [hml]; rfl) (lenOf own_pd3 rfl) rfl (by exact Nat.le_of_eq rfl) (hb hby own_d4_1) (by decide) (by decide) ?_
  intro T38 v38 L38 X38 hq38
  obtain ⟨rfl, N38q, hh38⟩ := hq38
  have N38 := Fr.app N0 N38q
  show own_Run p e below s _ _ _ (T38.setTop (mkF m 4 #[.val (.ref o0), .val (.double d1), .second, .unset, .unset, .unset, .unset] [(.int (1 : Int32))]))
  refine own_st (fun t k => XS.ifYes X38.here hx rfl (pc0 := 4) (pc' := 21) rfl (hb hby own_d4_4) rfl ((if0 _ _).trans (feq (by decide : ¬ ((1 : Int32) = (0 : Int32)))).2) (by decide) (by decide) k) ?_
  show own_Run p e below s _ _ _ (T38.setTop (mkF m 21 #[.val (.ref o0), .val (.double d1), .second, .unset, .unset, .unset, .unset] []))
  refine own_st (fun t k => XS.aloadN X38.here hx rfl (hb hby own_d4_21) rfl rfl k) ?_
  show own_Run p e below s _ _ _ (T38.setTop (mkF m 22 #[.val (.ref o0), .val (.double d1), .second, .unset, .unset, .unset, .unset] [(.ref o0)]))
  obtain ⟨T39, X39, e39, st39⟩ := getF X38 hx hZ hown (host := "") (Or.inl (hw _ (List.mem_of_getElem? (i := 15) rfl))) Via.refl hh38 pc (g := (mkF m 22 #[.val (.ref o0), .val (.double d1), .second, .unset, .unset, .unset, .unset] [(.ref o0)])) rfl rfl (hb hby own_d4_22)
  refine own_st st39 ?_
  show own_Run p e below s _ _ _ (T39.setTop (mkF m 25 #[.val (.ref o0), .val (.double d1), .second, .unset, .unset, .unset, .unset] [(.long cn)]))
  refine own_st (fun t k => XS.lconst X39.here hx rfl (hb hby own_d4_25) k) ?_
  show own_Run p e below s _ _ _ (T39.setTop (mkF m 26 #[.val (.ref o0), .val (.double d1), .second, .unset, .unset, .unset, .unset] [(.long (0 : Int64)), (.long cn)]))
  refine own_st (fun t k => XS.lcmp X39.here hx rfl (hb hby own_d4_26) rfl k) ?_
  show own_Run p e below s _ _ _ (T39.setTop (mkF m 27 #[.val (.ref o0), .val (.double d1), .second, .unset, .unset, .unset, .unset] [(.int (lcmpW cn (0 : Int64)))]))
  refine own_st (fun t k => XS.ifYes X39.here hx rfl (pc0 := 27) (pc' := 35) rfl (hb hby own_d4_27) rfl ((if0 _ _).trans (feq (fun z => hc ((lw_eq _ _).mp z) : ¬ ((lcmpW cn (0 : Int64)) = (0 : Int32)))).2) (by decide) (by decide) k) ?_
  show own_Run p e below s _ _ _ (T39.setTop (mkF m 35 #[.val (.ref o0), .val (.double d1), .second, .unset, .unset, .unset, .unset] []))
  refine own_st (fun t k => XS.dloadN X39.here hx rfl (hb hby own_d4_35) rfl k) ?_
  show own_Run p e below s _ _ _ (T39.setTop (mkF m 36 #[.val (.ref o0), .val (.double d1), .second, .unset, .unset, .unset, .unset] [(.double d1)]))
  refine own_st (fun t k => XS.aloadN X39.here hx rfl (hb hby own_d4_36) rfl rfl k) ?_
  show own_Run p e below s _ _ _ (T39.setTop (mkF m 37 #[.val (.ref o0), .val (.double d1), .second, .unset, .unset, .unset, .unset] [(.ref o0), (.double d1)]))
  obtain ⟨T40, X40, e40, st40⟩ := getF X39 hx hZ hown (host := "") (Or.inl (hw _ (List.mem_of_getElem? (i := 32) rfl))) Via.refl e39 pf (g := (mkF m 37 #[.val (.ref o0), .val (.double d1), .second, .unset, .unset, .unset, .unset] [(.ref o0), (.double d1)])) rfl rfl (hb hby own_d4_37)
  refine own_st st40 ?_
  show own_Run p e below s _ _ _ (T40.setTop (mkF m 40 #[.val (.ref o0), .val (.double d1), .second, .unset, .unset, .unset, .unset] [(.double ff), (.double d1)]))
  refine own_st (fun t k => XS.dsubS X40.here hx rfl (hb hby own_d4_40) rfl (pn1) (v := (FP.dsub d1 ff)) (rfl) k) ?_
  show own_Run p e below s _ _ _ (T40.setTop (mkF m 41 #[.val (.ref o0), .val (.double d1), .second, .unset, .unset, .unset, .unset] [(.double (FP.dsub d1 ff))]))
  refine own_st (fun t k => XS.dstoreN X40.here hx rfl (hb hby own_d4_41) rfl (l' := #[.val (.ref o0), .val (.double d1), .second, .val (.double (FP.dsub d1 ff)), .second, .unset, .unset]) rfl k) ?_
  show own_Run p e below s _ _ _ (T40.setTop (mkF m 42 #[.val (.ref o0), .val (.double d1), .second, .val (.double (FP.dsub d1 ff)), .second, .unset, .unset] []))
  refine own_st (fun t k => XS.aloadN X40.here hx rfl (hb hby own_d4_42) rfl rfl k) ?_
  show own_Run p e below s _ _ _ (T40.setTop (mkF m 43 #[.val (.ref o0), .val (.double d1), .second, .val (.double (FP.dsub d1 ff)), .second, .unset, .unset] [(.ref o0)]))
  refine own_st (fun t k => XS.dup X40.here hx rfl (hb hby own_d4_43) rfl rfl k) ?_
  show own_Run p e below s _ _ _ (T40.setTop (mkF m 44 #[.val (.ref o0), .val (.double d1), .second, .val (.double (FP.dsub d1 ff)), .second, .unset, .unset] [(.ref o0), (.ref o0)]))
  obtain ⟨T41, X41, e41, st41⟩ := getF X40 hx hZ hown (host := "") (Or.inl (hw _ (List.mem_of_getElem? (i := 15) rfl))) Via.refl e40 pc (g := (mkF m 44 #[.val (.ref o0), .val (.double d1), .second, .val (.double (FP.dsub d1 ff)), .second, .unset, .unset] [(.ref o0), (.ref o0)])) rfl rfl (hb hby own_d4_44)
  refine own_st st41 ?_
  show own_Run p e below s _ _ _ (T41.setTop (mkF m 47 #[.val (.ref o0), .val (.double d1), .second, .val (.double (FP.dsub d1 ff)), .second, .unset, .unset] [(.long cn), (.ref o0)]))
  refine own_st (fun t k => XS.lconst X41.here hx rfl (hb hby own_d4_47) k) ?_
  show own_Run p e below s _ _ _ (T41.setTop (mkF m 48 #[.val (.ref o0), .val (.double d1), .second, .val (.double (FP.dsub d1 ff)), .second, .unset, .unset] [(.long (1 : Int64)), (.long cn), (.ref o0)]))
  refine own_st (fun t k => XS.ladd X41.here hx rfl (hb hby own_d4_48) rfl k) ?_
  show own_Run p e below s _ _ _ (T41.setTop (mkF m 49 #[.val (.ref o0), .val (.double d1), .second, .val (.double (FP.dsub d1 ff)), .second, .unset, .unset] [(.long (cn + (1 : Int64))), (.ref o0)]))
  obtain ⟨T42, h42, X42, e42, W42, st42⟩ := putF X41 hx hZ hown (host := "") (Or.inl (hw _ (List.mem_of_getElem? (i := 15) rfl))) Via.refl e41 pc E0 (Or.inl (hw _ (List.mem_of_getElem? (i := 16) rfl))) (hw _ (List.mem_of_getElem? (i := 2) rfl)) (ty := .long) (by decide) rfl rfl (g := (mkF m 49 #[.val (.ref o0), .val (.double d1), .second, .val (.double (FP.dsub d1 ff)), .second, .unset, .unset] [(.long (cn + (1 : Int64))), (.ref o0)])) rfl rfl (hb hby own_d4_49)
  refine own_st st42 ?_
  have Fw42 := pc.same W42
  have N42 := Fr.snoc X42 N38 G0
  have K43 : Keep h0 h42 [o0] := K0.wr W42 (Or.inl (List.mem_of_getElem? (i := 0) rfl))
  show own_Run p e below s _ _ _ (T42.setTop (mkF m 52 #[.val (.ref o0), .val (.double d1), .second, .val (.double (FP.dsub d1 ff)), .second, .unset, .unset] []))
  refine own_st (fun t k => XS.dloadN X42.here hx rfl (hb hby own_d4_52) rfl k) ?_
  show own_Run p e below s _ _ _ (T42.setTop (mkF m 53 #[.val (.ref o0), .val (.double d1), .second, .val (.double (FP.dsub d1 ff)), .second, .unset, .unset] [(.double (FP.dsub d1 ff))]))
  refine own_st (fun t k => XS.aloadN X42.here hx rfl (hb hby own_d4_53) rfl rfl k) ?_
  show own_Run p e below s _ _ _ (T42.setTop (mkF m 54 #[.val (.ref o0), .val (.double d1), .second, .val (.double (FP.dsub d1 ff)), .second, .unset, .unset] [(.ref o0), (.double (FP.dsub d1 ff))]))
  have F45 := (pm.other W42 (Or.inr (slot_ne (Or.inl (hw _ (List.mem_of_getElem? (i := 35) rfl))) (Or.inl (hw _ (List.mem_of_getElem? (i := 16) rfl))) (by decide) (t := .double) (t' := .long) (by decide) (by decide))))
  obtain ⟨T46, X46, e46, st46⟩ := getF X42 hx hZ hown (host := "") (Or.inl (hw _ (List.mem_of_getElem? (i := 34) rfl))) Via.refl e42 F45 (g := (mkF m 54 #[.val (.ref o0), .val (.double d1), .second, .val (.double (FP.dsub d1 ff)), .second, .unset, .unset] [(.ref o0), (.double (FP.dsub d1 ff))])) rfl rfl (hb hby own_d4_54)
  refine own_st st46 ?_
  show own_Run p e below s _ _ _ (T46.setTop (mkF m 57 #[.val (.ref o0), .val (.double d1), .second, .val (.double (FP.dsub d1 ff)), .second, .unset, .unset] [(.double mm), (.double (FP.dsub d1 ff))]))
  refine own_st (fun t k => XS.dsubS X46.here hx rfl (hb hby own_d4_57) rfl (pn2) (v := (FP.dsub (FP.dsub d1 ff) mm)) (rfl) k) ?_
  show own_Run p e below s _ _ _ (T46.setTop (mkF m 58 #[.val (.ref o0), .val (.double d1), .second, .val (.double (FP.dsub d1 ff)), .second, .unset, .unset] [(.double (FP.dsub (FP.dsub d1 ff) mm))]))
  refine own_st (fun t k => XS.dstore X46.here hx rfl (hb hby own_d4_58) rfl (l' := #[.val (.ref o0), .val (.double d1), .second, .val (.double (FP.dsub d1 ff)), .second, .val (.double (FP.dsub (FP.dsub d1 ff) mm)), .second]) rfl k) ?_
  show own_Run p e below s _ _ _ (T46.setTop (mkF m 60 #[.val (.ref o0), .val (.double d1), .second, .val (.double (FP.dsub d1 ff)), .second, .val (.double (FP.dsub (FP.dsub d1 ff) mm)), .second] []))
  refine own_st (fun t k => XS.aloadN X46.here hx rfl (hb hby own_d4_60) rfl rfl k) ?_
  show own_Run p e below s _ _ _ (T46.setTop (mkF m 61 #[.val (.ref o0), .val (.double d1), .second, .val (.double (FP.dsub d1 ff)), .second, .val (.double (FP.dsub (FP.dsub d1 ff) mm)), .second] [(.ref o0)]))
  refine own_st (fun t k => XS.dup X46.here hx rfl (hb hby own_d4_61) rfl rfl k) ?_
  show own_Run p e below s _ _ _ (T46.setTop (mkF m 62 #[.val (.ref o0), .val (.double d1), .second, .val (.double (FP.dsub d1 ff)), .second, .val (.double (FP.dsub (FP.dsub d1 ff) mm)), .second] [(.ref o0), (.ref o0)]))
  obtain ⟨T47, X47, e47, st47⟩ := getF X46 hx hZ hown (host := "") (Or.inl (hw _ (List.mem_of_getElem? (i := 34) rfl))) Via.refl e46 F45 (g := (mkF m 62 #[.val (.ref o0), .val (.double d1), .second, .val (.double (FP.dsub d1 ff)), .second, .val (.double (FP.dsub (FP.dsub d1 ff) mm)), .second] [(.ref o0), (.ref o0)])) rfl rfl (hb hby own_d4_62)
  refine own_st st47 ?_
  show own_Run p e below s _ _ _ (T47.setTop (mkF m 65 #[.val (.ref o0), .val (.double d1), .second, .val (.double (FP.dsub d1 ff)), .second, .val (.double (FP.dsub (FP.dsub d1 ff) mm)), .second] [(.double mm), (.ref o0)]))
  refine own_st (fun t k => XS.dload X47.here hx rfl (hb hby own_d4_65) rfl k) ?_
  show own_Run p e below s _ _ _ (T47.setTop (mkF m 67 #[.val (.ref o0), .val (.double d1), .second, .val (.double (FP.dsub d1 ff)), .second, .val (.double (FP.dsub (FP.dsub d1 ff) mm)), .second] [(.double (FP.dsub (FP.dsub d1 ff) mm)), (.double mm), (.ref o0)]))
  refine own_st (fun t k => XS.aloadN X47.here hx rfl (hb hby own_d4_67) rfl rfl k) ?_
  show own_Run p e below s _ _ _ (T47.setTop (mkF m 68 #[.val (.ref o0), .val (.double d1), .second, .val (.double (FP.dsub d1 ff)), .second, .val (.double (FP.dsub (FP.dsub d1 ff) mm)), .second] [(.ref o0), (.double (FP.dsub (FP.dsub d1 ff) mm)), (.double mm), (.ref o0)]))
  obtain ⟨T48, X48, e48, st48⟩ := getF X47 hx hZ hown (host := "") (Or.inl (hw _ (List.mem_of_getElem? (i := 15) rfl))) Via.refl e47 Fw42 (g := (mkF m 68 #[.val (.ref o0), .val (.double d1), .second, .val (.double (FP.dsub d1 ff)), .second, .val (.double (FP.dsub (FP.dsub d1 ff) mm)), .second] [(.ref o0), (.double (FP.dsub (FP.dsub d1 ff) mm)), (.double mm), (.ref o0)])) rfl rfl (hb hby own_d4_68)
  refine own_st st48 ?_
  show own_Run p e below s _ _ _ (T48.setTop (mkF m 71 #[.val (.ref o0), .val (.double d1), .second, .val (.double (FP.dsub d1 ff)), .second, .val (.double (FP.dsub (FP.dsub d1 ff) mm)), .second] [(.long (cn + (1 : Int64))), (.double (FP.dsub (FP.dsub d1 ff) mm)), (.double mm), (.ref o0)]))
  refine own_st (fun t k => XS.l2dS X48.here hx rfl (hb hby own_d4_71) rfl (v := (FP.l2d (cn + (1 : Int64)))) (rfl) k) ?_
  show own_Run p e below s _ _ _ (T48.setTop (mkF m 72 #[.val (.ref o0), .val (.double d1), .second, .val (.double (FP.dsub d1 ff)), .second, .val (.double (FP.dsub (FP.dsub d1 ff) mm)), .second] [(.double (FP.l2d (cn + (1 : Int64)))), (.double (FP.dsub (FP.dsub d1 ff) mm)), (.double mm), (.ref o0)]))
  refine own_st (fun t k => XS.ddivS X48.here hx rfl (hb hby own_d4_72) rfl (pn3) (v := (FP.ddiv (FP.dsub (FP.dsub d1 ff) mm) (FP.l2d (cn + (1 : Int64))))) (rfl) k) ?_
  show own_Run p e below s _ _ _ (T48.setTop (mkF m 73 #[.val (.ref o0), .val (.double d1), .second, .val (.double (FP.dsub d1 ff)), .second, .val (.double (FP.dsub (FP.dsub d1 ff) mm)), .second] [(.double (FP.ddiv (FP.dsub (FP.dsub d1 ff) mm) (FP.l2d (cn + (1 : Int64))))), (.double mm), (.ref o0)]))
  refine own_st (fun t k => XS.daddS X48.here hx rfl (hb hby own_d4_73) rfl (pn4) (v := m2) (hm) k) ?_
  show own_Run p e below s _ _ _ (T48.setTop (mkF m 74 #[.val (.ref o0), .val (.double d1), .second, .val (.double (FP.dsub d1 ff)), .second, .val (.double (FP.dsub (FP.dsub d1 ff) mm)), .second] [(.double m2), (.ref o0)]))
  have E49 := (E0.wr W42)
  obtain ⟨T50, h50, X50, e50, W50, st50⟩ := putF X48 hx hZ hown (host := "") (Or.inl (hw _ (List.mem_of_getElem? (i := 34) rfl))) Via.refl e48 F45 E49 (Or.inl (hw _ (List.mem_of_getElem? (i := 35) rfl))) (hw _ (List.mem_of_getElem? (i := 2) rfl)) (ty := .double) (by decide) rfl rfl (g := (mkF m 74 #[.val (.ref o0), .val (.double d1), .second, .val (.double (FP.dsub d1 ff)), .second, .val (.double (FP.dsub (FP.dsub d1 ff) mm)), .second] [(.double m2), (.ref o0)])) rfl rfl (hb hby own_d4_74)
  refine own_st st50 ?_
  have Fw50 := F45.same W50
  have N50 := Fr.snoc X50 N42 G0
  have K51 : Keep h0 h50 [o0] := K43.wr W50 (Or.inl (List.mem_of_getElem? (i := 0) rfl))
  show own_Run p e below s _ _ _ (T50.setTop (mkF m 77 #[.val (.ref o0), .val (.double d1), .second, .val (.double (FP.dsub d1 ff)), .second, .val (.double (FP.dsub (FP.dsub d1 ff) mm)), .second] []))
  refine own_st (fun t k => XS.aloadN X50.here hx rfl (hb hby own_d4_77) rfl rfl k) ?_
  show own_Run p e below s _ _ _ (T50.setTop (mkF m 78 #[.val (.ref o0), .val (.double d1), .second, .val (.double (FP.dsub d1 ff)), .second, .val (.double (FP.dsub (FP.dsub d1 ff) mm)), .second] [(.ref o0)]))
  refine own_st (fun t k => XS.dup X50.here hx rfl (hb hby own_d4_78) rfl rfl k) ?_
  show own_Run p e below s _ _ _ (T50.setTop (mkF m 79 #[.val (.ref o0), .val (.double d1), .second, .val (.double (FP.dsub d1 ff)), .second, .val (.double (FP.dsub (FP.dsub d1 ff) mm)), .second] [(.ref o0), (.ref o0)]))
  have F53 := ((pq.other W42 (Or.inr (slot_ne (Or.inl (hw _ (List.mem_of_getElem? (i := 37) rfl))) (Or.inl (hw _ (List.mem_of_getElem? (i := 16) rfl))) (by decide) (t := .double) (t' := .long) (by decide) (by decide)))).other W50 (Or.inr (slot_ne (Or.inl (hw _ (List.mem_of_getElem? (i := 37) rfl))) (Or.inl (hw _ (List.mem_of_getElem? (i := 35) rfl))) (by decide) (t := .double) (t' := .double) (by decide) (by decide))))
  obtain ⟨T54, X54, e54, st54⟩ := getF X50 hx hZ hown (host := "") (Or.inl (hw _ (List.mem_of_getElem? (i := 36) rfl))) Via.refl e50 F53 (g := (mkF m 79 #[.val (.ref o0), .val (.double d1), .second, .val (.double (FP.dsub d1 ff)), .second, .val (.double (FP.dsub (FP.dsub d1 ff) mm)), .second] [(.ref o0), (.ref o0)])) rfl rfl (hb hby own_d4_79)
  refine own_st st54 ?_
  show own_Run p e below s _ _ _ (T54.setTop (mkF m 82 #[.val (.ref o0), .val (.double d1), .second, .val (.double (FP.dsub d1 ff)), .second, .val (.double (FP.dsub (FP.dsub d1 ff) mm)), .second] [(.double qq), (.ref o0)]))
  refine own_st (fun t k => XS.dload X54.here hx rfl (hb hby own_d4_82) rfl k) ?_
  show own_Run p e below s _ _ _ (T54.setTop (mkF m 84 #[.val (.ref o0), .val (.double d1), .second, .val (.double (FP.dsub d1 ff)), .second, .val (.double (FP.dsub (FP.dsub d1 ff) mm)), .second] [(.double (FP.dsub (FP.dsub d1 ff) mm)), (.double qq), (.ref o0)]))
  refine own_st (fun t k => XS.dloadN X54.here hx rfl (hb hby own_d4_84) rfl k) ?_
  show own_Run p e below s _ _ _ (T54.setTop (mkF m 85 #[.val (.ref o0), .val (.double d1), .second, .val (.double (FP.dsub d1 ff)), .second, .val (.double (FP.dsub (FP.dsub d1 ff) mm)), .second] [(.double (FP.dsub d1 ff)), (.double (FP.dsub (FP.dsub d1 ff) mm)), (.double qq), (.ref o0)]))
  refine own_st (fun t k => XS.aloadN X54.here hx rfl (hb hby own_d4_85) rfl rfl k) ?_
  show own_Run p e below s _ _ _ (T54.setTop (mkF m 86 #[.val (.ref o0), .val (.double d1), .second, .val (.double (FP.dsub d1 ff)), .second, .val (.double (FP.dsub (FP.dsub d1 ff) mm)), .second] [(.ref o0), (.double (FP.dsub d1 ff)), (.double (FP.dsub (FP.dsub d1 ff) mm)), (.double qq), (.ref o0)]))
  obtain ⟨T55, X55, e55, st55⟩ := getF X54 hx hZ hown (host := "") (Or.inl (hw _ (List.mem_of_getElem? (i := 34) rfl))) Via.refl e54 Fw50 (g := (mkF m 86 #[.val (.ref o0), .val (.double d1), .second, .val (.double (FP.dsub d1 ff)), .second, .val (.double (FP.dsub (FP.dsub d1 ff) mm)), .second] [(.ref o0), (.double (FP.dsub d1 ff)), (.double (FP.dsub (FP.dsub d1 ff) mm)), (.double qq), (.ref o0)])) rfl rfl (hb hby own_d4_86)
  refine own_st st55 ?_
  show own_Run p e below s _ _ _ (T55.setTop (mkF m 89 #[.val (.ref o0), .val (.double d1), .second, .val (.double (FP.dsub d1 ff)), .second, .val (.double (FP.dsub (FP.dsub d1 ff) mm)), .second] [(.double m2), (.double (FP.dsub d1 ff)), (.double (FP.dsub (FP.dsub d1 ff) mm)), (.double qq), (.ref o0)]))
  refine own_st (fun t k => XS.dsubS X55.here hx rfl (hb hby own_d4_89) rfl (pn5) (v := (FP.dsub (FP.dsub d1 ff) m2)) (rfl) k) ?_
  show own_Run p e below s _ _ _ (T55.setTop (mkF m 90 #[.val (.ref o0), .val (.double d1), .second, .val (.double (FP.dsub d1 ff)), .second, .val (.double (FP.dsub (FP.dsub d1 ff) mm)), .second] [(.double (FP.dsub (FP.dsub d1 ff) m2)), (.double (FP.dsub (FP.dsub d1 ff) mm)), (.double qq), (.ref o0)]))
  refine own_st (fun t k => XS.dmulS X55.here hx rfl (hb hby own_d4_90) rfl (pn6) (v := (FP.dmul (FP.dsub (FP.dsub d1 ff) mm) (FP.dsub (FP.dsub d1 ff) m2))) (rfl) k) ?_
  show own_Run p e below s _ _ _ (T55.setTop (mkF m 91 #[.val (.ref o0), .val (.double d1), .second, .val (.double (FP.dsub d1 ff)), .second, .val (.double (FP.dsub (FP.dsub d1 ff) mm)), .second] [(.double (FP.dmul (FP.dsub (FP.dsub d1 ff) mm) (FP.dsub (FP.dsub d1 ff) m2))), (.double qq), (.ref o0)]))
  refine own_st (fun t k => XS.daddS X55.here hx rfl (hb hby own_d4_91) rfl (pn7) (v := q2) (hq) k) ?_
  show own_Run p e below s _ _ _ (T55.setTop (mkF m 92 #[.val (.ref o0), .val (.double d1), .second, .val (.double (FP.dsub d1 ff)), .second, .val (.double (FP.dsub (FP.dsub d1 ff) mm)), .second] [(.double q2), (.ref o0)]))
  have E56 := (E49.wr W50)
  obtain ⟨T57, h57, X57, e57, W57, st57⟩ := putF X55 hx hZ hown (host := "") (Or.inl (hw _ (List.mem_of_getElem? (i := 36) rfl))) Via.refl e55 F53 E56 (Or.inl (hw _ (List.mem_of_getElem? (i := 37) rfl))) (hw _ (List.mem_of_getElem? (i := 2) rfl)) (ty := .double) (by decide) rfl rfl (g := (mkF m 92 #[.val (.ref o0), .val (.double d1), .second, .val (.double (FP.dsub d1 ff)), .second, .val (.double (FP.dsub (FP.dsub d1 ff) mm)), .second] [(.double q2), (.ref o0)])) rfl rfl (hb hby own_d4_92)
  refine own_st st57 ?_
  have Fw57 := F53.same W57
  have N57 := Fr.snoc X57 N50 G0
  have K58 : Keep h0 h57 [o0] := K51.wr W57 (Or.inl (List.mem_of_getElem? (i := 0) rfl))
  show own_Run p e below s _ _ _ (T57.setTop (mkF m 95 #[.val (.ref o0), .val (.double d1), .second, .val (.double (FP.dsub d1 ff)), .second, .val (.double (FP.dsub (FP.dsub d1 ff) mm)), .second] []))
  have hQe := e57
  subst hQe
  have E60 := (E56.wr W57)
  have F61 := ((Fw42.other W50 (Or.inr (slot_ne (Or.inl (hw _ (List.mem_of_getElem? (i := 16) rfl))) (Or.inl (hw _ (List.mem_of_getElem? (i := 35) rfl))) (by decide) (t := .long) (t' := .double) (by decide) (by decide)))).other W57 (Or.inr (slot_ne (Or.inl (hw _ (List.mem_of_getElem? (i := 16) rfl))) (Or.inl (hw _ (List.mem_of_getElem? (i := 37) rfl))) (by decide) (t := .long) (t' := .double) (by decide) (by decide))))
  have F62 := (((pf.other W42 (Or.inr (slot_ne (Or.inl (hw _ (List.mem_of_getElem? (i := 33) rfl))) (Or.inl (hw _ (List.mem_of_getElem? (i := 16) rfl))) (by decide) (t := .double) (t' := .long) (by decide) (by decide)))).other W50 (Or.inr (slot_ne (Or.inl (hw _ (List.mem_of_getElem? (i := 33) rfl))) (Or.inl (hw _ (List.mem_of_getElem? (i := 35) rfl))) (by decide) (t := .double) (t' := .double) (by decide) (by decide)))).other W57 (Or.inr (slot_ne (Or.inl (hw _ (List.mem_of_getElem? (i := 33) rfl))) (Or.inl (hw _ (List.mem_of_getElem? (i := 37) rfl))) (by decide) (t := .double) (t' := .double) (by decide) (by decide))))
  have F63 := (Fw50.other W57 (Or.inr (slot_ne (Or.inl (hw _ (List.mem_of_getElem? (i := 35) rfl))) (Or.inl (hw _ (List.mem_of_getElem? (i := 37) rfl))) (by decide) (t := .double) (t' := .double) (by decide) (by decide))))
  exact own_retV X57 hx hlk hret (hb hby own_d4_95) (by decide) (by decide) ⟨rfl, N57, K58, E60, F61, F62, F63, Fw57⟩
theorem own_pd4 : parseMethodDescriptor "()V" = some ⟨[], none⟩ := by decide +kernel
theorem own_pd5 : parseMethodDescriptor "()D" = some ⟨[], some .double⟩ := by decide +kernel
theorem own_pd6 : parseMethodDescriptor "(D)V" = some ⟨[.double], none⟩ := by decide +kernel
set_option maxHeartbeats 4000000 in
theorem own_ef0 (m : MethodId) (x0 : Int32) (x1 : Int32) (x2 : Int32) (x3 : Int32) : entryFrame m #[(.int x0), (.int x1), (.int x2), (.int x3)] maxLocals = mkF m 0 #[.val (.int x0), .val (.int x1), .val (.int x2), .val (.int x3), .unset, .unset, .unset, .unset, .unset, .unset, .unset, .unset, .unset, .unset, .unset, .unset] [] := by first | (simp [entryFrame, mkF, argsToLocals, Value.category, maxLocals]; done) | rfl
theorem own_pn7 : plainName "com/example/triflux/triflux/eval/SummaryMeanPinLaw" = true := by first | (simp [plainName, overriddenIn]; done) | decide +kernel
def own_Q0 (Z : State) (a0 : Array Value) (i0 : Int32) (i1 : Int32) (i2 : Int32) (i3 : Int32) (h0 : Heap) (n0 : Nat) (v : Option Value) (h : Heap) (L : List Loc) : Prop := v = some (.int 1) ∧ Fr n0 L
set_option maxRecDepth 65536 in
set_option maxHeartbeats 40000000 in
theorem own_rm0 (l : Launch) (Z : State) (a0 : Array Value) (hw : ∀ d ∈ tables_1, d.before a0 Z = true) (ws : List Jvm.Cond) (i0 : Int32) (i1 : Int32) (i2 : Int32) (i3 : Int32) (h0 : Heap) (n0 : Nat) (Z0 : n0 ≤ h0.size) (O0 : Old Z n0 h0) :
    MetFree l x (head1 (Jvm.Cond.code x code maxLocals ret :: ws) room_1) (fun a U => a = #[(.int i0), (.int i1), (.int i2), (.int i3)] ∧ Z.Warmed39 U.vm ∧ U.heap = h0) (fun _ _ _ _ _ => True) (fun _ U o U' => ∃ v L, o = .returned v ∧ own_Q0 Z a0 i0 i1 i2 i3 h0 n0 v U'.heap L ∧ FrameEnd U o U' L room_1.cells room_1.slots) := by
  refine own_body (Q := fun v h L => own_Q0 Z a0 i0 i1 i2 i3 h0 n0 v h L) (plainFor_of_name own_pn7) ?_
  intro p e s m below meth c s₁ hx hby hml hZ hown hnm hret hlk X0 e0
  replace hml : c.maxLocals = 16 := hml
  replace hown : s.vm.findClass "com/example/triflux/triflux/eval/SummaryMeanPinLaw" = some m.cls := hown
  have N0 := Fr.nil n0
  have K0 : Keep h0 h0 [] := Keep.refl _ _
  refine own_st (fun t k => castTop (own_ef0 m i0 i1 i2 i3) k) ?_
  show own_Run p e below s _ _ _ (s₁.setTop (mkF m 0 #[.val (.int i0), .val (.int i1), .val (.int i2), .val (.int i3), .unset, .unset, .unset, .unset, .unset, .unset, .unset, .unset, .unset, .unset, .unset, .unset] []))
  refine own_st (fun t k => XS.iloadN X0.here hx rfl (hb hby at_0) rfl k) ?_
  show own_Run p e below s _ _ _ (s₁.setTop (mkF m 1 #[.val (.int i0), .val (.int i1), .val (.int i2), .val (.int i3), .unset, .unset, .unset, .unset, .unset, .unset, .unset, .unset, .unset, .unset, .unset, .unset] [(.int i1)]))
  refine own_st (fun t k => XS.i2l X0.here hx rfl (hb hby at_1) rfl k) ?_
  show own_Run p e below s _ _ _ (s₁.setTop (mkF m 2 #[.val (.int i0), .val (.int i1), .val (.int i2), .val (.int i3), .unset, .unset, .unset, .unset, .unset, .unset, .unset, .unset, .unset, .unset, .unset, .unset] [(.long (i1.toInt64))]))
  refine own_st (fun t k => XS.lstore X0.here hx rfl (hb hby at_2) rfl (l' := #[.val (.int i0), .val (.int i1), .val (.int i2), .val (.int i3), .val (.long (i1.toInt64)), .second, .unset, .unset, .unset, .unset, .unset, .unset, .unset, .unset, .unset, .unset]) rfl k) ?_
  show own_Run p e below s _ _ _ (s₁.setTop (mkF m 4 #[.val (.int i0), .val (.int i1), .val (.int i2), .val (.int i3), .val (.long (i1.toInt64)), .second, .unset, .unset, .unset, .unset, .unset, .unset, .unset, .unset, .unset, .unset] []))
  refine own_st (fun t k => XS.iloadN X0.here hx rfl (hb hby at_4) rfl k) ?_
  show own_Run p e below s _ _ _ (s₁.setTop (mkF m 5 #[.val (.int i0), .val (.int i1), .val (.int i2), .val (.int i3), .val (.long (i1.toInt64)), .second, .unset, .unset, .unset, .unset, .unset, .unset, .unset, .unset, .unset, .unset] [(.int i2)]))
  refine own_st (fun t k => XS.i2l X0.here hx rfl (hb hby at_5) rfl k) ?_
  show own_Run p e below s _ _ _ (s₁.setTop (mkF m 6 #[.val (.int i0), .val (.int i1), .val (.int i2), .val (.int i3), .val (.long (i1.toInt64)), .second, .unset, .unset, .unset, .unset, .unset, .unset, .unset, .unset, .unset, .unset] [(.long (i2.toInt64))]))
  refine own_st (fun t k => XS.lstore X0.here hx rfl (hb hby at_6) rfl (l' := #[.val (.int i0), .val (.int i1), .val (.int i2), .val (.int i3), .val (.long (i1.toInt64)), .second, .val (.long (i2.toInt64)), .second, .unset, .unset, .unset, .unset, .unset, .unset, .unset, .unset]) rfl k) ?_
  show own_Run p e below s _ _ _ (s₁.setTop (mkF m 8 #[.val (.int i0), .val (.int i1), .val (.int i2), .val (.int i3), .val (.long (i1.toInt64)), .second, .val (.long (i2.toInt64)), .second, .unset, .unset, .unset, .unset, .unset, .unset, .unset, .unset] []))
  refine own_st (fun t k => XS.iloadN X0.here hx rfl (hb hby at_8) rfl k) ?_
  show own_Run p e below s _ _ _ (s₁.setTop (mkF m 9 #[.val (.int i0), .val (.int i1), .val (.int i2), .val (.int i3), .val (.long (i1.toInt64)), .second, .val (.long (i2.toInt64)), .second, .unset, .unset, .unset, .unset, .unset, .unset, .unset, .unset] [(.int i3)]))
  refine own_st (fun t k => XS.i2l X0.here hx rfl (hb hby at_9) rfl k) ?_
  show own_Run p e below s _ _ _ (s₁.setTop (mkF m 10 #[.val (.int i0), .val (.int i1), .val (.int i2), .val (.int i3), .val (.long (i1.toInt64)), .second, .val (.long (i2.toInt64)), .second, .unset, .unset, .unset, .unset, .unset, .unset, .unset, .unset] [(.long (i3.toInt64))]))
  refine own_st (fun t k => XS.lstore X0.here hx rfl (hb hby at_10) rfl (l' := #[.val (.int i0), .val (.int i1), .val (.int i2), .val (.int i3), .val (.long (i1.toInt64)), .second, .val (.long (i2.toInt64)), .second, .val (.long (i3.toInt64)), .second, .unset, .unset, .unset, .unset, .unset, .unset]) rfl k) ?_
  show own_Run p e below s _ _ _ (s₁.setTop (mkF m 12 #[.val (.int i0), .val (.int i1), .val (.int i2), .val (.int i3), .val (.long (i1.toInt64)), .second, .val (.long (i2.toInt64)), .second, .val (.long (i3.toInt64)), .second, .unset, .unset, .unset, .unset, .unset, .unset] []))
  refine own_st (X0.ldc2Long hx hown (mvT hZ (hw _ (List.mem_of_getElem? (i := 0) rfl))) (g := (mkF m 12 #[.val (.int i0), .val (.int i1), .val (.int i2), .val (.int i3), .val (.long (i1.toInt64)), .second, .val (.long (i2.toInt64)), .second, .val (.long (i3.toInt64)), .second, .unset, .unset, .unset, .unset, .unset, .unset] [])) rfl (hb hby at_12)) ?_
  show own_Run p e below s _ _ _ (s₁.setTop (mkF m 15 #[.val (.int i0), .val (.int i1), .val (.int i2), .val (.int i3), .val (.long (i1.toInt64)), .second, .val (.long (i2.toInt64)), .second, .val (.long (i3.toInt64)), .second, .unset, .unset, .unset, .unset, .unset, .unset] [(.long (3 : Int64))]))
  refine own_st (fun t k => XS.lload X0.here hx rfl (hb hby at_15) rfl k) ?_
  show own_Run p e below s _ _ _ (s₁.setTop (mkF m 17 #[.val (.int i0), .val (.int i1), .val (.int i2), .val (.int i3), .val (.long (i1.toInt64)), .second, .val (.long (i2.toInt64)), .second, .val (.long (i3.toInt64)), .second, .unset, .unset, .unset, .unset, .unset, .unset] [(.long (i3.toInt64)), (.long (3 : Int64))]))
  refine own_st (fun t k => XS.lmul X0.here hx rfl (hb hby at_17) rfl k) ?_
  show own_Run p e below s _ _ _ (s₁.setTop (mkF m 18 #[.val (.int i0), .val (.int i1), .val (.int i2), .val (.int i3), .val (.long (i1.toInt64)), .second, .val (.long (i2.toInt64)), .second, .val (.long (i3.toInt64)), .second, .unset, .unset, .unset, .unset, .unset, .unset] [(.long ((3 : Int64) * (i3.toInt64)))]))
  refine own_st (fun t k => XS.lload X0.here hx rfl (hb hby at_18) rfl k) ?_
  show own_Run p e below s _ _ _ (s₁.setTop (mkF m 20 #[.val (.int i0), .val (.int i1), .val (.int i2), .val (.int i3), .val (.long (i1.toInt64)), .second, .val (.long (i2.toInt64)), .second, .val (.long (i3.toInt64)), .second, .unset, .unset, .unset, .unset, .unset, .unset] [(.long (i1.toInt64)), (.long ((3 : Int64) * (i3.toInt64)))]))
  refine own_st (fun t k => XS.lsub X0.here hx rfl (hb hby at_20) rfl k) ?_
  show own_Run p e below s _ _ _ (s₁.setTop (mkF m 21 #[.val (.int i0), .val (.int i1), .val (.int i2), .val (.int i3), .val (.long (i1.toInt64)), .second, .val (.long (i2.toInt64)), .second, .val (.long (i3.toInt64)), .second, .unset, .unset, .unset, .unset, .unset, .unset] [(.long (((3 : Int64) * (i3.toInt64)) - (i1.toInt64)))]))
  refine own_st (fun t k => XS.lload X0.here hx rfl (hb hby at_21) rfl k) ?_
  show own_Run p e below s _ _ _ (s₁.setTop (mkF m 23 #[.val (.int i0), .val (.int i1), .val (.int i2), .val (.int i3), .val (.long (i1.toInt64)), .second, .val (.long (i2.toInt64)), .second, .val (.long (i3.toInt64)), .second, .unset, .unset, .unset, .unset, .unset, .unset] [(.long (i2.toInt64)), (.long (((3 : Int64) * (i3.toInt64)) - (i1.toInt64)))]))
  refine own_st (fun t k => XS.lsub X0.here hx rfl (hb hby at_23) rfl k) ?_
  show own_Run p e below s _ _ _ (s₁.setTop (mkF m 24 #[.val (.int i0), .val (.int i1), .val (.int i2), .val (.int i3), .val (.long (i1.toInt64)), .second, .val (.long (i2.toInt64)), .second, .val (.long (i3.toInt64)), .second, .unset, .unset, .unset, .unset, .unset, .unset] [(.long ((((3 : Int64) * (i3.toInt64)) - (i1.toInt64)) - (i2.toInt64)))]))
  obtain ⟨cl, h_cl⟩ : ∃ z, (((((3 : Int64) * (i3.toInt64)) - (i1.toInt64)) - (i2.toInt64)) : Int64) = z := ⟨_, rfl⟩
  refine own_topJ h_cl ?_
  show own_Run p e below s _ _ _ (s₁.setTop (mkF m 24 #[.val (.int i0), .val (.int i1), .val (.int i2), .val (.int i3), .val (.long (i1.toInt64)), .second, .val (.long (i2.toInt64)), .second, .val (.long (i3.toInt64)), .second, .unset, .unset, .unset, .unset, .unset, .unset] [(.long cl)]))
  have r_cl := own_cl h_cl
  refine own_st (fun t k => XS.lstore X0.here hx rfl (hb hby at_24) rfl (l' := #[.val (.int i0), .val (.int i1), .val (.int i2), .val (.int i3), .val (.long (i1.toInt64)), .second, .val (.long (i2.toInt64)), .second, .val (.long (i3.toInt64)), .second, .val (.long cl), .second, .unset, .unset, .unset, .unset]) rfl k) ?_
  show own_Run p e below s _ _ _ (s₁.setTop (mkF m 26 #[.val (.int i0), .val (.int i1), .val (.int i2), .val (.int i3), .val (.long (i1.toInt64)), .second, .val (.long (i2.toInt64)), .second, .val (.long (i3.toInt64)), .second, .val (.long cl), .second, .unset, .unset, .unset, .unset] []))
  obtain ⟨T64, h64, X64, e64, E64, A64, D64, -, st64⟩ := newO X0 hx hZ hown (hw _ (List.mem_of_getElem? (i := 1) rfl)) (hw _ (List.mem_of_getElem? (i := 2) rfl)) (hw _ (List.mem_of_getElem? (i := 3) rfl)) e0 (g := (mkF m 26 #[.val (.int i0), .val (.int i1), .val (.int i2), .val (.int i3), .val (.long (i1.toInt64)), .second, .val (.long (i2.toInt64)), .second, .val (.long (i3.toInt64)), .second, .val (.long cl), .second, .unset, .unset, .unset, .unset] [])) rfl (hb hby at_26) (by decide) (by decide)
  obtain ⟨b64, g64⟩ : ∃ z, z = h0.size := ⟨_, rfl⟩
  rw [← g64] at A64 D64 st64
  have sz65 : h0.size ≤ b64 := Nat.le_trans K0.1 (Nat.le_of_eq g64.symm)
  have ge66 : n0 ≤ b64 := Nat.le_trans Z0 sz65
  refine own_st st64 ?_
  have K67 : Keep h0 h64 [] := K0.ext E64
  have O68 := O0.ext E64
  show own_Run p e below s _ _ _ (T64.setTop (mkF m 29 #[.val (.int i0), .val (.int i1), .val (.int i2), .val (.int i3), .val (.long (i1.toInt64)), .second, .val (.long (i2.toInt64)), .second, .val (.long (i3.toInt64)), .second, .val (.long cl), .second, .unset, .unset, .unset, .unset] [(.ref b64)]))
  refine own_st (fun t k => XS.dup X64.here hx rfl (hb hby at_29) rfl rfl k) ?_
  show own_Run p e below s _ _ _ (T64.setTop (mkF m 30 #[.val (.int i0), .val (.int i1), .val (.int i2), .val (.int i3), .val (.long (i1.toInt64)), .second, .val (.long (i2.toInt64)), .second, .val (.long (i3.toInt64)), .second, .val (.long cl), .second, .unset, .unset, .unset, .unset] [(.ref b64), (.ref b64)]))
  refine own_callI X64 hx hZ (y := (⟨"com/example/triflux/triflux/eval/Summary", "<init>", "()V"⟩ : MethodName)) rfl hown (hw _ (List.mem_of_getElem? (i := 4) rfl)) (hw _ (List.mem_of_getElem? (i := 5) rfl)) (hw _ (List.mem_of_getElem? (i := 6) rfl)) (hw _ (List.mem_of_getElem? (i := 3) rfl)) (by decide) e64 (a := b64) (argsL := []) (rest := [(.ref b64)]) (W := 1) (own_rm1 l Z a0 hw [] b64 h64 n0 (Nat.le_trans Z0 K67.1) ) (by decide) (by decide) (by rw [hml]; rfl) (lenOf own_pd4 rfl) rfl (by exact Nat.le_of_eq rfl) (hb hby at_30) (by decide) (by decide) ?_
  intro T69 v69 L69 X69 hq69
  obtain ⟨rfl, N69q, hh69⟩ := hq69
  have N69 := Fr.app N0 N69q
  show own_Run p e below s _ _ _ (T69.setTop (mkF m 33 #[.val (.int i0), .val (.int i1), .val (.int i2), .val (.int i3), .val (.long (i1.toInt64)), .second, .val (.long (i2.toInt64)), .second, .val (.long (i3.toInt64)), .second, .val (.long cl), .second, .unset, .unset, .unset, .unset] [(.ref b64)]))
  refine own_st (fun t k => XS.astore X69.here hx rfl (hb hby at_33) rfl rfl (l' := #[.val (.int i0), .val (.int i1), .val (.int i2), .val (.int i3), .val (.long (i1.toInt64)), .second, .val (.long (i2.toInt64)), .second, .val (.long (i3.toInt64)), .second, .val (.long cl), .second, .val (.ref b64), .unset, .unset, .unset]) rfl k) ?_
  show own_Run p e below s _ _ _ (T69.setTop (mkF m 35 #[.val (.int i0), .val (.int i1), .val (.int i2), .val (.int i3), .val (.long (i1.toInt64)), .second, .val (.long (i2.toInt64)), .second, .val (.long (i3.toInt64)), .second, .val (.long cl), .second, .val (.ref b64), .unset, .unset, .unset] []))
  refine own_st (fun t k => XS.iloadN X69.here hx rfl (hb hby at_35) rfl k) ?_
  show own_Run p e below s _ _ _ (T69.setTop (mkF m 36 #[.val (.int i0), .val (.int i1), .val (.int i2), .val (.int i3), .val (.long (i1.toInt64)), .second, .val (.long (i2.toInt64)), .second, .val (.long (i3.toInt64)), .second, .val (.long cl), .second, .val (.ref b64), .unset, .unset, .unset] [(.int i0)]))
  refine own_st (fun t k => XS.iconst X69.here hx rfl (hb hby at_36) k) ?_
  show own_Run p e below s _ _ _ (T69.setTop (mkF m 37 #[.val (.int i0), .val (.int i1), .val (.int i2), .val (.int i3), .val (.long (i1.toInt64)), .second, .val (.long (i2.toInt64)), .second, .val (.long (i3.toInt64)), .second, .val (.long cl), .second, .val (.ref b64), .unset, .unset, .unset] [(.int (3 : Int32)), (.int i0)]))
  refine own_st (fun t k => XS.iand X69.here hx rfl (hb hby at_37) rfl k) ?_
  show own_Run p e below s _ _ _ (T69.setTop (mkF m 38 #[.val (.int i0), .val (.int i1), .val (.int i2), .val (.int i3), .val (.long (i1.toInt64)), .second, .val (.long (i2.toInt64)), .second, .val (.long (i3.toInt64)), .second, .val (.long cl), .second, .val (.ref b64), .unset, .unset, .unset] [(.int (i0 &&& (3 : Int32)))]))
  rcases own_four i0 with hn | hn | hn | hn
  · refine own_topI hn ?_
    show own_Run p e below s _ _ _ (T69.setTop (mkF m 38 #[.val (.int i0), .val (.int i1), .val (.int i2), .val (.int i3), .val (.long (i1.toInt64)), .second, .val (.long (i2.toInt64)), .second, .val (.long (i3.toInt64)), .second, .val (.long cl), .second, .val (.ref b64), .unset, .unset, .unset] [(.int (0 : Int32))]))
    refine own_st (fun t k => XS.istore X69.here hx rfl (hb hby at_38) rfl (l' := #[.val (.int i0), .val (.int i1), .val (.int i2), .val (.int i3), .val (.long (i1.toInt64)), .second, .val (.long (i2.toInt64)), .second, .val (.long (i3.toInt64)), .second, .val (.long cl), .second, .val (.ref b64), .val (.int (0 : Int32)), .unset, .unset]) rfl k) ?_
    show own_Run p e below s _ _ _ (T69.setTop (mkF m 40 #[.val (.int i0), .val (.int i1), .val (.int i2), .val (.int i3), .val (.long (i1.toInt64)), .second, .val (.long (i2.toInt64)), .second, .val (.long (i3.toInt64)), .second, .val (.long cl), .second, .val (.ref b64), .val (.int (0 : Int32)), .unset, .unset] []))
    refine own_st (fun t k => XS.iload X69.here hx rfl (hb hby at_40) rfl k) ?_
    show own_Run p e below s _ _ _ (T69.setTop (mkF m 42 #[.val (.int i0), .val (.int i1), .val (.int i2), .val (.int i3), .val (.long (i1.toInt64)), .second, .val (.long (i2.toInt64)), .second, .val (.long (i3.toInt64)), .second, .val (.long cl), .second, .val (.ref b64), .val (.int (0 : Int32)), .unset, .unset] [(.int (0 : Int32))]))
    refine own_st (fun t k => XS.iconst X69.here hx rfl (hb hby at_42) k) ?_
    show own_Run p e below s _ _ _ (T69.setTop (mkF m 43 #[.val (.int i0), .val (.int i1), .val (.int i2), .val (.int i3), .val (.long (i1.toInt64)), .second, .val (.long (i2.toInt64)), .second, .val (.long (i3.toInt64)), .second, .val (.long cl), .second, .val (.ref b64), .val (.int (0 : Int32)), .unset, .unset] [(.int (1 : Int32)), (.int (0 : Int32))]))
    refine own_st (fun t k => XS.icmpYes X69.here hx rfl (pc0 := 43) (pc' := 54) rfl (hb hby at_43) rfl (tlt (by decide : (0 : Int32) < (1 : Int32))).1 (by decide) (by decide) k) ?_
    show own_Run p e below s _ _ _ (T69.setTop (mkF m 54 #[.val (.int i0), .val (.int i1), .val (.int i2), .val (.int i3), .val (.long (i1.toInt64)), .second, .val (.long (i2.toInt64)), .second, .val (.long (i3.toInt64)), .second, .val (.long cl), .second, .val (.ref b64), .val (.int (0 : Int32)), .unset, .unset] []))
    refine own_st (fun t k => XS.iload X69.here hx rfl (hb hby at_54) rfl k) ?_
    show own_Run p e below s _ _ _ (T69.setTop (mkF m 56 #[.val (.int i0), .val (.int i1), .val (.int i2), .val (.int i3), .val (.long (i1.toInt64)), .second, .val (.long (i2.toInt64)), .second, .val (.long (i3.toInt64)), .second, .val (.long cl), .second, .val (.ref b64), .val (.int (0 : Int32)), .unset, .unset] [(.int (0 : Int32))]))
    refine own_st (fun t k => XS.iconst X69.here hx rfl (hb hby at_56) k) ?_
    show own_Run p e below s _ _ _ (T69.setTop (mkF m 57 #[.val (.int i0), .val (.int i1), .val (.int i2), .val (.int i3), .val (.long (i1.toInt64)), .second, .val (.long (i2.toInt64)), .second, .val (.long (i3.toInt64)), .second, .val (.long cl), .second, .val (.ref b64), .val (.int (0 : Int32)), .unset, .unset] [(.int (2 : Int32)), (.int (0 : Int32))]))
    refine own_st (fun t k => XS.icmpYes X69.here hx rfl (pc0 := 57) (pc' := 68) rfl (hb hby at_57) rfl (tlt (by decide : (0 : Int32) < (2 : Int32))).1 (by decide) (by decide) k) ?_
    show own_Run p e below s _ _ _ (T69.setTop (mkF m 68 #[.val (.int i0), .val (.int i1), .val (.int i2), .val (.int i3), .val (.long (i1.toInt64)), .second, .val (.long (i2.toInt64)), .second, .val (.long (i3.toInt64)), .second, .val (.long cl), .second, .val (.ref b64), .val (.int (0 : Int32)), .unset, .unset] []))
    refine own_st (fun t k => XS.iload X69.here hx rfl (hb hby at_68) rfl k) ?_
    show own_Run p e below s _ _ _ (T69.setTop (mkF m 70 #[.val (.int i0), .val (.int i1), .val (.int i2), .val (.int i3), .val (.long (i1.toInt64)), .second, .val (.long (i2.toInt64)), .second, .val (.long (i3.toInt64)), .second, .val (.long cl), .second, .val (.ref b64), .val (.int (0 : Int32)), .unset, .unset] [(.int (0 : Int32))]))
    refine own_st (fun t k => XS.iconst X69.here hx rfl (hb hby at_70) k) ?_
    show own_Run p e below s _ _ _ (T69.setTop (mkF m 71 #[.val (.int i0), .val (.int i1), .val (.int i2), .val (.int i3), .val (.long (i1.toInt64)), .second, .val (.long (i2.toInt64)), .second, .val (.long (i3.toInt64)), .second, .val (.long cl), .second, .val (.ref b64), .val (.int (0 : Int32)), .unset, .unset] [(.int (3 : Int32)), (.int (0 : Int32))]))
    refine own_st (fun t k => XS.icmpYes X69.here hx rfl (pc0 := 71) (pc' := 82) rfl (hb hby at_71) rfl (feq (by decide : ¬ ((0 : Int32) = (3 : Int32)))).2 (by decide) (by decide) k) ?_
    show own_Run p e below s _ _ _ (T69.setTop (mkF m 82 #[.val (.int i0), .val (.int i1), .val (.int i2), .val (.int i3), .val (.long (i1.toInt64)), .second, .val (.long (i2.toInt64)), .second, .val (.long (i3.toInt64)), .second, .val (.long cl), .second, .val (.ref b64), .val (.int (0 : Int32)), .unset, .unset] []))
    refine own_st (fun t k => XS.aload X69.here hx rfl (hb hby at_82) rfl rfl k) ?_
    show own_Run p e below s _ _ _ (T69.setTop (mkF m 84 #[.val (.int i0), .val (.int i1), .val (.int i2), .val (.int i3), .val (.long (i1.toInt64)), .second, .val (.long (i2.toInt64)), .second, .val (.long (i3.toInt64)), .second, .val (.long cl), .second, .val (.ref b64), .val (.int (0 : Int32)), .unset, .unset] [(.ref b64)]))
    have F70 : Fld Z _ b64 "com/example/triflux/triflux/eval/Summary" "count" "J" (.long (0 : Int64)) := D64 (Or.inl (hw _ (List.mem_of_getElem? (i := 16) rfl))) (ty := .long) (by decide)
    refine own_callV X69 hx hZ (y := (⟨"com/example/triflux/triflux/eval/Summary", "mean", "()D"⟩ : MethodName)) (C := "com/example/triflux/triflux/eval/Summary") hown (hw _ (List.mem_of_getElem? (i := 10) rfl)) (hw _ (List.mem_of_getElem? (i := 11) rfl)) (hw _ (List.mem_of_getElem? (i := 13) rfl)) (hw _ (List.mem_of_getElem? (i := 12) rfl)) (hw _ (List.mem_of_getElem? (i := 14) rfl)) (hw _ (List.mem_of_getElem? (i := 3) rfl)) (by decide) hh69 (a := b64) A64 (argsL := []) (rest := []) (W := 0) (own_rm3Z l Z a0 hw [] b64 h64 n0 (Nat.le_trans Z0 K67.1) F70) (by decide) (by decide) (by rw [hml]; rfl) (lenOf own_pd5 rfl) rfl (by exact Nat.le_of_eq rfl) (hb hby at_84) (by decide) (by decide) ?_
    intro T71 v71 L71 X71 hq71
    obtain ⟨rfl, N71q, hh71⟩ := hq71
    have N71 := Fr.app N69 N71q
    show own_Run p e below s _ _ _ (T71.setTop (mkF m 87 #[.val (.int i0), .val (.int i1), .val (.int i2), .val (.int i3), .val (.long (i1.toInt64)), .second, .val (.long (i2.toInt64)), .second, .val (.long (i3.toInt64)), .second, .val (.long cl), .second, .val (.ref b64), .val (.int (0 : Int32)), .unset, .unset] [(.double (9221120237041090560 : UInt64))]))
    refine own_st (fun t k => XS.dstore X71.here hx rfl (hb hby at_87) rfl (l' := #[.val (.int i0), .val (.int i1), .val (.int i2), .val (.int i3), .val (.long (i1.toInt64)), .second, .val (.long (i2.toInt64)), .second, .val (.long (i3.toInt64)), .second, .val (.long cl), .second, .val (.ref b64), .val (.int (0 : Int32)), .val (.double (9221120237041090560 : UInt64)), .second]) rfl k) ?_
    show own_Run p e below s _ _ _ (T71.setTop (mkF m 89 #[.val (.int i0), .val (.int i1), .val (.int i2), .val (.int i3), .val (.long (i1.toInt64)), .second, .val (.long (i2.toInt64)), .second, .val (.long (i3.toInt64)), .second, .val (.long cl), .second, .val (.ref b64), .val (.int (0 : Int32)), .val (.double (9221120237041090560 : UInt64)), .second] []))
    refine own_st (fun t k => XS.iload X71.here hx rfl (hb hby at_89) rfl k) ?_
    show own_Run p e below s _ _ _ (T71.setTop (mkF m 91 #[.val (.int i0), .val (.int i1), .val (.int i2), .val (.int i3), .val (.long (i1.toInt64)), .second, .val (.long (i2.toInt64)), .second, .val (.long (i3.toInt64)), .second, .val (.long cl), .second, .val (.ref b64), .val (.int (0 : Int32)), .val (.double (9221120237041090560 : UInt64)), .second] [(.int (0 : Int32))]))
    refine own_st (fun t k => XS.ifNo X71.here hx rfl (hb hby at_91) rfl ((if0 _ _).trans (teq (by decide : (0 : Int32) = (0 : Int32))).2) k) ?_
    show own_Run p e below s _ _ _ (T71.setTop (mkF m 94 #[.val (.int i0), .val (.int i1), .val (.int i2), .val (.int i3), .val (.long (i1.toInt64)), .second, .val (.long (i2.toInt64)), .second, .val (.long (i3.toInt64)), .second, .val (.long cl), .second, .val (.ref b64), .val (.int (0 : Int32)), .val (.double (9221120237041090560 : UInt64)), .second] []))
    refine own_st (fun t k => XS.dload X71.here hx rfl (hb hby at_94) rfl k) ?_
    show own_Run p e below s _ _ _ (T71.setTop (mkF m 96 #[.val (.int i0), .val (.int i1), .val (.int i2), .val (.int i3), .val (.long (i1.toInt64)), .second, .val (.long (i2.toInt64)), .second, .val (.long (i3.toInt64)), .second, .val (.long cl), .second, .val (.ref b64), .val (.int (0 : Int32)), .val (.double (9221120237041090560 : UInt64)), .second] [(.double (9221120237041090560 : UInt64))]))
    refine own_st (fun t k => XS.dload X71.here hx rfl (hb hby at_96) rfl k) ?_
    show own_Run p e below s _ _ _ (T71.setTop (mkF m 98 #[.val (.int i0), .val (.int i1), .val (.int i2), .val (.int i3), .val (.long (i1.toInt64)), .second, .val (.long (i2.toInt64)), .second, .val (.long (i3.toInt64)), .second, .val (.long cl), .second, .val (.ref b64), .val (.int (0 : Int32)), .val (.double (9221120237041090560 : UInt64)), .second] [(.double (9221120237041090560 : UInt64)), (.double (9221120237041090560 : UInt64))]))
    refine own_st (fun t k => XS.dcmpS X71.here hx rfl (hb hby at_98) rfl (v := (-1 : Int32)) (by decide +kernel) k) ?_
    show own_Run p e below s _ _ _ (T71.setTop (mkF m 99 #[.val (.int i0), .val (.int i1), .val (.int i2), .val (.int i3), .val (.long (i1.toInt64)), .second, .val (.long (i2.toInt64)), .second, .val (.long (i3.toInt64)), .second, .val (.long cl), .second, .val (.ref b64), .val (.int (0 : Int32)), .val (.double (9221120237041090560 : UInt64)), .second] [(.int (-1 : Int32))]))
    refine own_st (fun t k => XS.ifNo X71.here hx rfl (hb hby at_99) rfl ((if0 _ _).trans (feq (by decide : ¬ ((-1 : Int32) = (0 : Int32)))).1) k) ?_
    show own_Run p e below s _ _ _ (T71.setTop (mkF m 102 #[.val (.int i0), .val (.int i1), .val (.int i2), .val (.int i3), .val (.long (i1.toInt64)), .second, .val (.long (i2.toInt64)), .second, .val (.long (i3.toInt64)), .second, .val (.long cl), .second, .val (.ref b64), .val (.int (0 : Int32)), .val (.double (9221120237041090560 : UInt64)), .second] []))
    refine own_st (fun t k => XS.iconst X71.here hx rfl (hb hby at_102) k) ?_
    show own_Run p e below s _ _ _ (T71.setTop (mkF m 103 #[.val (.int i0), .val (.int i1), .val (.int i2), .val (.int i3), .val (.long (i1.toInt64)), .second, .val (.long (i2.toInt64)), .second, .val (.long (i3.toInt64)), .second, .val (.long cl), .second, .val (.ref b64), .val (.int (0 : Int32)), .val (.double (9221120237041090560 : UInt64)), .second] [(.int (1 : Int32))]))
    refine own_st (fun t k => XS.goto X71.here hx rfl (pc0 := 103) (pc' := 107) rfl (hb hby at_103) (by decide) (by decide) k) ?_
    show own_Run p e below s _ _ _ (T71.setTop (mkF m 107 #[.val (.int i0), .val (.int i1), .val (.int i2), .val (.int i3), .val (.long (i1.toInt64)), .second, .val (.long (i2.toInt64)), .second, .val (.long (i3.toInt64)), .second, .val (.long cl), .second, .val (.ref b64), .val (.int (0 : Int32)), .val (.double (9221120237041090560 : UInt64)), .second] [(.int (1 : Int32))]))
    exact own_ret X71 hx hlk (t := .boolean) hret rfl (Or.inl ⟨rfl, by simp, _, rfl⟩) (hb hby at_107) (by decide) (by decide) ⟨rfl, N71⟩
  · refine own_topI hn ?_
    show own_Run p e below s _ _ _ (T69.setTop (mkF m 38 #[.val (.int i0), .val (.int i1), .val (.int i2), .val (.int i3), .val (.long (i1.toInt64)), .second, .val (.long (i2.toInt64)), .second, .val (.long (i3.toInt64)), .second, .val (.long cl), .second, .val (.ref b64), .unset, .unset, .unset] [(.int (1 : Int32))]))
    refine own_st (fun t k => XS.istore X69.here hx rfl (hb hby at_38) rfl (l' := #[.val (.int i0), .val (.int i1), .val (.int i2), .val (.int i3), .val (.long (i1.toInt64)), .second, .val (.long (i2.toInt64)), .second, .val (.long (i3.toInt64)), .second, .val (.long cl), .second, .val (.ref b64), .val (.int (1 : Int32)), .unset, .unset]) rfl k) ?_
    show own_Run p e below s _ _ _ (T69.setTop (mkF m 40 #[.val (.int i0), .val (.int i1), .val (.int i2), .val (.int i3), .val (.long (i1.toInt64)), .second, .val (.long (i2.toInt64)), .second, .val (.long (i3.toInt64)), .second, .val (.long cl), .second, .val (.ref b64), .val (.int (1 : Int32)), .unset, .unset] []))
    refine own_st (fun t k => XS.iload X69.here hx rfl (hb hby at_40) rfl k) ?_
    show own_Run p e below s _ _ _ (T69.setTop (mkF m 42 #[.val (.int i0), .val (.int i1), .val (.int i2), .val (.int i3), .val (.long (i1.toInt64)), .second, .val (.long (i2.toInt64)), .second, .val (.long (i3.toInt64)), .second, .val (.long cl), .second, .val (.ref b64), .val (.int (1 : Int32)), .unset, .unset] [(.int (1 : Int32))]))
    refine own_st (fun t k => XS.iconst X69.here hx rfl (hb hby at_42) k) ?_
    show own_Run p e below s _ _ _ (T69.setTop (mkF m 43 #[.val (.int i0), .val (.int i1), .val (.int i2), .val (.int i3), .val (.long (i1.toInt64)), .second, .val (.long (i2.toInt64)), .second, .val (.long (i3.toInt64)), .second, .val (.long cl), .second, .val (.ref b64), .val (.int (1 : Int32)), .unset, .unset] [(.int (1 : Int32)), (.int (1 : Int32))]))
    refine own_st (fun t k => XS.icmpNo X69.here hx rfl (hb hby at_43) rfl (flt (by decide : ¬ ((1 : Int32) < (1 : Int32)))).1 k) ?_
    show own_Run p e below s _ _ _ (T69.setTop (mkF m 46 #[.val (.int i0), .val (.int i1), .val (.int i2), .val (.int i3), .val (.long (i1.toInt64)), .second, .val (.long (i2.toInt64)), .second, .val (.long (i3.toInt64)), .second, .val (.long cl), .second, .val (.ref b64), .val (.int (1 : Int32)), .unset, .unset] []))
    refine own_st (fun t k => XS.aload X69.here hx rfl (hb hby at_46) rfl rfl k) ?_
    show own_Run p e below s _ _ _ (T69.setTop (mkF m 48 #[.val (.int i0), .val (.int i1), .val (.int i2), .val (.int i3), .val (.long (i1.toInt64)), .second, .val (.long (i2.toInt64)), .second, .val (.long (i3.toInt64)), .second, .val (.long cl), .second, .val (.ref b64), .val (.int (1 : Int32)), .unset, .unset] [(.ref b64)]))
    refine own_st (fun t k => XS.lload X69.here hx rfl (hb hby at_48) rfl k) ?_
    show own_Run p e below s _ _ _ (T69.setTop (mkF m 50 #[.val (.int i0), .val (.int i1), .val (.int i2), .val (.int i3), .val (.long (i1.toInt64)), .second, .val (.long (i2.toInt64)), .second, .val (.long (i3.toInt64)), .second, .val (.long cl), .second, .val (.ref b64), .val (.int (1 : Int32)), .unset, .unset] [(.long (i1.toInt64)), (.ref b64)]))
    refine own_st (fun t k => XS.l2dS X69.here hx rfl (hb hby at_50) rfl (v := (FP.l2d (i1.toInt64))) (rfl) k) ?_
    show own_Run p e below s _ _ _ (T69.setTop (mkF m 51 #[.val (.int i0), .val (.int i1), .val (.int i2), .val (.int i3), .val (.long (i1.toInt64)), .second, .val (.long (i2.toInt64)), .second, .val (.long (i3.toInt64)), .second, .val (.long cl), .second, .val (.ref b64), .val (.int (1 : Int32)), .unset, .unset] [(.double (FP.l2d (i1.toInt64))), (.ref b64)]))
    obtain ⟨m1, q1, g1, zm1, zq1⟩ := own_add1 i1
    have F72 : Fld Z _ b64 "com/example/triflux/triflux/eval/Summary" "count" "J" (.long (0 : Int64)) := D64 (Or.inl (hw _ (List.mem_of_getElem? (i := 16) rfl))) (ty := .long) (by decide)
    have F73 : Fld Z _ b64 "com/example/triflux/triflux/eval/Summary" "first" "D" (.double (0 : UInt64)) := D64 (Or.inl (hw _ (List.mem_of_getElem? (i := 33) rfl))) (ty := .double) (by decide)
    have F74 : Fld Z _ b64 "com/example/triflux/triflux/eval/Summary" "shiftedMean" "D" (.double (0 : UInt64)) := D64 (Or.inl (hw _ (List.mem_of_getElem? (i := 35) rfl))) (ty := .double) (by decide)
    have F75 : Fld Z _ b64 "com/example/triflux/triflux/eval/Summary" "squaredDeviations" "D" (.double (0 : UInt64)) := D64 (Or.inl (hw _ (List.mem_of_getElem? (i := 37) rfl))) (ty := .double) (by decide)
    refine own_callV X69 hx hZ (y := (⟨"com/example/triflux/triflux/eval/Summary", "add", "(D)V"⟩ : MethodName)) (C := "com/example/triflux/triflux/eval/Summary") hown (hw _ (List.mem_of_getElem? (i := 18) rfl)) (hw _ (List.mem_of_getElem? (i := 19) rfl)) (hw _ (List.mem_of_getElem? (i := 21) rfl)) (hw _ (List.mem_of_getElem? (i := 20) rfl)) (hw _ (List.mem_of_getElem? (i := 22) rfl)) (hw _ (List.mem_of_getElem? (i := 3) rfl)) (by decide) hh69 (a := b64) A64 (argsL := [(.double (FP.l2d (i1.toInt64)))]) (rest := []) (W := 0) (own_rm4A l Z a0 hw [] b64 (FP.l2d (i1.toInt64)) (0 : UInt64) (0 : UInt64) (0 : UInt64) m1 q1 h64 n0 (Nat.le_trans Z0 K67.1) A64 ge66 F72 F73 F74 F75 (g1.1) (g1.2.1) (g1.2.2.1) (g1.2.2.2.1) (g1.2.2.2.2.1) (g1.2.2.2.2.2.1) (g1.2.2.2.2.2.2.1) (g1.2.2.2.2.2.2.2.1) (g1.2.2.2.2.2.2.2.2.1) (g1.2.2.2.2.2.2.2.2.2.1) (g1.2.2.2.2.2.2.2.2.2.2)) (by decide) (by decide) (by rw [hml]; rfl) (lenOf own_pd6 rfl) rfl (by exact Nat.le_of_eq rfl) (hb hby at_51) (by decide) (by decide) ?_
    intro T76 v76 L76 X76 hq76
    obtain ⟨rfl, N76q, K76q, Q77, Q78, Q79, Q80, Q81⟩ := hq76
    have K82 : Keep h0 T76.heap [] := K67.trans K76q (allS (Or.inr sz65) all0)
    have O83 := O68.keep K76q (allS ge66 all0)
    have N76 := Fr.app N69 N76q
    show own_Run p e below s _ _ _ (T76.setTop (mkF m 54 #[.val (.int i0), .val (.int i1), .val (.int i2), .val (.int i3), .val (.long (i1.toInt64)), .second, .val (.long (i2.toInt64)), .second, .val (.long (i3.toInt64)), .second, .val (.long cl), .second, .val (.ref b64), .val (.int (1 : Int32)), .unset, .unset] []))
    refine own_st (fun t k => XS.iload X76.here hx rfl (hb hby at_54) rfl k) ?_
    show own_Run p e below s _ _ _ (T76.setTop (mkF m 56 #[.val (.int i0), .val (.int i1), .val (.int i2), .val (.int i3), .val (.long (i1.toInt64)), .second, .val (.long (i2.toInt64)), .second, .val (.long (i3.toInt64)), .second, .val (.long cl), .second, .val (.ref b64), .val (.int (1 : Int32)), .unset, .unset] [(.int (1 : Int32))]))
    refine own_st (fun t k => XS.iconst X76.here hx rfl (hb hby at_56) k) ?_
    show own_Run p e below s _ _ _ (T76.setTop (mkF m 57 #[.val (.int i0), .val (.int i1), .val (.int i2), .val (.int i3), .val (.long (i1.toInt64)), .second, .val (.long (i2.toInt64)), .second, .val (.long (i3.toInt64)), .second, .val (.long cl), .second, .val (.ref b64), .val (.int (1 : Int32)), .unset, .unset] [(.int (2 : Int32)), (.int (1 : Int32))]))
    refine own_st (fun t k => XS.icmpYes X76.here hx rfl (pc0 := 57) (pc' := 68) rfl (hb hby at_57) rfl (tlt (by decide : (1 : Int32) < (2 : Int32))).1 (by decide) (by decide) k) ?_
    show own_Run p e below s _ _ _ (T76.setTop (mkF m 68 #[.val (.int i0), .val (.int i1), .val (.int i2), .val (.int i3), .val (.long (i1.toInt64)), .second, .val (.long (i2.toInt64)), .second, .val (.long (i3.toInt64)), .second, .val (.long cl), .second, .val (.ref b64), .val (.int (1 : Int32)), .unset, .unset] []))
    refine own_st (fun t k => XS.iload X76.here hx rfl (hb hby at_68) rfl k) ?_
    show own_Run p e below s _ _ _ (T76.setTop (mkF m 70 #[.val (.int i0), .val (.int i1), .val (.int i2), .val (.int i3), .val (.long (i1.toInt64)), .second, .val (.long (i2.toInt64)), .second, .val (.long (i3.toInt64)), .second, .val (.long cl), .second, .val (.ref b64), .val (.int (1 : Int32)), .unset, .unset] [(.int (1 : Int32))]))
    refine own_st (fun t k => XS.iconst X76.here hx rfl (hb hby at_70) k) ?_
    show own_Run p e below s _ _ _ (T76.setTop (mkF m 71 #[.val (.int i0), .val (.int i1), .val (.int i2), .val (.int i3), .val (.long (i1.toInt64)), .second, .val (.long (i2.toInt64)), .second, .val (.long (i3.toInt64)), .second, .val (.long cl), .second, .val (.ref b64), .val (.int (1 : Int32)), .unset, .unset] [(.int (3 : Int32)), (.int (1 : Int32))]))
    refine own_st (fun t k => XS.icmpYes X76.here hx rfl (pc0 := 71) (pc' := 82) rfl (hb hby at_71) rfl (feq (by decide : ¬ ((1 : Int32) = (3 : Int32)))).2 (by decide) (by decide) k) ?_
    show own_Run p e below s _ _ _ (T76.setTop (mkF m 82 #[.val (.int i0), .val (.int i1), .val (.int i2), .val (.int i3), .val (.long (i1.toInt64)), .second, .val (.long (i2.toInt64)), .second, .val (.long (i3.toInt64)), .second, .val (.long cl), .second, .val (.ref b64), .val (.int (1 : Int32)), .unset, .unset] []))
    refine own_st (fun t k => XS.aload X76.here hx rfl (hb hby at_82) rfl rfl k) ?_
    show own_Run p e below s _ _ _ (T76.setTop (mkF m 84 #[.val (.int i0), .val (.int i1), .val (.int i2), .val (.int i3), .val (.long (i1.toInt64)), .second, .val (.long (i2.toInt64)), .second, .val (.long (i3.toInt64)), .second, .val (.long cl), .second, .val (.ref b64), .val (.int (1 : Int32)), .unset, .unset] [(.ref b64)]))
    have zr := own_mn1 (a := i1) zm1
    refine own_callV X76 hx hZ (y := (⟨"com/example/triflux/triflux/eval/Summary", "mean", "()D"⟩ : MethodName)) (C := "com/example/triflux/triflux/eval/Summary") hown (hw _ (List.mem_of_getElem? (i := 10) rfl)) (hw _ (List.mem_of_getElem? (i := 11) rfl)) (hw _ (List.mem_of_getElem? (i := 13) rfl)) (hw _ (List.mem_of_getElem? (i := 12) rfl)) (hw _ (List.mem_of_getElem? (i := 14) rfl)) (hw _ (List.mem_of_getElem? (i := 3) rfl)) (by decide) rfl (a := b64) Q77 (argsL := []) (rest := []) (W := 0) (own_rm3V l Z a0 hw [] b64 ((0 : Int64) + (1 : Int64)) (FP.l2d (i1.toInt64)) m1 T76.heap n0 (Nat.le_trans Z0 K82.1) Q78 Q79 Q80 (by decide) (zr.nn)) (by decide) (by decide) (by rw [hml]; rfl) (lenOf own_pd5 rfl) rfl (by exact Nat.le_of_eq rfl) (hb hby at_84) (by decide) (by decide) ?_
    intro T84 v84 L84 X84 hq84
    obtain ⟨rfl, N84q, hh84⟩ := hq84
    have N84 := Fr.app N76 N84q
    show own_Run p e below s _ _ _ (T84.setTop (mkF m 87 #[.val (.int i0), .val (.int i1), .val (.int i2), .val (.int i3), .val (.long (i1.toInt64)), .second, .val (.long (i2.toInt64)), .second, .val (.long (i3.toInt64)), .second, .val (.long cl), .second, .val (.ref b64), .val (.int (1 : Int32)), .unset, .unset] [(.double (FP.dadd (FP.l2d (i1.toInt64)) m1))]))
    refine own_st (fun t k => XS.dstore X84.here hx rfl (hb hby at_87) rfl (l' := #[.val (.int i0), .val (.int i1), .val (.int i2), .val (.int i3), .val (.long (i1.toInt64)), .second, .val (.long (i2.toInt64)), .second, .val (.long (i3.toInt64)), .second, .val (.long cl), .second, .val (.ref b64), .val (.int (1 : Int32)), .val (.double (FP.dadd (FP.l2d (i1.toInt64)) m1)), .second]) rfl k) ?_
    show own_Run p e below s _ _ _ (T84.setTop (mkF m 89 #[.val (.int i0), .val (.int i1), .val (.int i2), .val (.int i3), .val (.long (i1.toInt64)), .second, .val (.long (i2.toInt64)), .second, .val (.long (i3.toInt64)), .second, .val (.long cl), .second, .val (.ref b64), .val (.int (1 : Int32)), .val (.double (FP.dadd (FP.l2d (i1.toInt64)) m1)), .second] []))
    refine own_st (fun t k => XS.iload X84.here hx rfl (hb hby at_89) rfl k) ?_
    show own_Run p e below s _ _ _ (T84.setTop (mkF m 91 #[.val (.int i0), .val (.int i1), .val (.int i2), .val (.int i3), .val (.long (i1.toInt64)), .second, .val (.long (i2.toInt64)), .second, .val (.long (i3.toInt64)), .second, .val (.long cl), .second, .val (.ref b64), .val (.int (1 : Int32)), .val (.double (FP.dadd (FP.l2d (i1.toInt64)) m1)), .second] [(.int (1 : Int32))]))
    refine own_st (fun t k => XS.ifYes X84.here hx rfl (pc0 := 91) (pc' := 108) rfl (hb hby at_91) rfl ((if0 _ _).trans (feq (by decide : ¬ ((1 : Int32) = (0 : Int32)))).2) (by decide) (by decide) k) ?_
    show own_Run p e below s _ _ _ (T84.setTop (mkF m 108 #[.val (.int i0), .val (.int i1), .val (.int i2), .val (.int i3), .val (.long (i1.toInt64)), .second, .val (.long (i2.toInt64)), .second, .val (.long (i3.toInt64)), .second, .val (.long cl), .second, .val (.ref b64), .val (.int (1 : Int32)), .val (.double (FP.dadd (FP.l2d (i1.toInt64)) m1)), .second] []))
    refine own_st (fun t k => XS.iload X84.here hx rfl (hb hby at_108) rfl k) ?_
    show own_Run p e below s _ _ _ (T84.setTop (mkF m 110 #[.val (.int i0), .val (.int i1), .val (.int i2), .val (.int i3), .val (.long (i1.toInt64)), .second, .val (.long (i2.toInt64)), .second, .val (.long (i3.toInt64)), .second, .val (.long cl), .second, .val (.ref b64), .val (.int (1 : Int32)), .val (.double (FP.dadd (FP.l2d (i1.toInt64)) m1)), .second] [(.int (1 : Int32))]))
    refine own_st (fun t k => XS.iconst X84.here hx rfl (hb hby at_110) k) ?_
    show own_Run p e below s _ _ _ (T84.setTop (mkF m 111 #[.val (.int i0), .val (.int i1), .val (.int i2), .val (.int i3), .val (.long (i1.toInt64)), .second, .val (.long (i2.toInt64)), .second, .val (.long (i3.toInt64)), .second, .val (.long cl), .second, .val (.ref b64), .val (.int (1 : Int32)), .val (.double (FP.dadd (FP.l2d (i1.toInt64)) m1)), .second] [(.int (1 : Int32)), (.int (1 : Int32))]))
    refine own_st (fun t k => XS.icmpNo X84.here hx rfl (hb hby at_111) rfl (teq (by decide : (1 : Int32) = (1 : Int32))).2 k) ?_
    show own_Run p e below s _ _ _ (T84.setTop (mkF m 114 #[.val (.int i0), .val (.int i1), .val (.int i2), .val (.int i3), .val (.long (i1.toInt64)), .second, .val (.long (i2.toInt64)), .second, .val (.long (i3.toInt64)), .second, .val (.long cl), .second, .val (.ref b64), .val (.int (1 : Int32)), .val (.double (FP.dadd (FP.l2d (i1.toInt64)) m1)), .second] []))
    refine own_st (fun t k => XS.dload X84.here hx rfl (hb hby at_114) rfl k) ?_
    show own_Run p e below s _ _ _ (T84.setTop (mkF m 116 #[.val (.int i0), .val (.int i1), .val (.int i2), .val (.int i3), .val (.long (i1.toInt64)), .second, .val (.long (i2.toInt64)), .second, .val (.long (i3.toInt64)), .second, .val (.long cl), .second, .val (.ref b64), .val (.int (1 : Int32)), .val (.double (FP.dadd (FP.l2d (i1.toInt64)) m1)), .second] [(.double (FP.dadd (FP.l2d (i1.toInt64)) m1))]))
    refine own_st (fun t k => XS.lload X84.here hx rfl (hb hby at_116) rfl k) ?_
    show own_Run p e below s _ _ _ (T84.setTop (mkF m 118 #[.val (.int i0), .val (.int i1), .val (.int i2), .val (.int i3), .val (.long (i1.toInt64)), .second, .val (.long (i2.toInt64)), .second, .val (.long (i3.toInt64)), .second, .val (.long cl), .second, .val (.ref b64), .val (.int (1 : Int32)), .val (.double (FP.dadd (FP.l2d (i1.toInt64)) m1)), .second] [(.long (i1.toInt64)), (.double (FP.dadd (FP.l2d (i1.toInt64)) m1))]))
    refine own_st (fun t k => XS.l2dS X84.here hx rfl (hb hby at_118) rfl (v := (FP.l2d (i1.toInt64))) (rfl) k) ?_
    show own_Run p e below s _ _ _ (T84.setTop (mkF m 119 #[.val (.int i0), .val (.int i1), .val (.int i2), .val (.int i3), .val (.long (i1.toInt64)), .second, .val (.long (i2.toInt64)), .second, .val (.long (i3.toInt64)), .second, .val (.long cl), .second, .val (.ref b64), .val (.int (1 : Int32)), .val (.double (FP.dadd (FP.l2d (i1.toInt64)) m1)), .second] [(.double (FP.l2d (i1.toInt64))), (.double (FP.dadd (FP.l2d (i1.toInt64)) m1))]))
    refine own_st (fun t k => XS.dcmpS X84.here hx rfl (hb hby at_119) rfl (v := (0 : Int32)) (zr.cmpE (own_zl i1) rfl _) k) ?_
    show own_Run p e below s _ _ _ (T84.setTop (mkF m 120 #[.val (.int i0), .val (.int i1), .val (.int i2), .val (.int i3), .val (.long (i1.toInt64)), .second, .val (.long (i2.toInt64)), .second, .val (.long (i3.toInt64)), .second, .val (.long cl), .second, .val (.ref b64), .val (.int (1 : Int32)), .val (.double (FP.dadd (FP.l2d (i1.toInt64)) m1)), .second] [(.int (0 : Int32))]))
    refine own_st (fun t k => XS.ifNo X84.here hx rfl (hb hby at_120) rfl ((if0 _ _).trans (teq (by decide : (0 : Int32) = (0 : Int32))).2) k) ?_
    show own_Run p e below s _ _ _ (T84.setTop (mkF m 123 #[.val (.int i0), .val (.int i1), .val (.int i2), .val (.int i3), .val (.long (i1.toInt64)), .second, .val (.long (i2.toInt64)), .second, .val (.long (i3.toInt64)), .second, .val (.long cl), .second, .val (.ref b64), .val (.int (1 : Int32)), .val (.double (FP.dadd (FP.l2d (i1.toInt64)) m1)), .second] []))
    refine own_st (fun t k => XS.iconst X84.here hx rfl (hb hby at_123) k) ?_
    show own_Run p e below s _ _ _ (T84.setTop (mkF m 124 #[.val (.int i0), .val (.int i1), .val (.int i2), .val (.int i3), .val (.long (i1.toInt64)), .second, .val (.long (i2.toInt64)), .second, .val (.long (i3.toInt64)), .second, .val (.long cl), .second, .val (.ref b64), .val (.int (1 : Int32)), .val (.double (FP.dadd (FP.l2d (i1.toInt64)) m1)), .second] [(.int (1 : Int32))]))
    refine own_st (fun t k => XS.goto X84.here hx rfl (pc0 := 124) (pc' := 128) rfl (hb hby at_124) (by decide) (by decide) k) ?_
    show own_Run p e below s _ _ _ (T84.setTop (mkF m 128 #[.val (.int i0), .val (.int i1), .val (.int i2), .val (.int i3), .val (.long (i1.toInt64)), .second, .val (.long (i2.toInt64)), .second, .val (.long (i3.toInt64)), .second, .val (.long cl), .second, .val (.ref b64), .val (.int (1 : Int32)), .val (.double (FP.dadd (FP.l2d (i1.toInt64)) m1)), .second] [(.int (1 : Int32))]))
    exact own_ret X84 hx hlk (t := .boolean) hret rfl (Or.inl ⟨rfl, by simp, _, rfl⟩) (hb hby at_128) (by decide) (by decide) ⟨rfl, N84⟩
  · refine own_topI hn ?_
    show own_Run p e below s _ _ _ (T69.setTop (mkF m 38 #[.val (.int i0), .val (.int i1), .val (.int i2), .val (.int i3), .val (.long (i1.toInt64)), .second, .val (.long (i2.toInt64)), .second, .val (.long (i3.toInt64)), .second, .val (.long cl), .second, .val (.ref b64), .unset, .unset, .unset] [(.int (2 : Int32))]))
    refine own_st (fun t k => XS.istore X69.here hx rfl (hb hby at_38) rfl (l' := #[.val (.int i0), .val (.int i1), .val (.int i2), .val (.int i3), .val (.long (i1.toInt64)), .second, .val (.long (i2.toInt64)), .second, .val (.long (i3.toInt64)), .second, .val (.long cl), .second, .val (.ref b64), .val (.int (2 : Int32)), .unset, .unset]) rfl k) ?_
    show own_Run p e below s _ _ _ (T69.setTop (mkF m 40 #[.val (.int i0), .val (.int i1), .val (.int i2), .val (.int i3), .val (.long (i1.toInt64)), .second, .val (.long (i2.toInt64)), .second, .val (.long (i3.toInt64)), .second, .val (.long cl), .second, .val (.ref b64), .val (.int (2 : Int32)), .unset, .unset] []))
    refine own_st (fun t k => XS.iload X69.here hx rfl (hb hby at_40) rfl k) ?_
    show own_Run p e below s _ _ _ (T69.setTop (mkF m 42 #[.val (.int i0), .val (.int i1), .val (.int i2), .val (.int i3), .val (.long (i1.toInt64)), .second, .val (.long (i2.toInt64)), .second, .val (.long (i3.toInt64)), .second, .val (.long cl), .second, .val (.ref b64), .val (.int (2 : Int32)), .unset, .unset] [(.int (2 : Int32))]))
    refine own_st (fun t k => XS.iconst X69.here hx rfl (hb hby at_42) k) ?_
    show own_Run p e below s _ _ _ (T69.setTop (mkF m 43 #[.val (.int i0), .val (.int i1), .val (.int i2), .val (.int i3), .val (.long (i1.toInt64)), .second, .val (.long (i2.toInt64)), .second, .val (.long (i3.toInt64)), .second, .val (.long cl), .second, .val (.ref b64), .val (.int (2 : Int32)), .unset, .unset] [(.int (1 : Int32)), (.int (2 : Int32))]))
    refine own_st (fun t k => XS.icmpNo X69.here hx rfl (hb hby at_43) rfl (flt (by decide : ¬ ((2 : Int32) < (1 : Int32)))).1 k) ?_
    show own_Run p e below s _ _ _ (T69.setTop (mkF m 46 #[.val (.int i0), .val (.int i1), .val (.int i2), .val (.int i3), .val (.long (i1.toInt64)), .second, .val (.long (i2.toInt64)), .second, .val (.long (i3.toInt64)), .second, .val (.long cl), .second, .val (.ref b64), .val (.int (2 : Int32)), .unset, .unset] []))
    refine own_st (fun t k => XS.aload X69.here hx rfl (hb hby at_46) rfl rfl k) ?_
    show own_Run p e below s _ _ _ (T69.setTop (mkF m 48 #[.val (.int i0), .val (.int i1), .val (.int i2), .val (.int i3), .val (.long (i1.toInt64)), .second, .val (.long (i2.toInt64)), .second, .val (.long (i3.toInt64)), .second, .val (.long cl), .second, .val (.ref b64), .val (.int (2 : Int32)), .unset, .unset] [(.ref b64)]))
    refine own_st (fun t k => XS.lload X69.here hx rfl (hb hby at_48) rfl k) ?_
    show own_Run p e below s _ _ _ (T69.setTop (mkF m 50 #[.val (.int i0), .val (.int i1), .val (.int i2), .val (.int i3), .val (.long (i1.toInt64)), .second, .val (.long (i2.toInt64)), .second, .val (.long (i3.toInt64)), .second, .val (.long cl), .second, .val (.ref b64), .val (.int (2 : Int32)), .unset, .unset] [(.long (i1.toInt64)), (.ref b64)]))
    refine own_st (fun t k => XS.l2dS X69.here hx rfl (hb hby at_50) rfl (v := (FP.l2d (i1.toInt64))) (rfl) k) ?_
    show own_Run p e below s _ _ _ (T69.setTop (mkF m 51 #[.val (.int i0), .val (.int i1), .val (.int i2), .val (.int i3), .val (.long (i1.toInt64)), .second, .val (.long (i2.toInt64)), .second, .val (.long (i3.toInt64)), .second, .val (.long cl), .second, .val (.ref b64), .val (.int (2 : Int32)), .unset, .unset] [(.double (FP.l2d (i1.toInt64))), (.ref b64)]))
    obtain ⟨m1, q1, g1, zm1, zq1⟩ := own_add1 i1
    have F85 : Fld Z _ b64 "com/example/triflux/triflux/eval/Summary" "count" "J" (.long (0 : Int64)) := D64 (Or.inl (hw _ (List.mem_of_getElem? (i := 16) rfl))) (ty := .long) (by decide)
    have F86 : Fld Z _ b64 "com/example/triflux/triflux/eval/Summary" "first" "D" (.double (0 : UInt64)) := D64 (Or.inl (hw _ (List.mem_of_getElem? (i := 33) rfl))) (ty := .double) (by decide)
    have F87 : Fld Z _ b64 "com/example/triflux/triflux/eval/Summary" "shiftedMean" "D" (.double (0 : UInt64)) := D64 (Or.inl (hw _ (List.mem_of_getElem? (i := 35) rfl))) (ty := .double) (by decide)
    have F88 : Fld Z _ b64 "com/example/triflux/triflux/eval/Summary" "squaredDeviations" "D" (.double (0 : UInt64)) := D64 (Or.inl (hw _ (List.mem_of_getElem? (i := 37) rfl))) (ty := .double) (by decide)
    refine own_callV X69 hx hZ (y := (⟨"com/example/triflux/triflux/eval/Summary", "add", "(D)V"⟩ : MethodName)) (C := "com/example/triflux/triflux/eval/Summary") hown (hw _ (List.mem_of_getElem? (i := 18) rfl)) (hw _ (List.mem_of_getElem? (i := 19) rfl)) (hw _ (List.mem_of_getElem? (i := 21) rfl)) (hw _ (List.mem_of_getElem? (i := 20) rfl)) (hw _ (List.mem_of_getElem? (i := 22) rfl)) (hw _ (List.mem_of_getElem? (i := 3) rfl)) (by decide) hh69 (a := b64) A64 (argsL := [(.double (FP.l2d (i1.toInt64)))]) (rest := []) (W := 0) (own_rm4A l Z a0 hw [] b64 (FP.l2d (i1.toInt64)) (0 : UInt64) (0 : UInt64) (0 : UInt64) m1 q1 h64 n0 (Nat.le_trans Z0 K67.1) A64 ge66 F85 F86 F87 F88 (g1.1) (g1.2.1) (g1.2.2.1) (g1.2.2.2.1) (g1.2.2.2.2.1) (g1.2.2.2.2.2.1) (g1.2.2.2.2.2.2.1) (g1.2.2.2.2.2.2.2.1) (g1.2.2.2.2.2.2.2.2.1) (g1.2.2.2.2.2.2.2.2.2.1) (g1.2.2.2.2.2.2.2.2.2.2)) (by decide) (by decide) (by rw [hml]; rfl) (lenOf own_pd6 rfl) rfl (by exact Nat.le_of_eq rfl) (hb hby at_51) (by decide) (by decide) ?_
    intro T89 v89 L89 X89 hq89
    obtain ⟨rfl, N89q, K89q, Q90, Q91, Q92, Q93, Q94⟩ := hq89
    have K95 : Keep h0 T89.heap [] := K67.trans K89q (allS (Or.inr sz65) all0)
    have O96 := O68.keep K89q (allS ge66 all0)
    have N89 := Fr.app N69 N89q
    show own_Run p e below s _ _ _ (T89.setTop (mkF m 54 #[.val (.int i0), .val (.int i1), .val (.int i2), .val (.int i3), .val (.long (i1.toInt64)), .second, .val (.long (i2.toInt64)), .second, .val (.long (i3.toInt64)), .second, .val (.long cl), .second, .val (.ref b64), .val (.int (2 : Int32)), .unset, .unset] []))
    refine own_st (fun t k => XS.iload X89.here hx rfl (hb hby at_54) rfl k) ?_
    show own_Run p e below s _ _ _ (T89.setTop (mkF m 56 #[.val (.int i0), .val (.int i1), .val (.int i2), .val (.int i3), .val (.long (i1.toInt64)), .second, .val (.long (i2.toInt64)), .second, .val (.long (i3.toInt64)), .second, .val (.long cl), .second, .val (.ref b64), .val (.int (2 : Int32)), .unset, .unset] [(.int (2 : Int32))]))
    refine own_st (fun t k => XS.iconst X89.here hx rfl (hb hby at_56) k) ?_
    show own_Run p e below s _ _ _ (T89.setTop (mkF m 57 #[.val (.int i0), .val (.int i1), .val (.int i2), .val (.int i3), .val (.long (i1.toInt64)), .second, .val (.long (i2.toInt64)), .second, .val (.long (i3.toInt64)), .second, .val (.long cl), .second, .val (.ref b64), .val (.int (2 : Int32)), .unset, .unset] [(.int (2 : Int32)), (.int (2 : Int32))]))
    refine own_st (fun t k => XS.icmpNo X89.here hx rfl (hb hby at_57) rfl (flt (by decide : ¬ ((2 : Int32) < (2 : Int32)))).1 k) ?_
    show own_Run p e below s _ _ _ (T89.setTop (mkF m 60 #[.val (.int i0), .val (.int i1), .val (.int i2), .val (.int i3), .val (.long (i1.toInt64)), .second, .val (.long (i2.toInt64)), .second, .val (.long (i3.toInt64)), .second, .val (.long cl), .second, .val (.ref b64), .val (.int (2 : Int32)), .unset, .unset] []))
    refine own_st (fun t k => XS.aload X89.here hx rfl (hb hby at_60) rfl rfl k) ?_
    show own_Run p e below s _ _ _ (T89.setTop (mkF m 62 #[.val (.int i0), .val (.int i1), .val (.int i2), .val (.int i3), .val (.long (i1.toInt64)), .second, .val (.long (i2.toInt64)), .second, .val (.long (i3.toInt64)), .second, .val (.long cl), .second, .val (.ref b64), .val (.int (2 : Int32)), .unset, .unset] [(.ref b64)]))
    refine own_st (fun t k => XS.lload X89.here hx rfl (hb hby at_62) rfl k) ?_
    show own_Run p e below s _ _ _ (T89.setTop (mkF m 64 #[.val (.int i0), .val (.int i1), .val (.int i2), .val (.int i3), .val (.long (i1.toInt64)), .second, .val (.long (i2.toInt64)), .second, .val (.long (i3.toInt64)), .second, .val (.long cl), .second, .val (.ref b64), .val (.int (2 : Int32)), .unset, .unset] [(.long (i2.toInt64)), (.ref b64)]))
    refine own_st (fun t k => XS.l2dS X89.here hx rfl (hb hby at_64) rfl (v := (FP.l2d (i2.toInt64))) (rfl) k) ?_
    show own_Run p e below s _ _ _ (T89.setTop (mkF m 65 #[.val (.int i0), .val (.int i1), .val (.int i2), .val (.int i3), .val (.long (i1.toInt64)), .second, .val (.long (i2.toInt64)), .second, .val (.long (i3.toInt64)), .second, .val (.long cl), .second, .val (.ref b64), .val (.int (2 : Int32)), .unset, .unset] [(.double (FP.l2d (i2.toInt64))), (.ref b64)]))
    obtain ⟨m2, q2, g2, zm2, fq2⟩ := own_add2 i1 i2 zm1 zq1
    refine own_callV X89 hx hZ (y := (⟨"com/example/triflux/triflux/eval/Summary", "add", "(D)V"⟩ : MethodName)) (C := "com/example/triflux/triflux/eval/Summary") hown (hw _ (List.mem_of_getElem? (i := 18) rfl)) (hw _ (List.mem_of_getElem? (i := 19) rfl)) (hw _ (List.mem_of_getElem? (i := 21) rfl)) (hw _ (List.mem_of_getElem? (i := 20) rfl)) (hw _ (List.mem_of_getElem? (i := 22) rfl)) (hw _ (List.mem_of_getElem? (i := 3) rfl)) (by decide) rfl (a := b64) Q90 (argsL := [(.double (FP.l2d (i2.toInt64)))]) (rest := []) (W := 0) (own_rm4B l Z a0 hw [] b64 (FP.l2d (i2.toInt64)) ((0 : Int64) + (1 : Int64)) (FP.l2d (i1.toInt64)) m1 q1 m2 q2 T89.heap n0 (Nat.le_trans Z0 K95.1) Q90 ge66 Q91 Q92 Q93 Q94 (by decide) (g2.1) (g2.2.1) (g2.2.2.1) (g2.2.2.2.1) (g2.2.2.2.2.1) (g2.2.2.2.2.2.1) (g2.2.2.2.2.2.2.1) (g2.2.2.2.2.2.2.2.1) (g2.2.2.2.2.2.2.2.2.1) (g2.2.2.2.2.2.2.2.2.2.1) (g2.2.2.2.2.2.2.2.2.2.2)) (by decide) (by decide) (by rw [hml]; rfl) (lenOf own_pd6 rfl) rfl (by exact Nat.le_of_eq rfl) (hb hby at_65) (by decide) (by decide) ?_
    intro T97 v97 L97 X97 hq97
    obtain ⟨rfl, N97q, K97q, Q98, Q99, Q100, Q101, Q102⟩ := hq97
    have K103 : Keep h0 T97.heap [] := K95.trans K97q (allS (Or.inr sz65) all0)
    have O104 := O96.keep K97q (allS ge66 all0)
    have N97 := Fr.app N89 N97q
    show own_Run p e below s _ _ _ (T97.setTop (mkF m 68 #[.val (.int i0), .val (.int i1), .val (.int i2), .val (.int i3), .val (.long (i1.toInt64)), .second, .val (.long (i2.toInt64)), .second, .val (.long (i3.toInt64)), .second, .val (.long cl), .second, .val (.ref b64), .val (.int (2 : Int32)), .unset, .unset] []))
    refine own_st (fun t k => XS.iload X97.here hx rfl (hb hby at_68) rfl k) ?_
    show own_Run p e below s _ _ _ (T97.setTop (mkF m 70 #[.val (.int i0), .val (.int i1), .val (.int i2), .val (.int i3), .val (.long (i1.toInt64)), .second, .val (.long (i2.toInt64)), .second, .val (.long (i3.toInt64)), .second, .val (.long cl), .second, .val (.ref b64), .val (.int (2 : Int32)), .unset, .unset] [(.int (2 : Int32))]))
    refine own_st (fun t k => XS.iconst X97.here hx rfl (hb hby at_70) k) ?_
    show own_Run p e below s _ _ _ (T97.setTop (mkF m 71 #[.val (.int i0), .val (.int i1), .val (.int i2), .val (.int i3), .val (.long (i1.toInt64)), .second, .val (.long (i2.toInt64)), .second, .val (.long (i3.toInt64)), .second, .val (.long cl), .second, .val (.ref b64), .val (.int (2 : Int32)), .unset, .unset] [(.int (3 : Int32)), (.int (2 : Int32))]))
    refine own_st (fun t k => XS.icmpYes X97.here hx rfl (pc0 := 71) (pc' := 82) rfl (hb hby at_71) rfl (feq (by decide : ¬ ((2 : Int32) = (3 : Int32)))).2 (by decide) (by decide) k) ?_
    show own_Run p e below s _ _ _ (T97.setTop (mkF m 82 #[.val (.int i0), .val (.int i1), .val (.int i2), .val (.int i3), .val (.long (i1.toInt64)), .second, .val (.long (i2.toInt64)), .second, .val (.long (i3.toInt64)), .second, .val (.long cl), .second, .val (.ref b64), .val (.int (2 : Int32)), .unset, .unset] []))
    refine own_st (fun t k => XS.aload X97.here hx rfl (hb hby at_82) rfl rfl k) ?_
    show own_Run p e below s _ _ _ (T97.setTop (mkF m 84 #[.val (.int i0), .val (.int i1), .val (.int i2), .val (.int i3), .val (.long (i1.toInt64)), .second, .val (.long (i2.toInt64)), .second, .val (.long (i3.toInt64)), .second, .val (.long cl), .second, .val (.ref b64), .val (.int (2 : Int32)), .unset, .unset] [(.ref b64)]))
    have zr := own_mn2 (a := i1) zm2
    refine own_callV X97 hx hZ (y := (⟨"com/example/triflux/triflux/eval/Summary", "mean", "()D"⟩ : MethodName)) (C := "com/example/triflux/triflux/eval/Summary") hown (hw _ (List.mem_of_getElem? (i := 10) rfl)) (hw _ (List.mem_of_getElem? (i := 11) rfl)) (hw _ (List.mem_of_getElem? (i := 13) rfl)) (hw _ (List.mem_of_getElem? (i := 12) rfl)) (hw _ (List.mem_of_getElem? (i := 14) rfl)) (hw _ (List.mem_of_getElem? (i := 3) rfl)) (by decide) rfl (a := b64) Q98 (argsL := []) (rest := []) (W := 0) (own_rm3V l Z a0 hw [] b64 (((0 : Int64) + (1 : Int64)) + (1 : Int64)) (FP.l2d (i1.toInt64)) m2 T97.heap n0 (Nat.le_trans Z0 K103.1) Q99 Q100 Q101 (by decide) (zr.nn)) (by decide) (by decide) (by rw [hml]; rfl) (lenOf own_pd5 rfl) rfl (by exact Nat.le_of_eq rfl) (hb hby at_84) (by decide) (by decide) ?_
    intro T105 v105 L105 X105 hq105
    obtain ⟨rfl, N105q, hh105⟩ := hq105
    have N105 := Fr.app N97 N105q
    show own_Run p e below s _ _ _ (T105.setTop (mkF m 87 #[.val (.int i0), .val (.int i1), .val (.int i2), .val (.int i3), .val (.long (i1.toInt64)), .second, .val (.long (i2.toInt64)), .second, .val (.long (i3.toInt64)), .second, .val (.long cl), .second, .val (.ref b64), .val (.int (2 : Int32)), .unset, .unset] [(.double (FP.dadd (FP.l2d (i1.toInt64)) m2))]))
    refine own_st (fun t k => XS.dstore X105.here hx rfl (hb hby at_87) rfl (l' := #[.val (.int i0), .val (.int i1), .val (.int i2), .val (.int i3), .val (.long (i1.toInt64)), .second, .val (.long (i2.toInt64)), .second, .val (.long (i3.toInt64)), .second, .val (.long cl), .second, .val (.ref b64), .val (.int (2 : Int32)), .val (.double (FP.dadd (FP.l2d (i1.toInt64)) m2)), .second]) rfl k) ?_
    show own_Run p e below s _ _ _ (T105.setTop (mkF m 89 #[.val (.int i0), .val (.int i1), .val (.int i2), .val (.int i3), .val (.long (i1.toInt64)), .second, .val (.long (i2.toInt64)), .second, .val (.long (i3.toInt64)), .second, .val (.long cl), .second, .val (.ref b64), .val (.int (2 : Int32)), .val (.double (FP.dadd (FP.l2d (i1.toInt64)) m2)), .second] []))
    refine own_st (fun t k => XS.iload X105.here hx rfl (hb hby at_89) rfl k) ?_
    show own_Run p e below s _ _ _ (T105.setTop (mkF m 91 #[.val (.int i0), .val (.int i1), .val (.int i2), .val (.int i3), .val (.long (i1.toInt64)), .second, .val (.long (i2.toInt64)), .second, .val (.long (i3.toInt64)), .second, .val (.long cl), .second, .val (.ref b64), .val (.int (2 : Int32)), .val (.double (FP.dadd (FP.l2d (i1.toInt64)) m2)), .second] [(.int (2 : Int32))]))
    refine own_st (fun t k => XS.ifYes X105.here hx rfl (pc0 := 91) (pc' := 108) rfl (hb hby at_91) rfl ((if0 _ _).trans (feq (by decide : ¬ ((2 : Int32) = (0 : Int32)))).2) (by decide) (by decide) k) ?_
    show own_Run p e below s _ _ _ (T105.setTop (mkF m 108 #[.val (.int i0), .val (.int i1), .val (.int i2), .val (.int i3), .val (.long (i1.toInt64)), .second, .val (.long (i2.toInt64)), .second, .val (.long (i3.toInt64)), .second, .val (.long cl), .second, .val (.ref b64), .val (.int (2 : Int32)), .val (.double (FP.dadd (FP.l2d (i1.toInt64)) m2)), .second] []))
    refine own_st (fun t k => XS.iload X105.here hx rfl (hb hby at_108) rfl k) ?_
    show own_Run p e below s _ _ _ (T105.setTop (mkF m 110 #[.val (.int i0), .val (.int i1), .val (.int i2), .val (.int i3), .val (.long (i1.toInt64)), .second, .val (.long (i2.toInt64)), .second, .val (.long (i3.toInt64)), .second, .val (.long cl), .second, .val (.ref b64), .val (.int (2 : Int32)), .val (.double (FP.dadd (FP.l2d (i1.toInt64)) m2)), .second] [(.int (2 : Int32))]))
    refine own_st (fun t k => XS.iconst X105.here hx rfl (hb hby at_110) k) ?_
    show own_Run p e below s _ _ _ (T105.setTop (mkF m 111 #[.val (.int i0), .val (.int i1), .val (.int i2), .val (.int i3), .val (.long (i1.toInt64)), .second, .val (.long (i2.toInt64)), .second, .val (.long (i3.toInt64)), .second, .val (.long cl), .second, .val (.ref b64), .val (.int (2 : Int32)), .val (.double (FP.dadd (FP.l2d (i1.toInt64)) m2)), .second] [(.int (1 : Int32)), (.int (2 : Int32))]))
    refine own_st (fun t k => XS.icmpYes X105.here hx rfl (pc0 := 111) (pc' := 129) rfl (hb hby at_111) rfl (feq (by decide : ¬ ((2 : Int32) = (1 : Int32)))).2 (by decide) (by decide) k) ?_
    show own_Run p e below s _ _ _ (T105.setTop (mkF m 129 #[.val (.int i0), .val (.int i1), .val (.int i2), .val (.int i3), .val (.long (i1.toInt64)), .second, .val (.long (i2.toInt64)), .second, .val (.long (i3.toInt64)), .second, .val (.long cl), .second, .val (.ref b64), .val (.int (2 : Int32)), .val (.double (FP.dadd (FP.l2d (i1.toInt64)) m2)), .second] []))
    refine own_st (fun t k => XS.iload X105.here hx rfl (hb hby at_129) rfl k) ?_
    show own_Run p e below s _ _ _ (T105.setTop (mkF m 131 #[.val (.int i0), .val (.int i1), .val (.int i2), .val (.int i3), .val (.long (i1.toInt64)), .second, .val (.long (i2.toInt64)), .second, .val (.long (i3.toInt64)), .second, .val (.long cl), .second, .val (.ref b64), .val (.int (2 : Int32)), .val (.double (FP.dadd (FP.l2d (i1.toInt64)) m2)), .second] [(.int (2 : Int32))]))
    refine own_st (fun t k => XS.iconst X105.here hx rfl (hb hby at_131) k) ?_
    show own_Run p e below s _ _ _ (T105.setTop (mkF m 132 #[.val (.int i0), .val (.int i1), .val (.int i2), .val (.int i3), .val (.long (i1.toInt64)), .second, .val (.long (i2.toInt64)), .second, .val (.long (i3.toInt64)), .second, .val (.long cl), .second, .val (.ref b64), .val (.int (2 : Int32)), .val (.double (FP.dadd (FP.l2d (i1.toInt64)) m2)), .second] [(.int (2 : Int32)), (.int (2 : Int32))]))
    refine own_st (fun t k => XS.icmpNo X105.here hx rfl (hb hby at_132) rfl (teq (by decide : (2 : Int32) = (2 : Int32))).2 k) ?_
    show own_Run p e below s _ _ _ (T105.setTop (mkF m 135 #[.val (.int i0), .val (.int i1), .val (.int i2), .val (.int i3), .val (.long (i1.toInt64)), .second, .val (.long (i2.toInt64)), .second, .val (.long (i3.toInt64)), .second, .val (.long cl), .second, .val (.ref b64), .val (.int (2 : Int32)), .val (.double (FP.dadd (FP.l2d (i1.toInt64)) m2)), .second] []))
    refine own_st (fun t k => XS.dload X105.here hx rfl (hb hby at_135) rfl k) ?_
    show own_Run p e below s _ _ _ (T105.setTop (mkF m 137 #[.val (.int i0), .val (.int i1), .val (.int i2), .val (.int i3), .val (.long (i1.toInt64)), .second, .val (.long (i2.toInt64)), .second, .val (.long (i3.toInt64)), .second, .val (.long cl), .second, .val (.ref b64), .val (.int (2 : Int32)), .val (.double (FP.dadd (FP.l2d (i1.toInt64)) m2)), .second] [(.double (FP.dadd (FP.l2d (i1.toInt64)) m2))]))
    refine own_st (fun t k => XS.lload X105.here hx rfl (hb hby at_137) rfl k) ?_
    show own_Run p e below s _ _ _ (T105.setTop (mkF m 139 #[.val (.int i0), .val (.int i1), .val (.int i2), .val (.int i3), .val (.long (i1.toInt64)), .second, .val (.long (i2.toInt64)), .second, .val (.long (i3.toInt64)), .second, .val (.long cl), .second, .val (.ref b64), .val (.int (2 : Int32)), .val (.double (FP.dadd (FP.l2d (i1.toInt64)) m2)), .second] [(.long (i1.toInt64)), (.double (FP.dadd (FP.l2d (i1.toInt64)) m2))]))
    refine own_st (fun t k => XS.lload X105.here hx rfl (hb hby at_139) rfl k) ?_
    show own_Run p e below s _ _ _ (T105.setTop (mkF m 141 #[.val (.int i0), .val (.int i1), .val (.int i2), .val (.int i3), .val (.long (i1.toInt64)), .second, .val (.long (i2.toInt64)), .second, .val (.long (i3.toInt64)), .second, .val (.long cl), .second, .val (.ref b64), .val (.int (2 : Int32)), .val (.double (FP.dadd (FP.l2d (i1.toInt64)) m2)), .second] [(.long (i2.toInt64)), (.long (i1.toInt64)), (.double (FP.dadd (FP.l2d (i1.toInt64)) m2))]))
    refine own_st (fun t k => XS.ladd X105.here hx rfl (hb hby at_141) rfl k) ?_
    show own_Run p e below s _ _ _ (T105.setTop (mkF m 142 #[.val (.int i0), .val (.int i1), .val (.int i2), .val (.int i3), .val (.long (i1.toInt64)), .second, .val (.long (i2.toInt64)), .second, .val (.long (i3.toInt64)), .second, .val (.long cl), .second, .val (.ref b64), .val (.int (2 : Int32)), .val (.double (FP.dadd (FP.l2d (i1.toInt64)) m2)), .second] [(.long ((i1.toInt64) + (i2.toInt64))), (.double (FP.dadd (FP.l2d (i1.toInt64)) m2))]))
    refine own_st (fun t k => XS.l2dS X105.here hx rfl (hb hby at_142) rfl (v := (FP.l2d ((i1.toInt64) + (i2.toInt64)))) (rfl) k) ?_
    show own_Run p e below s _ _ _ (T105.setTop (mkF m 143 #[.val (.int i0), .val (.int i1), .val (.int i2), .val (.int i3), .val (.long (i1.toInt64)), .second, .val (.long (i2.toInt64)), .second, .val (.long (i3.toInt64)), .second, .val (.long cl), .second, .val (.ref b64), .val (.int (2 : Int32)), .val (.double (FP.dadd (FP.l2d (i1.toInt64)) m2)), .second] [(.double (FP.l2d ((i1.toInt64) + (i2.toInt64)))), (.double (FP.dadd (FP.l2d (i1.toInt64)) m2))]))
    refine own_st (X105.ldc2DoubleC hx hown (mvT hZ (hw _ (List.mem_of_getElem? (i := 38) rfl))) (g := (mkF m 143 #[.val (.int i0), .val (.int i1), .val (.int i2), .val (.int i3), .val (.long (i1.toInt64)), .second, .val (.long (i2.toInt64)), .second, .val (.long (i3.toInt64)), .second, .val (.long cl), .second, .val (.ref b64), .val (.int (2 : Int32)), .val (.double (FP.dadd (FP.l2d (i1.toInt64)) m2)), .second] [(.double (FP.l2d ((i1.toInt64) + (i2.toInt64)))), (.double (FP.dadd (FP.l2d (i1.toInt64)) m2))])) rfl (hb hby at_143)) ?_
    show own_Run p e below s _ _ _ (T105.setTop (mkF m 146 #[.val (.int i0), .val (.int i1), .val (.int i2), .val (.int i3), .val (.long (i1.toInt64)), .second, .val (.long (i2.toInt64)), .second, .val (.long (i3.toInt64)), .second, .val (.long cl), .second, .val (.ref b64), .val (.int (2 : Int32)), .val (.double (FP.dadd (FP.l2d (i1.toInt64)) m2)), .second] [(.double (4611686018427387904 : UInt64)), (.double (FP.l2d ((i1.toInt64) + (i2.toInt64)))), (.double (FP.dadd (FP.l2d (i1.toInt64)) m2))]))
    refine own_st (fun t k => XS.ddivS X105.here hx rfl (hb hby at_146) rfl ((own_h2 i1 i2).nn) (v := (FP.ddiv (FP.l2d ((i1.toInt64) + (i2.toInt64))) (4611686018427387904 : UInt64))) (rfl) k) ?_
    show own_Run p e below s _ _ _ (T105.setTop (mkF m 147 #[.val (.int i0), .val (.int i1), .val (.int i2), .val (.int i3), .val (.long (i1.toInt64)), .second, .val (.long (i2.toInt64)), .second, .val (.long (i3.toInt64)), .second, .val (.long cl), .second, .val (.ref b64), .val (.int (2 : Int32)), .val (.double (FP.dadd (FP.l2d (i1.toInt64)) m2)), .second] [(.double (FP.ddiv (FP.l2d ((i1.toInt64) + (i2.toInt64))) (4611686018427387904 : UInt64))), (.double (FP.dadd (FP.l2d (i1.toInt64)) m2))]))
    refine own_st (fun t k => XS.dcmpS X105.here hx rfl (hb hby at_147) rfl (v := (0 : Int32)) (zr.cmpE (own_h2 i1 i2) rfl _) k) ?_
    show own_Run p e below s _ _ _ (T105.setTop (mkF m 148 #[.val (.int i0), .val (.int i1), .val (.int i2), .val (.int i3), .val (.long (i1.toInt64)), .second, .val (.long (i2.toInt64)), .second, .val (.long (i3.toInt64)), .second, .val (.long cl), .second, .val (.ref b64), .val (.int (2 : Int32)), .val (.double (FP.dadd (FP.l2d (i1.toInt64)) m2)), .second] [(.int (0 : Int32))]))
    refine own_st (fun t k => XS.ifNo X105.here hx rfl (hb hby at_148) rfl ((if0 _ _).trans (teq (by decide : (0 : Int32) = (0 : Int32))).2) k) ?_
    show own_Run p e below s _ _ _ (T105.setTop (mkF m 151 #[.val (.int i0), .val (.int i1), .val (.int i2), .val (.int i3), .val (.long (i1.toInt64)), .second, .val (.long (i2.toInt64)), .second, .val (.long (i3.toInt64)), .second, .val (.long cl), .second, .val (.ref b64), .val (.int (2 : Int32)), .val (.double (FP.dadd (FP.l2d (i1.toInt64)) m2)), .second] []))
    refine own_st (fun t k => XS.iconst X105.here hx rfl (hb hby at_151) k) ?_
    show own_Run p e below s _ _ _ (T105.setTop (mkF m 152 #[.val (.int i0), .val (.int i1), .val (.int i2), .val (.int i3), .val (.long (i1.toInt64)), .second, .val (.long (i2.toInt64)), .second, .val (.long (i3.toInt64)), .second, .val (.long cl), .second, .val (.ref b64), .val (.int (2 : Int32)), .val (.double (FP.dadd (FP.l2d (i1.toInt64)) m2)), .second] [(.int (1 : Int32))]))
    refine own_st (fun t k => XS.goto X105.here hx rfl (pc0 := 152) (pc' := 156) rfl (hb hby at_152) (by decide) (by decide) k) ?_
    show own_Run p e below s _ _ _ (T105.setTop (mkF m 156 #[.val (.int i0), .val (.int i1), .val (.int i2), .val (.int i3), .val (.long (i1.toInt64)), .second, .val (.long (i2.toInt64)), .second, .val (.long (i3.toInt64)), .second, .val (.long cl), .second, .val (.ref b64), .val (.int (2 : Int32)), .val (.double (FP.dadd (FP.l2d (i1.toInt64)) m2)), .second] [(.int (1 : Int32))]))
    exact own_ret X105 hx hlk (t := .boolean) hret rfl (Or.inl ⟨rfl, by simp, _, rfl⟩) (hb hby at_156) (by decide) (by decide) ⟨rfl, N105⟩
  · refine own_topI hn ?_
    show own_Run p e below s _ _ _ (T69.setTop (mkF m 38 #[.val (.int i0), .val (.int i1), .val (.int i2), .val (.int i3), .val (.long (i1.toInt64)), .second, .val (.long (i2.toInt64)), .second, .val (.long (i3.toInt64)), .second, .val (.long cl), .second, .val (.ref b64), .unset, .unset, .unset] [(.int (3 : Int32))]))
    refine own_st (fun t k => XS.istore X69.here hx rfl (hb hby at_38) rfl (l' := #[.val (.int i0), .val (.int i1), .val (.int i2), .val (.int i3), .val (.long (i1.toInt64)), .second, .val (.long (i2.toInt64)), .second, .val (.long (i3.toInt64)), .second, .val (.long cl), .second, .val (.ref b64), .val (.int (3 : Int32)), .unset, .unset]) rfl k) ?_
    show own_Run p e below s _ _ _ (T69.setTop (mkF m 40 #[.val (.int i0), .val (.int i1), .val (.int i2), .val (.int i3), .val (.long (i1.toInt64)), .second, .val (.long (i2.toInt64)), .second, .val (.long (i3.toInt64)), .second, .val (.long cl), .second, .val (.ref b64), .val (.int (3 : Int32)), .unset, .unset] []))
    refine own_st (fun t k => XS.iload X69.here hx rfl (hb hby at_40) rfl k) ?_
    show own_Run p e below s _ _ _ (T69.setTop (mkF m 42 #[.val (.int i0), .val (.int i1), .val (.int i2), .val (.int i3), .val (.long (i1.toInt64)), .second, .val (.long (i2.toInt64)), .second, .val (.long (i3.toInt64)), .second, .val (.long cl), .second, .val (.ref b64), .val (.int (3 : Int32)), .unset, .unset] [(.int (3 : Int32))]))
    refine own_st (fun t k => XS.iconst X69.here hx rfl (hb hby at_42) k) ?_
    show own_Run p e below s _ _ _ (T69.setTop (mkF m 43 #[.val (.int i0), .val (.int i1), .val (.int i2), .val (.int i3), .val (.long (i1.toInt64)), .second, .val (.long (i2.toInt64)), .second, .val (.long (i3.toInt64)), .second, .val (.long cl), .second, .val (.ref b64), .val (.int (3 : Int32)), .unset, .unset] [(.int (1 : Int32)), (.int (3 : Int32))]))
    refine own_st (fun t k => XS.icmpNo X69.here hx rfl (hb hby at_43) rfl (flt (by decide : ¬ ((3 : Int32) < (1 : Int32)))).1 k) ?_
    show own_Run p e below s _ _ _ (T69.setTop (mkF m 46 #[.val (.int i0), .val (.int i1), .val (.int i2), .val (.int i3), .val (.long (i1.toInt64)), .second, .val (.long (i2.toInt64)), .second, .val (.long (i3.toInt64)), .second, .val (.long cl), .second, .val (.ref b64), .val (.int (3 : Int32)), .unset, .unset] []))
    refine own_st (fun t k => XS.aload X69.here hx rfl (hb hby at_46) rfl rfl k) ?_
    show own_Run p e below s _ _ _ (T69.setTop (mkF m 48 #[.val (.int i0), .val (.int i1), .val (.int i2), .val (.int i3), .val (.long (i1.toInt64)), .second, .val (.long (i2.toInt64)), .second, .val (.long (i3.toInt64)), .second, .val (.long cl), .second, .val (.ref b64), .val (.int (3 : Int32)), .unset, .unset] [(.ref b64)]))
    refine own_st (fun t k => XS.lload X69.here hx rfl (hb hby at_48) rfl k) ?_
    show own_Run p e below s _ _ _ (T69.setTop (mkF m 50 #[.val (.int i0), .val (.int i1), .val (.int i2), .val (.int i3), .val (.long (i1.toInt64)), .second, .val (.long (i2.toInt64)), .second, .val (.long (i3.toInt64)), .second, .val (.long cl), .second, .val (.ref b64), .val (.int (3 : Int32)), .unset, .unset] [(.long (i1.toInt64)), (.ref b64)]))
    refine own_st (fun t k => XS.l2dS X69.here hx rfl (hb hby at_50) rfl (v := (FP.l2d (i1.toInt64))) (rfl) k) ?_
    show own_Run p e below s _ _ _ (T69.setTop (mkF m 51 #[.val (.int i0), .val (.int i1), .val (.int i2), .val (.int i3), .val (.long (i1.toInt64)), .second, .val (.long (i2.toInt64)), .second, .val (.long (i3.toInt64)), .second, .val (.long cl), .second, .val (.ref b64), .val (.int (3 : Int32)), .unset, .unset] [(.double (FP.l2d (i1.toInt64))), (.ref b64)]))
    obtain ⟨m1, q1, g1, zm1, zq1⟩ := own_add1 i1
    have F106 : Fld Z _ b64 "com/example/triflux/triflux/eval/Summary" "count" "J" (.long (0 : Int64)) := D64 (Or.inl (hw _ (List.mem_of_getElem? (i := 16) rfl))) (ty := .long) (by decide)
    have F107 : Fld Z _ b64 "com/example/triflux/triflux/eval/Summary" "first" "D" (.double (0 : UInt64)) := D64 (Or.inl (hw _ (List.mem_of_getElem? (i := 33) rfl))) (ty := .double) (by decide)
    have F108 : Fld Z _ b64 "com/example/triflux/triflux/eval/Summary" "shiftedMean" "D" (.double (0 : UInt64)) := D64 (Or.inl (hw _ (List.mem_of_getElem? (i := 35) rfl))) (ty := .double) (by decide)
    have F109 : Fld Z _ b64 "com/example/triflux/triflux/eval/Summary" "squaredDeviations" "D" (.double (0 : UInt64)) := D64 (Or.inl (hw _ (List.mem_of_getElem? (i := 37) rfl))) (ty := .double) (by decide)
    refine own_callV X69 hx hZ (y := (⟨"com/example/triflux/triflux/eval/Summary", "add", "(D)V"⟩ : MethodName)) (C := "com/example/triflux/triflux/eval/Summary") hown (hw _ (List.mem_of_getElem? (i := 18) rfl)) (hw _ (List.mem_of_getElem? (i := 19) rfl)) (hw _ (List.mem_of_getElem? (i := 21) rfl)) (hw _ (List.mem_of_getElem? (i := 20) rfl)) (hw _ (List.mem_of_getElem? (i := 22) rfl)) (hw _ (List.mem_of_getElem? (i := 3) rfl)) (by decide) hh69 (a := b64) A64 (argsL := [(.double (FP.l2d (i1.toInt64)))]) (rest := []) (W := 0) (own_rm4A l Z a0 hw [] b64 (FP.l2d (i1.toInt64)) (0 : UInt64) (0 : UInt64) (0 : UInt64) m1 q1 h64 n0 (Nat.le_trans Z0 K67.1) A64 ge66 F106 F107 F108 F109 (g1.1) (g1.2.1) (g1.2.2.1) (g1.2.2.2.1) (g1.2.2.2.2.1) (g1.2.2.2.2.2.1) (g1.2.2.2.2.2.2.1) (g1.2.2.2.2.2.2.2.1) (g1.2.2.2.2.2.2.2.2.1) (g1.2.2.2.2.2.2.2.2.2.1) (g1.2.2.2.2.2.2.2.2.2.2)) (by decide) (by decide) (by rw [hml]; rfl) (lenOf own_pd6 rfl) rfl (by exact Nat.le_of_eq rfl) (hb hby at_51) (by decide) (by decide) ?_
    intro T110 v110 L110 X110 hq110
    obtain ⟨rfl, N110q, K110q, Q111, Q112, Q113, Q114, Q115⟩ := hq110
    have K116 : Keep h0 T110.heap [] := K67.trans K110q (allS (Or.inr sz65) all0)
    have O117 := O68.keep K110q (allS ge66 all0)
    have N110 := Fr.app N69 N110q
    show own_Run p e below s _ _ _ (T110.setTop (mkF m 54 #[.val (.int i0), .val (.int i1), .val (.int i2), .val (.int i3), .val (.long (i1.toInt64)), .second, .val (.long (i2.toInt64)), .second, .val (.long (i3.toInt64)), .second, .val (.long cl), .second, .val (.ref b64), .val (.int (3 : Int32)), .unset, .unset] []))
    refine own_st (fun t k => XS.iload X110.here hx rfl (hb hby at_54) rfl k) ?_
    show own_Run p e below s _ _ _ (T110.setTop (mkF m 56 #[.val (.int i0), .val (.int i1), .val (.int i2), .val (.int i3), .val (.long (i1.toInt64)), .second, .val (.long (i2.toInt64)), .second, .val (.long (i3.toInt64)), .second, .val (.long cl), .second, .val (.ref b64), .val (.int (3 : Int32)), .unset, .unset] [(.int (3 : Int32))]))
    refine own_st (fun t k => XS.iconst X110.here hx rfl (hb hby at_56) k) ?_
    show own_Run p e below s _ _ _ (T110.setTop (mkF m 57 #[.val (.int i0), .val (.int i1), .val (.int i2), .val (.int i3), .val (.long (i1.toInt64)), .second, .val (.long (i2.toInt64)), .second, .val (.long (i3.toInt64)), .second, .val (.long cl), .second, .val (.ref b64), .val (.int (3 : Int32)), .unset, .unset] [(.int (2 : Int32)), (.int (3 : Int32))]))
    refine own_st (fun t k => XS.icmpNo X110.here hx rfl (hb hby at_57) rfl (flt (by decide : ¬ ((3 : Int32) < (2 : Int32)))).1 k) ?_
    show own_Run p e below s _ _ _ (T110.setTop (mkF m 60 #[.val (.int i0), .val (.int i1), .val (.int i2), .val (.int i3), .val (.long (i1.toInt64)), .second, .val (.long (i2.toInt64)), .second, .val (.long (i3.toInt64)), .second, .val (.long cl), .second, .val (.ref b64), .val (.int (3 : Int32)), .unset, .unset] []))
    refine own_st (fun t k => XS.aload X110.here hx rfl (hb hby at_60) rfl rfl k) ?_
    show own_Run p e below s _ _ _ (T110.setTop (mkF m 62 #[.val (.int i0), .val (.int i1), .val (.int i2), .val (.int i3), .val (.long (i1.toInt64)), .second, .val (.long (i2.toInt64)), .second, .val (.long (i3.toInt64)), .second, .val (.long cl), .second, .val (.ref b64), .val (.int (3 : Int32)), .unset, .unset] [(.ref b64)]))
    refine own_st (fun t k => XS.lload X110.here hx rfl (hb hby at_62) rfl k) ?_
    show own_Run p e below s _ _ _ (T110.setTop (mkF m 64 #[.val (.int i0), .val (.int i1), .val (.int i2), .val (.int i3), .val (.long (i1.toInt64)), .second, .val (.long (i2.toInt64)), .second, .val (.long (i3.toInt64)), .second, .val (.long cl), .second, .val (.ref b64), .val (.int (3 : Int32)), .unset, .unset] [(.long (i2.toInt64)), (.ref b64)]))
    refine own_st (fun t k => XS.l2dS X110.here hx rfl (hb hby at_64) rfl (v := (FP.l2d (i2.toInt64))) (rfl) k) ?_
    show own_Run p e below s _ _ _ (T110.setTop (mkF m 65 #[.val (.int i0), .val (.int i1), .val (.int i2), .val (.int i3), .val (.long (i1.toInt64)), .second, .val (.long (i2.toInt64)), .second, .val (.long (i3.toInt64)), .second, .val (.long cl), .second, .val (.ref b64), .val (.int (3 : Int32)), .unset, .unset] [(.double (FP.l2d (i2.toInt64))), (.ref b64)]))
    obtain ⟨m2, q2, g2, zm2, fq2⟩ := own_add2 i1 i2 zm1 zq1
    refine own_callV X110 hx hZ (y := (⟨"com/example/triflux/triflux/eval/Summary", "add", "(D)V"⟩ : MethodName)) (C := "com/example/triflux/triflux/eval/Summary") hown (hw _ (List.mem_of_getElem? (i := 18) rfl)) (hw _ (List.mem_of_getElem? (i := 19) rfl)) (hw _ (List.mem_of_getElem? (i := 21) rfl)) (hw _ (List.mem_of_getElem? (i := 20) rfl)) (hw _ (List.mem_of_getElem? (i := 22) rfl)) (hw _ (List.mem_of_getElem? (i := 3) rfl)) (by decide) rfl (a := b64) Q111 (argsL := [(.double (FP.l2d (i2.toInt64)))]) (rest := []) (W := 0) (own_rm4B l Z a0 hw [] b64 (FP.l2d (i2.toInt64)) ((0 : Int64) + (1 : Int64)) (FP.l2d (i1.toInt64)) m1 q1 m2 q2 T110.heap n0 (Nat.le_trans Z0 K116.1) Q111 ge66 Q112 Q113 Q114 Q115 (by decide) (g2.1) (g2.2.1) (g2.2.2.1) (g2.2.2.2.1) (g2.2.2.2.2.1) (g2.2.2.2.2.2.1) (g2.2.2.2.2.2.2.1) (g2.2.2.2.2.2.2.2.1) (g2.2.2.2.2.2.2.2.2.1) (g2.2.2.2.2.2.2.2.2.2.1) (g2.2.2.2.2.2.2.2.2.2.2)) (by decide) (by decide) (by rw [hml]; rfl) (lenOf own_pd6 rfl) rfl (by exact Nat.le_of_eq rfl) (hb hby at_65) (by decide) (by decide) ?_
    intro T118 v118 L118 X118 hq118
    obtain ⟨rfl, N118q, K118q, Q119, Q120, Q121, Q122, Q123⟩ := hq118
    have K124 : Keep h0 T118.heap [] := K116.trans K118q (allS (Or.inr sz65) all0)
    have O125 := O117.keep K118q (allS ge66 all0)
    have N118 := Fr.app N110 N118q
    show own_Run p e below s _ _ _ (T118.setTop (mkF m 68 #[.val (.int i0), .val (.int i1), .val (.int i2), .val (.int i3), .val (.long (i1.toInt64)), .second, .val (.long (i2.toInt64)), .second, .val (.long (i3.toInt64)), .second, .val (.long cl), .second, .val (.ref b64), .val (.int (3 : Int32)), .unset, .unset] []))
    refine own_st (fun t k => XS.iload X118.here hx rfl (hb hby at_68) rfl k) ?_
    show own_Run p e below s _ _ _ (T118.setTop (mkF m 70 #[.val (.int i0), .val (.int i1), .val (.int i2), .val (.int i3), .val (.long (i1.toInt64)), .second, .val (.long (i2.toInt64)), .second, .val (.long (i3.toInt64)), .second, .val (.long cl), .second, .val (.ref b64), .val (.int (3 : Int32)), .unset, .unset] [(.int (3 : Int32))]))
    refine own_st (fun t k => XS.iconst X118.here hx rfl (hb hby at_70) k) ?_
    show own_Run p e below s _ _ _ (T118.setTop (mkF m 71 #[.val (.int i0), .val (.int i1), .val (.int i2), .val (.int i3), .val (.long (i1.toInt64)), .second, .val (.long (i2.toInt64)), .second, .val (.long (i3.toInt64)), .second, .val (.long cl), .second, .val (.ref b64), .val (.int (3 : Int32)), .unset, .unset] [(.int (3 : Int32)), (.int (3 : Int32))]))
    refine own_st (fun t k => XS.icmpNo X118.here hx rfl (hb hby at_71) rfl (teq (by decide : (3 : Int32) = (3 : Int32))).2 k) ?_
    show own_Run p e below s _ _ _ (T118.setTop (mkF m 74 #[.val (.int i0), .val (.int i1), .val (.int i2), .val (.int i3), .val (.long (i1.toInt64)), .second, .val (.long (i2.toInt64)), .second, .val (.long (i3.toInt64)), .second, .val (.long cl), .second, .val (.ref b64), .val (.int (3 : Int32)), .unset, .unset] []))
    refine own_st (fun t k => XS.aload X118.here hx rfl (hb hby at_74) rfl rfl k) ?_
    show own_Run p e below s _ _ _ (T118.setTop (mkF m 76 #[.val (.int i0), .val (.int i1), .val (.int i2), .val (.int i3), .val (.long (i1.toInt64)), .second, .val (.long (i2.toInt64)), .second, .val (.long (i3.toInt64)), .second, .val (.long cl), .second, .val (.ref b64), .val (.int (3 : Int32)), .unset, .unset] [(.ref b64)]))
    refine own_st (fun t k => XS.lload X118.here hx rfl (hb hby at_76) rfl k) ?_
    show own_Run p e below s _ _ _ (T118.setTop (mkF m 78 #[.val (.int i0), .val (.int i1), .val (.int i2), .val (.int i3), .val (.long (i1.toInt64)), .second, .val (.long (i2.toInt64)), .second, .val (.long (i3.toInt64)), .second, .val (.long cl), .second, .val (.ref b64), .val (.int (3 : Int32)), .unset, .unset] [(.long cl), (.ref b64)]))
    refine own_st (fun t k => XS.l2dS X118.here hx rfl (hb hby at_78) rfl (v := (FP.l2d cl)) (rfl) k) ?_
    show own_Run p e below s _ _ _ (T118.setTop (mkF m 79 #[.val (.int i0), .val (.int i1), .val (.int i2), .val (.int i3), .val (.long (i1.toInt64)), .second, .val (.long (i2.toInt64)), .second, .val (.long (i3.toInt64)), .second, .val (.long cl), .second, .val (.ref b64), .val (.int (3 : Int32)), .unset, .unset] [(.double (FP.l2d cl)), (.ref b64)]))
    obtain ⟨m3, q3, g3, zm3⟩ := own_add3 r_cl zm2 fq2
    refine own_callV X118 hx hZ (y := (⟨"com/example/triflux/triflux/eval/Summary", "add", "(D)V"⟩ : MethodName)) (C := "com/example/triflux/triflux/eval/Summary") hown (hw _ (List.mem_of_getElem? (i := 18) rfl)) (hw _ (List.mem_of_getElem? (i := 19) rfl)) (hw _ (List.mem_of_getElem? (i := 21) rfl)) (hw _ (List.mem_of_getElem? (i := 20) rfl)) (hw _ (List.mem_of_getElem? (i := 22) rfl)) (hw _ (List.mem_of_getElem? (i := 3) rfl)) (by decide) rfl (a := b64) Q119 (argsL := [(.double (FP.l2d cl))]) (rest := []) (W := 0) (own_rm4B l Z a0 hw [] b64 (FP.l2d cl) (((0 : Int64) + (1 : Int64)) + (1 : Int64)) (FP.l2d (i1.toInt64)) m2 q2 m3 q3 T118.heap n0 (Nat.le_trans Z0 K124.1) Q119 ge66 Q120 Q121 Q122 Q123 (by decide) (g3.1) (g3.2.1) (g3.2.2.1) (g3.2.2.2.1) (g3.2.2.2.2.1) (g3.2.2.2.2.2.1) (g3.2.2.2.2.2.2.1) (g3.2.2.2.2.2.2.2.1) (g3.2.2.2.2.2.2.2.2.1) (g3.2.2.2.2.2.2.2.2.2.1) (g3.2.2.2.2.2.2.2.2.2.2)) (by decide) (by decide) (by rw [hml]; rfl) (lenOf own_pd6 rfl) rfl (by exact Nat.le_of_eq rfl) (hb hby at_79) (by decide) (by decide) ?_
    intro T126 v126 L126 X126 hq126
    obtain ⟨rfl, N126q, K126q, Q127, Q128, Q129, Q130, Q131⟩ := hq126
    have K132 : Keep h0 T126.heap [] := K124.trans K126q (allS (Or.inr sz65) all0)
    have O133 := O125.keep K126q (allS ge66 all0)
    have N126 := Fr.app N118 N126q
    show own_Run p e below s _ _ _ (T126.setTop (mkF m 82 #[.val (.int i0), .val (.int i1), .val (.int i2), .val (.int i3), .val (.long (i1.toInt64)), .second, .val (.long (i2.toInt64)), .second, .val (.long (i3.toInt64)), .second, .val (.long cl), .second, .val (.ref b64), .val (.int (3 : Int32)), .unset, .unset] []))
    refine own_st (fun t k => XS.aload X126.here hx rfl (hb hby at_82) rfl rfl k) ?_
    show own_Run p e below s _ _ _ (T126.setTop (mkF m 84 #[.val (.int i0), .val (.int i1), .val (.int i2), .val (.int i3), .val (.long (i1.toInt64)), .second, .val (.long (i2.toInt64)), .second, .val (.long (i3.toInt64)), .second, .val (.long cl), .second, .val (.ref b64), .val (.int (3 : Int32)), .unset, .unset] [(.ref b64)]))
    have zr := own_mn3 (a := i1) zm3
    refine own_callV X126 hx hZ (y := (⟨"com/example/triflux/triflux/eval/Summary", "mean", "()D"⟩ : MethodName)) (C := "com/example/triflux/triflux/eval/Summary") hown (hw _ (List.mem_of_getElem? (i := 10) rfl)) (hw _ (List.mem_of_getElem? (i := 11) rfl)) (hw _ (List.mem_of_getElem? (i := 13) rfl)) (hw _ (List.mem_of_getElem? (i := 12) rfl)) (hw _ (List.mem_of_getElem? (i := 14) rfl)) (hw _ (List.mem_of_getElem? (i := 3) rfl)) (by decide) rfl (a := b64) Q127 (argsL := []) (rest := []) (W := 0) (own_rm3V l Z a0 hw [] b64 ((((0 : Int64) + (1 : Int64)) + (1 : Int64)) + (1 : Int64)) (FP.l2d (i1.toInt64)) m3 T126.heap n0 (Nat.le_trans Z0 K132.1) Q128 Q129 Q130 (by decide) (zr.nn)) (by decide) (by decide) (by rw [hml]; rfl) (lenOf own_pd5 rfl) rfl (by exact Nat.le_of_eq rfl) (hb hby at_84) (by decide) (by decide) ?_
    intro T134 v134 L134 X134 hq134
    obtain ⟨rfl, N134q, hh134⟩ := hq134
    have N134 := Fr.app N126 N134q
    show own_Run p e below s _ _ _ (T134.setTop (mkF m 87 #[.val (.int i0), .val (.int i1), .val (.int i2), .val (.int i3), .val (.long (i1.toInt64)), .second, .val (.long (i2.toInt64)), .second, .val (.long (i3.toInt64)), .second, .val (.long cl), .second, .val (.ref b64), .val (.int (3 : Int32)), .unset, .unset] [(.double (FP.dadd (FP.l2d (i1.toInt64)) m3))]))
    refine own_st (fun t k => XS.dstore X134.here hx rfl (hb hby at_87) rfl (l' := #[.val (.int i0), .val (.int i1), .val (.int i2), .val (.int i3), .val (.long (i1.toInt64)), .second, .val (.long (i2.toInt64)), .second, .val (.long (i3.toInt64)), .second, .val (.long cl), .second, .val (.ref b64), .val (.int (3 : Int32)), .val (.double (FP.dadd (FP.l2d (i1.toInt64)) m3)), .second]) rfl k) ?_
    show own_Run p e below s _ _ _ (T134.setTop (mkF m 89 #[.val (.int i0), .val (.int i1), .val (.int i2), .val (.int i3), .val (.long (i1.toInt64)), .second, .val (.long (i2.toInt64)), .second, .val (.long (i3.toInt64)), .second, .val (.long cl), .second, .val (.ref b64), .val (.int (3 : Int32)), .val (.double (FP.dadd (FP.l2d (i1.toInt64)) m3)), .second] []))
    refine own_st (fun t k => XS.iload X134.here hx rfl (hb hby at_89) rfl k) ?_
    show own_Run p e below s _ _ _ (T134.setTop (mkF m 91 #[.val (.int i0), .val (.int i1), .val (.int i2), .val (.int i3), .val (.long (i1.toInt64)), .second, .val (.long (i2.toInt64)), .second, .val (.long (i3.toInt64)), .second, .val (.long cl), .second, .val (.ref b64), .val (.int (3 : Int32)), .val (.double (FP.dadd (FP.l2d (i1.toInt64)) m3)), .second] [(.int (3 : Int32))]))
    refine own_st (fun t k => XS.ifYes X134.here hx rfl (pc0 := 91) (pc' := 108) rfl (hb hby at_91) rfl ((if0 _ _).trans (feq (by decide : ¬ ((3 : Int32) = (0 : Int32)))).2) (by decide) (by decide) k) ?_
    show own_Run p e below s _ _ _ (T134.setTop (mkF m 108 #[.val (.int i0), .val (.int i1), .val (.int i2), .val (.int i3), .val (.long (i1.toInt64)), .second, .val (.long (i2.toInt64)), .second, .val (.long (i3.toInt64)), .second, .val (.long cl), .second, .val (.ref b64), .val (.int (3 : Int32)), .val (.double (FP.dadd (FP.l2d (i1.toInt64)) m3)), .second] []))
    refine own_st (fun t k => XS.iload X134.here hx rfl (hb hby at_108) rfl k) ?_
    show own_Run p e below s _ _ _ (T134.setTop (mkF m 110 #[.val (.int i0), .val (.int i1), .val (.int i2), .val (.int i3), .val (.long (i1.toInt64)), .second, .val (.long (i2.toInt64)), .second, .val (.long (i3.toInt64)), .second, .val (.long cl), .second, .val (.ref b64), .val (.int (3 : Int32)), .val (.double (FP.dadd (FP.l2d (i1.toInt64)) m3)), .second] [(.int (3 : Int32))]))
    refine own_st (fun t k => XS.iconst X134.here hx rfl (hb hby at_110) k) ?_
    show own_Run p e below s _ _ _ (T134.setTop (mkF m 111 #[.val (.int i0), .val (.int i1), .val (.int i2), .val (.int i3), .val (.long (i1.toInt64)), .second, .val (.long (i2.toInt64)), .second, .val (.long (i3.toInt64)), .second, .val (.long cl), .second, .val (.ref b64), .val (.int (3 : Int32)), .val (.double (FP.dadd (FP.l2d (i1.toInt64)) m3)), .second] [(.int (1 : Int32)), (.int (3 : Int32))]))
    refine own_st (fun t k => XS.icmpYes X134.here hx rfl (pc0 := 111) (pc' := 129) rfl (hb hby at_111) rfl (feq (by decide : ¬ ((3 : Int32) = (1 : Int32)))).2 (by decide) (by decide) k) ?_
    show own_Run p e below s _ _ _ (T134.setTop (mkF m 129 #[.val (.int i0), .val (.int i1), .val (.int i2), .val (.int i3), .val (.long (i1.toInt64)), .second, .val (.long (i2.toInt64)), .second, .val (.long (i3.toInt64)), .second, .val (.long cl), .second, .val (.ref b64), .val (.int (3 : Int32)), .val (.double (FP.dadd (FP.l2d (i1.toInt64)) m3)), .second] []))
    refine own_st (fun t k => XS.iload X134.here hx rfl (hb hby at_129) rfl k) ?_
    show own_Run p e below s _ _ _ (T134.setTop (mkF m 131 #[.val (.int i0), .val (.int i1), .val (.int i2), .val (.int i3), .val (.long (i1.toInt64)), .second, .val (.long (i2.toInt64)), .second, .val (.long (i3.toInt64)), .second, .val (.long cl), .second, .val (.ref b64), .val (.int (3 : Int32)), .val (.double (FP.dadd (FP.l2d (i1.toInt64)) m3)), .second] [(.int (3 : Int32))]))
    refine own_st (fun t k => XS.iconst X134.here hx rfl (hb hby at_131) k) ?_
    show own_Run p e below s _ _ _ (T134.setTop (mkF m 132 #[.val (.int i0), .val (.int i1), .val (.int i2), .val (.int i3), .val (.long (i1.toInt64)), .second, .val (.long (i2.toInt64)), .second, .val (.long (i3.toInt64)), .second, .val (.long cl), .second, .val (.ref b64), .val (.int (3 : Int32)), .val (.double (FP.dadd (FP.l2d (i1.toInt64)) m3)), .second] [(.int (2 : Int32)), (.int (3 : Int32))]))
    refine own_st (fun t k => XS.icmpYes X134.here hx rfl (pc0 := 132) (pc' := 157) rfl (hb hby at_132) rfl (feq (by decide : ¬ ((3 : Int32) = (2 : Int32)))).2 (by decide) (by decide) k) ?_
    show own_Run p e below s _ _ _ (T134.setTop (mkF m 157 #[.val (.int i0), .val (.int i1), .val (.int i2), .val (.int i3), .val (.long (i1.toInt64)), .second, .val (.long (i2.toInt64)), .second, .val (.long (i3.toInt64)), .second, .val (.long cl), .second, .val (.ref b64), .val (.int (3 : Int32)), .val (.double (FP.dadd (FP.l2d (i1.toInt64)) m3)), .second] []))
    refine own_st (fun t k => XS.dload X134.here hx rfl (hb hby at_157) rfl k) ?_
    show own_Run p e below s _ _ _ (T134.setTop (mkF m 159 #[.val (.int i0), .val (.int i1), .val (.int i2), .val (.int i3), .val (.long (i1.toInt64)), .second, .val (.long (i2.toInt64)), .second, .val (.long (i3.toInt64)), .second, .val (.long cl), .second, .val (.ref b64), .val (.int (3 : Int32)), .val (.double (FP.dadd (FP.l2d (i1.toInt64)) m3)), .second] [(.double (FP.dadd (FP.l2d (i1.toInt64)) m3))]))
    refine own_st (fun t k => XS.lload X134.here hx rfl (hb hby at_159) rfl k) ?_
    show own_Run p e below s _ _ _ (T134.setTop (mkF m 161 #[.val (.int i0), .val (.int i1), .val (.int i2), .val (.int i3), .val (.long (i1.toInt64)), .second, .val (.long (i2.toInt64)), .second, .val (.long (i3.toInt64)), .second, .val (.long cl), .second, .val (.ref b64), .val (.int (3 : Int32)), .val (.double (FP.dadd (FP.l2d (i1.toInt64)) m3)), .second] [(.long (i3.toInt64)), (.double (FP.dadd (FP.l2d (i1.toInt64)) m3))]))
    refine own_st (fun t k => XS.l2dS X134.here hx rfl (hb hby at_161) rfl (v := (FP.l2d (i3.toInt64))) (rfl) k) ?_
    show own_Run p e below s _ _ _ (T134.setTop (mkF m 162 #[.val (.int i0), .val (.int i1), .val (.int i2), .val (.int i3), .val (.long (i1.toInt64)), .second, .val (.long (i2.toInt64)), .second, .val (.long (i3.toInt64)), .second, .val (.long cl), .second, .val (.ref b64), .val (.int (3 : Int32)), .val (.double (FP.dadd (FP.l2d (i1.toInt64)) m3)), .second] [(.double (FP.l2d (i3.toInt64))), (.double (FP.dadd (FP.l2d (i1.toInt64)) m3))]))
    refine own_st (fun t k => XS.dcmpS X134.here hx rfl (hb hby at_162) rfl (v := (0 : Int32)) (zr.cmpE (own_zl i3) rfl _) k) ?_
    show own_Run p e below s _ _ _ (T134.setTop (mkF m 163 #[.val (.int i0), .val (.int i1), .val (.int i2), .val (.int i3), .val (.long (i1.toInt64)), .second, .val (.long (i2.toInt64)), .second, .val (.long (i3.toInt64)), .second, .val (.long cl), .second, .val (.ref b64), .val (.int (3 : Int32)), .val (.double (FP.dadd (FP.l2d (i1.toInt64)) m3)), .second] [(.int (0 : Int32))]))
    refine own_st (fun t k => XS.ifNo X134.here hx rfl (hb hby at_163) rfl ((if0 _ _).trans (teq (by decide : (0 : Int32) = (0 : Int32))).2) k) ?_
    show own_Run p e below s _ _ _ (T134.setTop (mkF m 166 #[.val (.int i0), .val (.int i1), .val (.int i2), .val (.int i3), .val (.long (i1.toInt64)), .second, .val (.long (i2.toInt64)), .second, .val (.long (i3.toInt64)), .second, .val (.long cl), .second, .val (.ref b64), .val (.int (3 : Int32)), .val (.double (FP.dadd (FP.l2d (i1.toInt64)) m3)), .second] []))
    refine own_st (fun t k => XS.iconst X134.here hx rfl (hb hby at_166) k) ?_
    show own_Run p e below s _ _ _ (T134.setTop (mkF m 167 #[.val (.int i0), .val (.int i1), .val (.int i2), .val (.int i3), .val (.long (i1.toInt64)), .second, .val (.long (i2.toInt64)), .second, .val (.long (i3.toInt64)), .second, .val (.long cl), .second, .val (.ref b64), .val (.int (3 : Int32)), .val (.double (FP.dadd (FP.l2d (i1.toInt64)) m3)), .second] [(.int (1 : Int32))]))
    refine own_st (fun t k => XS.goto X134.here hx rfl (pc0 := 167) (pc' := 171) rfl (hb hby at_167) (by decide) (by decide) k) ?_
    show own_Run p e below s _ _ _ (T134.setTop (mkF m 171 #[.val (.int i0), .val (.int i1), .val (.int i2), .val (.int i3), .val (.long (i1.toInt64)), .second, .val (.long (i2.toInt64)), .second, .val (.long (i3.toInt64)), .second, .val (.long cl), .second, .val (.ref b64), .val (.int (3 : Int32)), .val (.double (FP.dadd (FP.l2d (i1.toInt64)) m3)), .second] [(.int (1 : Int32))]))
    exact own_ret X134 hx hlk (t := .boolean) hret rfl (Or.inl ⟨rfl, by simp, _, rfl⟩) (hb hby at_171) (by decide) (by decide) ⟨rfl, N134⟩
set_option maxRecDepth 65536 in
set_option maxHeartbeats 40000000 in
theorem own_comes_1 {Post : Tables → Env → Array Value → State → Outcome → State → Prop} (hpost : ∀ tb e args s v u, (limb_1_1.after args s (.returned v) u = true ∧ limb_1_2.after args s (.returned v) u = true ∧ True) → FrameEnd s (.returned v) u (Jvm.fieldLocs frame_1_writes args s ++ Jvm.arrayLocs frame_1_arrays args s ++ Jvm.staticLocs frame_1_statics s) 16 128 → Post tb e args s (.returned v) u) :
    ArmFor flags0 classFile x code maxLocals ret World_1 tables_1 room_1 Calls_1 rest_1 Pre_1 Post := by
  intro l hfl _ _ p e ha hc hk s m args below hf hA hF happ hP
  obtain ⟨hcalls, hrest, hpre⟩ := hP
  obtain ⟨-, -, -, hnamed, -, -, -, hat⟩ := (Spec.applies_iff hf).mp happ
  obtain ⟨hg, hn⟩ := and_e (Cond.before_iff.mp (show (Jvm.Cond.and given_1 narrow_1).before args s = true from hpre))
  obtain ⟨gv1, gv2⟩ := and_e hg
  obtain ⟨gv3, gv4⟩ := and_e gv2
  obtain ⟨gv5, gv6⟩ := and_e gv4
  obtain ⟨gv7, gv8⟩ := and_e gv6
  obtain ⟨w0, w1, w2, w3, rfl⟩ : ∃ w0 w1 w2 w3 : Value, args = #[w0, w1, w2, w3] := by
    have hs : args.size = 4 := by simpa [Cond.value, given_1] using gv1
    obtain ⟨L⟩ := args
    match L, hs with
    | [w0, w1, w2, w3], _ => exact ⟨w0, w1, w2, w3, rfl⟩
  have hw := fun d (hd : d ∈ tables_1) => atoms_spec (ws := Jvm.Cond.code x code maxLocals ret :: tables_1) hat d (List.mem_cons_of_mem _ hd)
  have hfit : Fit s := fun {y c} hc i hi => by
    obtain ⟨ha, rfl⟩ := Array.getElem?_eq_some_iff.mp hc
    have q := List.all_eq_true.mp ((Array.all_eq_true_iff_forall_mem.mp hF) _ (Array.getElem_mem ha)) i (List.mem_range.mpr hi)
    simpa [Array.getElem?_eq_getElem hi] using q
  obtain ⟨i0, ei0⟩ := is_v gv3
  obtain rfl : w0 = (.int i0) := Option.some.inj ei0
  obtain ⟨i1, ei1⟩ := is_v gv5
  obtain rfl : w1 = (.int i1) := Option.some.inj ei1
  obtain ⟨i2, ei2⟩ := is_v gv7
  obtain rfl : w2 = (.int i2) := Option.some.inj ei2
  obtain ⟨i3, ei3⟩ := is_v gv8
  obtain rfl : w3 = (.int i3) := Option.some.inj ei3
  obtain ⟨n, o, h1, h2, h3, _, L, rfl, ⟨rfl, N⟩, hq⟩ := own_rm0 l s _ hw tables_1 i0 i1 i2 i3 s.heap s.heap.size (Nat.le_refl _) (Old.start s)  p e ha hc hk s m _ below hf ((Spec.applies_iff_loose hf).mp happ).1 ⟨rfl, State.Warmed39.refl s, rfl⟩ trivial
  refine ⟨n, _, h1, h2, h3, hpost _ _ _ _ _ _ ⟨Cond.after_iff.mpr rfl, Cond.after_iff.mpr (eq_i res_at (Term.int_eval (1)) rfl), trivial⟩ ⟨hq.1, hq.2.1, (hq.2.2.sift fun y hy => Or.inr (N y hy)).mono (by decide) (by decide)⟩⟩
theorem main_1_1 : Claimed_1_1 := own_comes_1 fun _ _ _ _ _ _ h hF => ⟨h.1, hF⟩
theorem main_1_2 : Claimed_1_2 := own_comes_1 fun _ _ _ _ _ _ h hF => ⟨h.2.1, hF⟩
end Jvm.Pilot.@@N@@
namespace Jvm.Pilot.@@N@@
open Jvm Jvm.ClassFile Sem Op Lib Jvm.Free Jvm.Stand Jvm.Pilot.@@N@@.Jvm.D
/-! MADE BY PROGRAM (witnessworld.py) out of the Statement's table words and the real class files: 15 classes; the members and pool entries that the words name. The judged class is class 1, her method 1. -/
namespace start1
open Jvm.ClassFile
def u (s : String) : CpInfo := .utf8 (stringToUtf16 s)
/-- a pool by its gaps: so many unusable entries, then the entry; so many at the end -/
def gap : Nat → List CpInfo → List CpInfo
  | 0, r => r
  | n + 1, r => .unusable :: gap n r
def poolList (es : List (Nat × CpInfo)) (last : Nat) : List CpInfo := es.foldr (fun e r => gap e.1 (e.2 :: r)) (gap last [])
def pool (es : List (Nat × CpInfo)) (last : Nat) : Array CpInfo := ⟨poolList es last⟩
def fileOf (pool : Array CpInfo) (this : Nat) (attrs : Array Attribute := #[]) (ms : Array MethodInfo := #[]) (fl : Nat := 33) (sup : Nat := 0) (ifs : Array Nat := #[]) (fds : Array FieldInfo := #[]) : ClassFile where
  minorVersion := 0
  majorVersion := 65
  constantPool := pool
  accessFlags := fl
  thisClass := this
  superClass := sup
  interfaces := ifs
  fields := fds
  methods := ms
  attributes := attrs
def plain (name : String) (sup : Option ClassId) : Class where
  name := name
  kind := .ordinary
  loader := none
  accessFlags := 33
  super := sup
  interfaces := #[]
  cf := none
  fields := #[]
  methods := #[]
  instanceTypes := #[]
  staticTypes := #[]
  resolved := #[]
  callSites := []
  init := .initialized
  statics := none
  mirror := none

def pool0 : Array CpInfo := pool [(5, u "<init>"), (0, u "()V"), (1, .class_ 10), (1, u "java/lang/Object")] 113

def k0c0 : Code := { maxStack := 0, maxLocals := 1, code := object_method_1_code, exceptionTable := #[], attributes := #[] }
def k0m0 : Method := { name := "<init>", desc := "()V", sig := { parameters := [], returnType := none }, accessFlags := 1, code := some k0c0 }
/-- java/lang/Object -/
def k0 : Class := { plain "java/lang/Object" none with
  accessFlags := 33
  interfaces := #[]
  cf := some (fileOf pool0 8 #[] #[{ accessFlags := 1, nameIndex := 5, descriptorIndex := 6, attributes := #[] }] 33 0 #[] #[])
  fields := #[]
  methods := #[k0m0]
  instanceTypes := #[]
  staticTypes := #[]
  resolved := Array.replicate 124 none
  statics := none }

def pool1 : Array CpInfo := pool [(2, .class_ 4), (0, .nameAndType 5 6), (0, u "java/lang/Object"), (0, u "<init>"), (0, u "()V"), (0, .long 3), (1, .class_ 10), (0, u "com/example/triflux/triflux/eval/Summary"), (0, .methodref 9 3), (0, .methodref 9 13), (0, .nameAndType 14 15), (0, u "add"), (0, u "(D)V"), (0, .methodref 9 17), (0, .nameAndType 18 19), (0, u "mean"), (0, u "()D"), (0, .double 4611686018427387904), (1, .class_ 23), (0, u "com/example/triflux/triflux/eval/SummaryMeanPinLaw"), (2, u "law"), (0, u "(IIII)Z")] 3

def k1m0 : Method := { name := "<init>", desc := "()V", sig := { parameters := [], returnType := none }, accessFlags := 1, code := none }
def k1c1 : Code := { maxStack := 6, maxLocals := 16, code := code, exceptionTable := #[], attributes := #[] }
def k1m1 : Method := { name := "law", desc := "(IIII)Z", sig := { parameters := [.int, .int, .int, .int], returnType := some .boolean }, accessFlags := 9, code := some k1c1 }
/-- com/example/triflux/triflux/eval/SummaryMeanPinLaw -/
def k1 : Class := { plain "com/example/triflux/triflux/eval/SummaryMeanPinLaw" (some 0) with
  accessFlags := 49
  interfaces := #[]
  cf := some (fileOf pool1 22 #[] #[{ accessFlags := 1, nameIndex := 5, descriptorIndex := 6, attributes := #[] }, { accessFlags := 9, nameIndex := 26, descriptorIndex := 27, attributes := #[] }] 49 2 #[] #[])
  fields := #[]
  methods := #[k1m0, k1m1]
  instanceTypes := #[]
  staticTypes := #[]
  resolved := Array.replicate 31 none
  statics := none }

def pool2 : Array CpInfo := pool [(1, .methodref 2 3), (0, .class_ 4), (0, .nameAndType 5 6), (0, u "java/lang/Object"), (0, u "<init>"), (0, u "()V"), (0, .methodref 8 9), (0, .class_ 10), (0, .nameAndType 11 12), (0, u "java/lang/Double"), (0, u "isFinite"), (0, u "(D)Z"), (9, .fieldref 23 24), (0, .class_ 25), (0, .nameAndType 26 27), (0, u "com/example/triflux/triflux/eval/Summary"), (0, u "count"), (0, u "J"), (0, .fieldref 23 29), (0, .nameAndType 30 31), (0, u "first"), (0, u "D"), (0, .fieldref 23 33), (0, .nameAndType 34 31), (0, u "shiftedMean"), (0, .fieldref 23 36), (0, .nameAndType 37 31), (0, u "squaredDeviations"), (0, .double 9221120237041090560), (11, u "add"), (0, u "(D)V"), (2, u "mean"), (0, u "()D")] 18

def k2c0 : Code := { maxStack := 1, maxLocals := 1, code := prog_53_method_1_code, exceptionTable := #[], attributes := #[] }
def k2m0 : Method := { name := "<init>", desc := "()V", sig := { parameters := [], returnType := none }, accessFlags := 1, code := some k2c0 }
def k2c1 : Code := { maxStack := 9, maxLocals := 7, code := prog_53_method_2_code, exceptionTable := #[], attributes := #[] }
def k2m1 : Method := { name := "add", desc := "(D)V", sig := { parameters := [.double], returnType := none }, accessFlags := 1, code := some k2c1 }
def k2c2 : Code := { maxStack := 4, maxLocals := 1, code := prog_53_method_4_code, exceptionTable := #[], attributes := #[] }
def k2m2 : Method := { name := "mean", desc := "()D", sig := { parameters := [], returnType := some .double }, accessFlags := 1, code := some k2c2 }
/-- com/example/triflux/triflux/eval/Summary -/
def k2 : Class := { plain "com/example/triflux/triflux/eval/Summary" (some 0) with
  accessFlags := 49
  interfaces := #[]
  cf := some (fileOf pool2 23 #[] #[{ accessFlags := 1, nameIndex := 5, descriptorIndex := 6, attributes := #[] }, { accessFlags := 1, nameIndex := 50, descriptorIndex := 51, attributes := #[] }, { accessFlags := 1, nameIndex := 54, descriptorIndex := 55, attributes := #[] }] 49 2 #[] #[{ accessFlags := 2, nameIndex := 26, descriptorIndex := 27, attributes := #[] }, { accessFlags := 2, nameIndex := 30, descriptorIndex := 31, attributes := #[] }, { accessFlags := 2, nameIndex := 34, descriptorIndex := 31, attributes := #[] }, { accessFlags := 2, nameIndex := 37, descriptorIndex := 31, attributes := #[] }])
  fields := #[{ name := "count", type := .long, accessFlags := 2, slot := 0, constantValue := 0 }, { name := "first", type := .double, accessFlags := 2, slot := 1, constantValue := 0 }, { name := "shiftedMean", type := .double, accessFlags := 2, slot := 2, constantValue := 0 }, { name := "squaredDeviations", type := .double, accessFlags := 2, slot := 3, constantValue := 0 }]
  methods := #[k2m0, k2m1, k2m2]
  instanceTypes := #[.long, .double, .double, .double]
  staticTypes := #[]
  resolved := Array.replicate 74 none
  statics := none }

def pool3 : Array CpInfo := pool [(1, .class_ 2), (0, u "java/io/Serializable"), (0, .class_ 4), (0, u "java/lang/Object")] 2

/-- java/io/Serializable -/
def k3 : Class := { plain "java/io/Serializable" (some 0) with
  accessFlags := 1537
  interfaces := #[]
  cf := some (fileOf pool3 1 #[] #[] 1537 3 #[] #[])
  fields := #[]
  methods := #[]
  instanceTypes := #[]
  staticTypes := #[]
  resolved := Array.replicate 7 none
  statics := none }

def pool4 : Array CpInfo := pool [(2, .class_ 4), (1, u "java/lang/Object"), (0, u "<init>"), (0, u "()V"), (1, .class_ 10), (1, u "java/lang/Number"), (2, .class_ 14), (0, u "java/io/Serializable"), (0, u "serialVersionUID"), (0, u "J")] 20

def k4m0 : Method := { name := "<init>", desc := "()V", sig := { parameters := [], returnType := none }, accessFlags := 1, code := none }
/-- java/lang/Number -/
def k4 : Class := { plain "java/lang/Number" (some 0) with
  accessFlags := 1057
  interfaces := #[3]
  cf := some (fileOf pool4 8 #[] #[{ accessFlags := 1, nameIndex := 5, descriptorIndex := 6, attributes := #[] }] 1057 2 #[13] #[{ accessFlags := 26, nameIndex := 15, descriptorIndex := 16, attributes := #[] }])
  fields := #[{ name := "serialVersionUID", type := .long, accessFlags := 26, slot := 0, constantValue := 0 }]
  methods := #[k4m0]
  instanceTypes := #[]
  staticTypes := #[.long]
  resolved := Array.replicate 37 none
  statics := none }

def pool5 : Array CpInfo := pool [(1, .class_ 2), (0, u "java/lang/Comparable"), (0, .class_ 4), (0, u "java/lang/Object")] 7

/-- java/lang/Comparable -/
def k5 : Class := { plain "java/lang/Comparable" (some 0) with
  accessFlags := 1537
  interfaces := #[]
  cf := some (fileOf pool5 1 #[] #[] 1537 3 #[] #[])
  fields := #[]
  methods := #[]
  instanceTypes := #[]
  staticTypes := #[]
  resolved := Array.replicate 12 none
  statics := none }

def pool6 : Array CpInfo := pool [(1, .class_ 2), (0, u "java/lang/constant/Constable"), (0, .class_ 4), (0, u "java/lang/Object")] 6

/-- java/lang/constant/Constable -/
def k6 : Class := { plain "java/lang/constant/Constable" (some 0) with
  accessFlags := 1537
  interfaces := #[]
  cf := some (fileOf pool6 1 #[] #[] 1537 3 #[] #[])
  fields := #[]
  methods := #[]
  instanceTypes := #[]
  staticTypes := #[]
  resolved := Array.replicate 11 none
  statics := none }

def pool7 : Array CpInfo := pool [(1, .class_ 2), (0, u "java/lang/constant/ConstantDesc"), (0, .class_ 4), (0, u "java/lang/Object")] 32

/-- java/lang/constant/ConstantDesc -/
def k7 : Class := { plain "java/lang/constant/ConstantDesc" (some 0) with
  accessFlags := 1537
  interfaces := #[]
  cf := some (fileOf pool7 1 #[] #[] 1537 3 #[] #[])
  fields := #[]
  methods := #[]
  instanceTypes := #[]
  staticTypes := #[]
  resolved := Array.replicate 37 none
  statics := none }

def pool8 : Array CpInfo := pool [(1, .class_ 2), (0, u "java/lang/Double"), (10, u "isFinite"), (0, u "(D)Z"), (8, .class_ 25), (1, u "java/lang/Math"), (12, .methodref 23 39), (0, .nameAndType 40 41), (0, u "abs"), (0, u "(D)D"), (69, .double 9218868437227405311), (2, .class_ 116), (1, u "java/lang/Number"), (3, u "value"), (0, u "D"), (51, u "TYPE"), (0, u "Ljava/lang/Class;"), (0, .class_ 176), (0, u "java/lang/Comparable"), (0, .class_ 178), (0, u "java/lang/constant/Constable"), (0, .class_ 180), (0, u "java/lang/constant/ConstantDesc"), (0, u "POSITIVE_INFINITY"), (3, u "NEGATIVE_INFINITY"), (2, u "NaN"), (2, u "MAX_VALUE"), (0, u "MIN_NORMAL"), (0, u "MIN_VALUE"), (2, u "SIZE"), (0, u "I"), (1, u "PRECISION"), (1, u "MAX_EXPONENT"), (1, u "MIN_EXPONENT"), (1, u "BYTES"), (3, u "serialVersionUID"), (0, u "J")] 79

def k8c0 : Code := { maxStack := 4, maxLocals := 2, code := jdk_117_method_8_code, exceptionTable := #[], attributes := #[] }
def k8m0 : Method := { name := "isFinite", desc := "(D)Z", sig := { parameters := [.double], returnType := some .boolean }, accessFlags := 9, code := some k8c0 }
/-- java/lang/Double -/
def k8 : Class := { plain "java/lang/Double" (some 4) with
  accessFlags := 49
  interfaces := #[5, 6, 7]
  cf := some (fileOf pool8 1 #[] #[{ accessFlags := 9, nameIndex := 13, descriptorIndex := 14, attributes := #[] }] 49 114 #[175, 177, 179] #[{ accessFlags := 25, nameIndex := 181, descriptorIndex := 121, attributes := #[] }, { accessFlags := 25, nameIndex := 185, descriptorIndex := 121, attributes := #[] }, { accessFlags := 25, nameIndex := 188, descriptorIndex := 121, attributes := #[] }, { accessFlags := 25, nameIndex := 191, descriptorIndex := 121, attributes := #[] }, { accessFlags := 25, nameIndex := 192, descriptorIndex := 121, attributes := #[] }, { accessFlags := 25, nameIndex := 193, descriptorIndex := 121, attributes := #[] }, { accessFlags := 25, nameIndex := 196, descriptorIndex := 197, attributes := #[] }, { accessFlags := 25, nameIndex := 199, descriptorIndex := 197, attributes := #[] }, { accessFlags := 25, nameIndex := 201, descriptorIndex := 197, attributes := #[] }, { accessFlags := 25, nameIndex := 203, descriptorIndex := 197, attributes := #[] }, { accessFlags := 25, nameIndex := 205, descriptorIndex := 197, attributes := #[] }, { accessFlags := 25, nameIndex := 173, descriptorIndex := 174, attributes := #[] }, { accessFlags := 18, nameIndex := 120, descriptorIndex := 121, attributes := #[] }, { accessFlags := 26, nameIndex := 209, descriptorIndex := 210, attributes := #[] }])
  fields := #[{ name := "POSITIVE_INFINITY", type := .double, accessFlags := 25, slot := 0, constantValue := 0 }, { name := "NEGATIVE_INFINITY", type := .double, accessFlags := 25, slot := 1, constantValue := 0 }, { name := "NaN", type := .double, accessFlags := 25, slot := 2, constantValue := 0 }, { name := "MAX_VALUE", type := .double, accessFlags := 25, slot := 3, constantValue := 0 }, { name := "MIN_NORMAL", type := .double, accessFlags := 25, slot := 4, constantValue := 0 }, { name := "MIN_VALUE", type := .double, accessFlags := 25, slot := 5, constantValue := 0 }, { name := "SIZE", type := .int, accessFlags := 25, slot := 6, constantValue := 0 }, { name := "PRECISION", type := .int, accessFlags := 25, slot := 7, constantValue := 0 }, { name := "MAX_EXPONENT", type := .int, accessFlags := 25, slot := 8, constantValue := 0 }, { name := "MIN_EXPONENT", type := .int, accessFlags := 25, slot := 9, constantValue := 0 }, { name := "BYTES", type := .int, accessFlags := 25, slot := 10, constantValue := 0 }, { name := "TYPE", type := (.object "java/lang/Class"), accessFlags := 25, slot := 11, constantValue := 0 }, { name := "value", type := .double, accessFlags := 18, slot := 0, constantValue := 0 }, { name := "serialVersionUID", type := .long, accessFlags := 26, slot := 12, constantValue := 0 }]
  methods := #[k8m0]
  instanceTypes := #[.double]
  staticTypes := #[.double, .double, .double, .double, .double, .double, .int, .int, .int, .int, .int, (.object "java/lang/Class"), .long]
  resolved := Array.replicate 290 none
  statics := none }

def pool9 : Array CpInfo := pool [(1, .class_ 2), (0, u "java/lang/Math"), (1, .class_ 6), (1, u "java/lang/Object"), (0, u "<init>"), (0, u "()V"), (5, u "(D)D"), (83, .class_ 100), (1, u "java/lang/Math$RandomNumberGeneratorHolder"), (23, u "abs"), (47, u "negativeZeroFloatBits"), (0, u "J"), (2, u "negativeZeroDoubleBits"), (68, u "$assertionsDisabled"), (0, u "Z"), (91, u "twoToTheDoubleScaleDown"), (0, u "D"), (4, u "twoToTheDoubleScaleUp"), (9, u "E"), (3, u "PI"), (2, u "TAU"), (2, u "DEGREES_TO_RADIANS"), (0, u "RADIANS_TO_DEGREES")] 94

def k9m0 : Method := { name := "<init>", desc := "()V", sig := { parameters := [], returnType := none }, accessFlags := 2, code := none }
def k9c1 : Code := { maxStack := 4, maxLocals := 2, code := jdk_29_method_64_code, exceptionTable := #[], attributes := #[] }
def k9m1 : Method := { name := "abs", desc := "(D)D", sig := { parameters := [.double], returnType := some .double }, accessFlags := 9, code := some k9c1 }
/-- java/lang/Math -/
def k9 : Class := { plain "java/lang/Math" (some 0) with
  accessFlags := 49
  interfaces := #[]
  cf := some (fileOf pool9 1 #[.nestMembers #[98]] #[{ accessFlags := 2, nameIndex := 7, descriptorIndex := 8, attributes := #[] }, { accessFlags := 9, nameIndex := 124, descriptorIndex := 14, attributes := #[] }] 49 4 #[] #[{ accessFlags := 25, nameIndex := 354, descriptorIndex := 339, attributes := #[] }, { accessFlags := 25, nameIndex := 358, descriptorIndex := 339, attributes := #[] }, { accessFlags := 25, nameIndex := 361, descriptorIndex := 339, attributes := #[] }, { accessFlags := 26, nameIndex := 364, descriptorIndex := 339, attributes := #[] }, { accessFlags := 26, nameIndex := 365, descriptorIndex := 339, attributes := #[] }, { accessFlags := 26, nameIndex := 172, descriptorIndex := 173, attributes := #[] }, { accessFlags := 26, nameIndex := 176, descriptorIndex := 173, attributes := #[] }, { accessFlags := 8, nameIndex := 344, descriptorIndex := 339, attributes := #[] }, { accessFlags := 8, nameIndex := 338, descriptorIndex := 339, attributes := #[] }, { accessFlags := 4120, nameIndex := 245, descriptorIndex := 246, attributes := #[] }])
  fields := #[{ name := "E", type := .double, accessFlags := 25, slot := 0, constantValue := 0 }, { name := "PI", type := .double, accessFlags := 25, slot := 1, constantValue := 0 }, { name := "TAU", type := .double, accessFlags := 25, slot := 2, constantValue := 0 }, { name := "DEGREES_TO_RADIANS", type := .double, accessFlags := 26, slot := 3, constantValue := 0 }, { name := "RADIANS_TO_DEGREES", type := .double, accessFlags := 26, slot := 4, constantValue := 0 }, { name := "negativeZeroFloatBits", type := .long, accessFlags := 26, slot := 5, constantValue := 0 }, { name := "negativeZeroDoubleBits", type := .long, accessFlags := 26, slot := 6, constantValue := 0 }, { name := "twoToTheDoubleScaleUp", type := .double, accessFlags := 8, slot := 7, constantValue := 0 }, { name := "twoToTheDoubleScaleDown", type := .double, accessFlags := 8, slot := 8, constantValue := 0 }, { name := "$assertionsDisabled", type := .boolean, accessFlags := 4120, slot := 9, constantValue := 0 }]
  methods := #[k9m0, k9m1]
  instanceTypes := #[]
  staticTypes := #[.double, .double, .double, .double, .double, .long, .long, .double, .double, .boolean]
  resolved := Array.replicate 460 none
  statics := none }

def pool10 : Array CpInfo := pool [(1, u "java/lang/Cloneable"), (0, .class_ 1), (0, u "java/lang/Object"), (0, .class_ 3)] 3

/-- java/lang/Cloneable -/
def k10 : Class := { plain "java/lang/Cloneable" (some 0) with
  accessFlags := 1537
  interfaces := #[]
  cf := some (fileOf pool10 2 #[] #[] 1537 4 #[] #[])
  fields := #[]
  methods := #[]
  instanceTypes := #[]
  staticTypes := #[]
  resolved := Array.replicate 8 none
  statics := none }

/-- the primitive byte -/
def k11 : Class := { plain "byte" none with kind := .primitive 'B', accessFlags := 0x411 }
/-- [B -/
def k12 : Class := { plain "[B" (some 0) with kind := .array 11 .byte, interfaces := #[10, 3], accessFlags := 1041 }

/-- the primitive int -/
def k13 : Class := { plain "int" none with kind := .primitive 'I', accessFlags := 0x411 }
/-- [I -/
def k14 : Class := { plain "[I" (some 0) with kind := .array 13 .int, interfaces := #[10, 3], accessFlags := 1041 }

def heap : Heap := #[]
def classes : Array Class := #[k0, k1, k2, k3, k4, k5, k6, k7, k8, k9, k10, k11, k12, k13, k14]
def interned : List (Array UInt16 × Addr) := []
def slotsUsed : Nat := 0
def theMethod : MethodId := ⟨1, 1⟩
def args0 : Array Value := #[.int 3, .int 5, .int 1, .int 1]
def aboutOver (below : List Frame) : State where
  vm := { classes := classes, interned := interned.toArray }
  heap := heap
  slotsUsed := slotsUsed
  threads := #[{ frames := .invoking theMethod args0 :: below }]
def below0 : List Frame := [.native { method := ⟨0, 0⟩, args := #[] }]
def about1 : State := aboutOver below0
def p0 : Program := .bare "" "" ""
def e0 : Env := launch0.env 0 0 0
theorem w_frames : about1.frames = Frame.invoking theMethod args0 :: below0 := rfl
set_option maxRecDepth 65536 in
theorem w_args : argsFit about1.vm theMethod args0 = true := by decide +kernel
set_option maxRecDepth 65536 in
theorem w_heap : heapFits about1 = true := by decide +kernel
set_option maxRecDepth 65536 in
theorem w_runnable : about1.curStatus? = some .runnable := by decide +kernel
set_option maxRecDepth 65536 in
theorem w_alone : about1.alone = true := by decide +kernel
set_option maxRecDepth 65536 in
theorem w_named : about1.methodNamed? x = some theMethod := by decide +kernel
set_option maxRecDepth 65536 in
theorem w_hears : about1.hears theMethod below0 = true := by decide +kernel
set_option maxRecDepth 65536 in
theorem w_ripe : about1.ripe theMethod args0 below0 = true := by decide +kernel
theorem w_running : about1.status = .running := rfl
set_option maxRecDepth 65536 in
theorem w_room : about1.hasRoom e0.platform room_1 = true :=
  launch0.hasRoom_least _ room_1 (by decide +kernel) (by decide +kernel) (by decide +kernel) (by decide +kernel) (by decide +kernel) (by decide +kernel)
theorem allAtoms_all (ts : List Jvm.Cond) (a : Array Jvm.Value) (st : Jvm.State) : (allAtoms ts).before a st = ts.all (fun c => c.before a st) := by
  induction ts with
  | nil => rfl
  | cons c t ih =>
    show (Jvm.Cond.and c (allAtoms t)).before a st = _
    rw [Jvm.Cond.before_and, ih, List.all_cons]
def words1 : List Jvm.Cond := Jvm.Cond.code x code maxLocals ret :: tables_1
/-- a 'code' word, met by the world's own term for the bytes: nothing is compared byte by byte -/
theorem code_word {y : MethodName} {bytes : ByteArray} {mx : Nat} {rt : Option FieldType} {a : Array Value} {s : State} {m : MethodId} {meth : Method} {c : Code} (h1 : s.methodNamed? y = some m) (h2 : s.vm.method? m = some meth) (h3 : meth.code = some c) (h4 : c.code = bytes)
    (h5 : (c.maxLocals == mx && c.exceptionTable.isEmpty && decide (c.maxStack ≤ mostOperands) && decide (meth.sig.returnType = rt) && !meth.locks && decide (parseMethodDescriptor y.desc = some meth.sig)) = true) : (Jvm.Cond.code y bytes mx rt).before a s = true := by
  simp only [Bool.and_eq_true, beq_iff_eq, Bool.not_eq_true', decide_eq_true_eq] at h5
  obtain ⟨⟨⟨⟨⟨g1, g2⟩, g3⟩, g4⟩, g5⟩, g6⟩ := h5
  simp [Cond.before, Cond.holds, Cond.value, h1, h2, h3, h4, g1, g2, g3, g4, g5, g6]
def isCode : Jvm.Cond → Bool
  | .code _ _ _ _ => true
  | _ => false
theorem all_split {L : List Jvm.Cond} {P : Jvm.Cond → Bool} (h1 : L.all (fun c => isCode c || P c) = true) (h2 : ∀ c ∈ L.filter isCode, P c = true) : L.all P = true := by
  refine List.all_eq_true.mpr fun c hc => ?_
  have h := List.all_eq_true.mp h1 c hc
  rcases Bool.eq_false_or_eq_true (isCode c) with hi | hi
  · exact h2 c (List.mem_filter.mpr ⟨hc, hi⟩)
  · simpa [hi] using h
set_option maxRecDepth 65536 in
theorem w_c0 : (Jvm.Cond.code x code maxLocals ret).before args0 about1 = true := code_word (m := ⟨1, 1⟩) (meth := k1m1) (c := k1c1) (by decide +kernel) rfl rfl rfl (by decide +kernel)
set_option maxRecDepth 65536 in
theorem w_c1 : (Jvm.Cond.code ({ cls := "com/example/triflux/triflux/eval/Summary", name := "<init>", desc := "()V" } : Jvm.MethodName) prog_53_method_1_code (1 : Nat) (Option.none : Option Jvm.ClassFile.FieldType)).before args0 about1 = true := code_word (m := ⟨2, 0⟩) (meth := k2m0) (c := k2c0) (by decide +kernel) rfl rfl rfl (by decide +kernel)
set_option maxRecDepth 65536 in
theorem w_c2 : (Jvm.Cond.code ({ cls := "java/lang/Object", name := "<init>", desc := "()V" } : Jvm.MethodName) object_method_1_code (1 : Nat) (Option.none : Option Jvm.ClassFile.FieldType)).before args0 about1 = true := code_word (m := ⟨0, 0⟩) (meth := k0m0) (c := k0c0) (by decide +kernel) rfl rfl rfl (by decide +kernel)
set_option maxRecDepth 65536 in
theorem w_c3 : (Jvm.Cond.code ({ cls := "com/example/triflux/triflux/eval/Summary", name := "mean", desc := "()D" } : Jvm.MethodName) prog_53_method_4_code (1 : Nat) (Option.some Jvm.ClassFile.FieldType.double)).before args0 about1 = true := code_word (m := ⟨2, 2⟩) (meth := k2m2) (c := k2c2) (by decide +kernel) rfl rfl rfl (by decide +kernel)
set_option maxRecDepth 65536 in
theorem w_c4 : (Jvm.Cond.code ({ cls := "com/example/triflux/triflux/eval/Summary", name := "add", desc := "(D)V" } : Jvm.MethodName) prog_53_method_2_code (7 : Nat) (Option.none : Option Jvm.ClassFile.FieldType)).before args0 about1 = true := code_word (m := ⟨2, 1⟩) (meth := k2m1) (c := k2c1) (by decide +kernel) rfl rfl rfl (by decide +kernel)
set_option maxRecDepth 65536 in
theorem w_c5 : (Jvm.Cond.code ({ cls := "java/lang/Double", name := "isFinite", desc := "(D)Z" } : Jvm.MethodName) jdk_117_method_8_code (2 : Nat) (Option.some Jvm.ClassFile.FieldType.boolean)).before args0 about1 = true := code_word (m := ⟨8, 0⟩) (meth := k8m0) (c := k8c0) (by decide +kernel) rfl rfl rfl (by decide +kernel)
set_option maxRecDepth 65536 in
theorem w_c6 : (Jvm.Cond.code ({ cls := "java/lang/Math", name := "abs", desc := "(D)D" } : Jvm.MethodName) jdk_29_method_64_code (2 : Nat) (Option.some Jvm.ClassFile.FieldType.double)).before args0 about1 = true := code_word (m := ⟨9, 1⟩) (meth := k9m1) (c := k9c1) (by decide +kernel) rfl rfl rfl (by decide +kernel)
def codes1 : List Jvm.Cond := [Jvm.Cond.code x code maxLocals ret, Jvm.Cond.code ({ cls := "com/example/triflux/triflux/eval/Summary", name := "<init>", desc := "()V" } : Jvm.MethodName) prog_53_method_1_code (1 : Nat) (Option.none : Option Jvm.ClassFile.FieldType), Jvm.Cond.code ({ cls := "java/lang/Object", name := "<init>", desc := "()V" } : Jvm.MethodName) object_method_1_code (1 : Nat) (Option.none : Option Jvm.ClassFile.FieldType), Jvm.Cond.code ({ cls := "com/example/triflux/triflux/eval/Summary", name := "mean", desc := "()D" } : Jvm.MethodName) prog_53_method_4_code (1 : Nat) (Option.some Jvm.ClassFile.FieldType.double), Jvm.Cond.code ({ cls := "com/example/triflux/triflux/eval/Summary", name := "add", desc := "(D)V" } : Jvm.MethodName) prog_53_method_2_code (7 : Nat) (Option.none : Option Jvm.ClassFile.FieldType), Jvm.Cond.code ({ cls := "java/lang/Double", name := "isFinite", desc := "(D)Z" } : Jvm.MethodName) jdk_117_method_8_code (2 : Nat) (Option.some Jvm.ClassFile.FieldType.boolean), Jvm.Cond.code ({ cls := "java/lang/Math", name := "abs", desc := "(D)D" } : Jvm.MethodName) jdk_29_method_64_code (2 : Nat) (Option.some Jvm.ClassFile.FieldType.double)]
set_option maxRecDepth 65536 in
theorem codes_eq : words1.filter isCode = codes1 := rfl
theorem w_codes : ∀ c ∈ words1.filter isCode, c.before args0 about1 = true := by
  rw [codes_eq]
  intro c hc
  simp only [codes1, List.mem_cons, List.not_mem_nil, or_false] at hc
  rcases hc with rfl | rfl | rfl | rfl | rfl | rfl | rfl
  · exact w_c0
  · exact w_c1
  · exact w_c2
  · exact w_c3
  · exact w_c4
  · exact w_c5
  · exact w_c6
set_option maxRecDepth 65536 in
theorem w_t1 : (words1.take 24).all (fun c => isCode c || c.before args0 about1) = true := by decide +kernel
set_option maxRecDepth 65536 in
theorem w_t2 : (words1.drop 24).all (fun c => isCode c || c.before args0 about1) = true := by decide +kernel
theorem w_tables : (allAtoms (Jvm.Cond.code x code maxLocals ret :: tables_1)).before args0 about1 = true := by
  rw [allAtoms_all]
  show words1.all (fun c => c.before args0 about1) = true
  refine all_split ?_ w_codes
  rw [← List.take_append_drop 24 words1, List.all_append, w_t1, w_t2]
  rfl
set_option maxRecDepth 65536 in
theorem w_case : (Jvm.Cond.and given_1 narrow_1).before args0 about1 = true := by decide +kernel
theorem w_applies : (headSpec (Jvm.Cond.code x code maxLocals ret :: tables_1) room_1).applies x e0.platform about1 = true :=
  (Spec.applies_iff w_frames).mpr ⟨w_running, w_runnable, w_alone, w_named, w_hears, w_ripe, w_room, w_tables⟩
theorem atStart : AtStart classFile x code maxLocals ret World_1 tables_1 room_1 Calls_1 rest_1 Pre_1 launch0 p0 e0 about1 theMethod args0 below0 :=
  ⟨lists_1, trivial, launch0.admits_env _ _ _, launch0.least_env, fairChoices_fair.cas, fairChoices_fair.clock, w_frames, w_args, w_heap, w_applies, trivial, trivial, w_case⟩
end start1
theorem witness_1 : WitnessClaimed_1 := ⟨start1.p0, start1.e0, start1.about1, start1.theMethod, start1.args0, start1.below0, start1.atStart⟩
end Jvm.Pilot.@@N@@
