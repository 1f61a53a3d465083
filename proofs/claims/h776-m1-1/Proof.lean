import JvmDerived
import JvmDerived.Pilot.@@N@@Statement
import JvmDerived.Pilot.@@N@@Code
set_option linter.unusedVariables false
set_option linter.unusedSimpArgs false
namespace Jvm.Pilot.@@N@@
open Jvm Jvm.ClassFile Sem Op Lib Jvm.Free Jvm.Stand Jvm.LawKit Jvm.RoadKit Bundle Jvm.Pilot.@@N@@.Jvm.D
def own_Run (p : Program) (e : Env) (below : List Frame) (s : State) (Q : Option Value → Heap → List Loc → Prop) (ck sk : Nat) (U : State) : Prop :=
  ∃ s₂ o, Steps p.tables e below U s₂ ∧ s₂.status = .running ∧ Ended s₂ below o ∧ ∃ v L, o = .returned v ∧ Q v s₂.heap L ∧ FrameEnd s o s₂ L ck sk
section OwnLayer
variable {p : Program} {l : Launch} {e : Env} {R : Room} {s : State} {m : MethodId} {args : Array Value} {below : List Frame} {meth : Method} {c : Code} {T : State} {locs : List Loc} {cells slots : Nat} {Z : State} {a0 : Array Value} {h : Heap} {Q : Option Value → Heap → List Loc → Prop} {ck sk : Nat}
theorem own_st {U U' : State} (hh : ∀ t, Steps p.tables e below U' t → Steps p.tables e below U t) (K : own_Run p e below s Q ck sk U') : own_Run p e below s Q ck sk U := by
  obtain ⟨s2, o, h1, r⟩ := K
  exact ⟨s2, o, hh _ h1, r⟩
theorem own_topI {pc : Nat} {Ls : Array Slot} {st : List Value} {v v' : Int32} (hv : v = v') (K : own_Run p e below s Q ck sk (T.setTop (mkF m pc Ls (.int v' :: st)))) : own_Run p e below s Q ck sk (T.setTop (mkF m pc Ls (.int v :: st))) := hv ▸ K
theorem own_topJ {pc : Nat} {Ls : Array Slot} {st : List Value} {v v' : Int64} (hv : v = v') (K : own_Run p e below s Q ck sk (T.setTop (mkF m pc Ls (.long v' :: st)))) : own_Run p e below s Q ck sk (T.setTop (mkF m pc Ls (.long v :: st))) := hv ▸ K
theorem own_topD {pc : Nat} {Ls : Array Slot} {st : List Value} {v v' : UInt64} (hv : v = v') (K : own_Run p e below s Q ck sk (T.setTop (mkF m pc Ls (.double v' :: st)))) : own_Run p e below s Q ck sk (T.setTop (mkF m pc Ls (.double v :: st))) := hv ▸ K
theorem own_ret (X : Stand p l e R s m args below meth c T locs cells slots) (hx : p.tables.exec = Jvm.exec) (hlk : meth.locks = false) {pc : Nat} {Ls : Array Slot} {w : Value} {t : FieldType} {i : Instr} {rest : List Value} (hret : meth.sig.returnType = some t) (hn : narrow t w = w)
    (hi : (i = .ireturn ∧ (t = .int ∨ t = .boolean ∨ t = .byte ∨ t = .char ∨ t = .short) ∧ ∃ z, w = .int z) ∨ (i = .lreturn ∧ t = .long ∧ ∃ z, w = .long z) ∨ (i = .dreturn ∧ t = .double ∧ ∃ z, w = .double z) ∨ (i = .freturn ∧ t = .float ∧ ∃ z, w = .float z) ∨ (i = .areturn ∧ t.isReference = true ∧ w.isRef = true))
    (hd : decode c.code pc = .ok (i, 1)) (hc : cells ≤ ck) (hs : slots ≤ sk) (hq : Q (some w) T.heap locs) : own_Run p e below s Q ck sk (T.setTop (mkF m pc Ls (w :: rest))) := by
  obtain ⟨fs, hr, hrun, hended, hW, hsame⟩ := X.leave (v := some w) (fun q => by rw [hret] at q; cases q) hlk
  exact ⟨_, _, retOut X hx hret hn hi hd hr, hrun, hended, _, _, rfl, hq, ⟨_, rfl⟩, hW, hsame.mono hc hs⟩
theorem own_retV (X : Stand p l e R s m args below meth c T locs cells slots) (hx : p.tables.exec = Jvm.exec) (hlk : meth.locks = false) {pc : Nat} {Ls : Array Slot} (hret : meth.sig.returnType = none)
    (hd : decode c.code pc = .ok (.return_, 1)) (hc : cells ≤ ck) (hs : slots ≤ sk) (hq : Q none T.heap locs) : own_Run p e below s Q ck sk (T.setTop (mkF m pc Ls [])) := by
  obtain ⟨fs, hr, hrun, hended, hW, hsame⟩ := X.leave (v := none) (fun _ => rfl) hlk
  exact ⟨_, _, X.returnOut hx hret hd hr, hrun, hended, _, _, rfl, hq, ⟨_, rfl⟩, hW, hsame.mono hc hs⟩
theorem own_body {y : MethodName} {bytes : ByteArray} {maxL : Nat} {ret : Option FieldType} {ws : List Jvm.Cond} {rm : Room} {as' : Array Value} {h0 : Heap} (hpl : plainFor y = true)
    (hbody : ∀ (p : Program) (e : Env) (s : State) (m : MethodId) (below : List Frame) (meth : Method) (c : Code) (s₁ : State), p.tables.exec = Jvm.exec → c.code = bytes → c.maxLocals = maxL → Z.Warmed39 s.vm → s.vm.findClass y.cls = some m.cls → meth.name = y.name → meth.sig.returnType = ret → meth.locks = false → Stand p l e rm s m as' below meth c s₁ [] 0 0 → s₁.heap = h0 → own_Run p e below s Q rm.cells rm.slots (s₁.setTop (entryFrame m as' maxL))) :
    MetFree l y (head1 (Jvm.Cond.code y bytes maxL ret :: ws) rm) (fun a U => a = as' ∧ Z.Warmed39 U.vm ∧ U.heap = h0) (fun _ _ _ _ _ => True) (fun _ U o U' => ∃ v L, o = .returned v ∧ Q v U'.heap L ∧ FrameEnd U o U' L rm.cells rm.slots) := by
  refine MetFree.of_bodySF hpl hisR ?_
  intro p e s m args below meth c s₁ Bd hml0 hP hK
  obtain ⟨rfl, hZ, hh⟩ := hP
  exact hbody p e s m below meth c s₁ Bd.exec Bd.bytes hml0 hZ (findClass_of_methodNamed Bd.named) (name_of_methodNamed Bd.named Bd.method).1 Bd.returns Bd.notSynchronized (Stand.of_body Bd) (by rw [← hh, Bd.state]; rfl)
theorem own_callI (X : Stand p l e R s m args below meth c T locs cells slots) (hx : p.tables.exec = Jvm.exec) (hZ : Z.Warmed39 s.vm) {own : String} {idx : Nat} {y : MethodName} (hy1 : y.name = "<init>") (hown : s.vm.findClass own = some m.cls) (w1 : (Jvm.Cond.methodLink own idx y).before a0 Z = true) (w2 : (Jvm.Cond.instanceMethod y).before a0 Z = true)
    {bytes : ByteArray} {maxL : Nat} (w3 : (Jvm.Cond.code y bytes maxL none).before a0 Z = true) (wz : (Jvm.Cond.initialized y.cls).before a0 Z = true) (hy : y.cls ≠ "java/lang/invoke/MethodHandle" ∧ y.cls ≠ "java/lang/invoke/VarHandle") (eT : T.heap = h) {rm : Room} {Qc : Option Value → Heap → List Loc → Prop} {a : Addr} {argsL rest : List Value}
    (hM : MetFree l y (head1 [Jvm.Cond.code y bytes maxL none] rm) (fun b U => b = (Value.ref a :: argsL).toArray ∧ Z.Warmed39 U.vm ∧ U.heap = h) (fun _ _ _ _ _ => True) (fun _ U o U' => ∃ v L, o = .returned v ∧ Qc v U'.heap L ∧ FrameEnd U o U' L rm.cells rm.slots))
    {W : Nat} (hf : rm.frames + 1 ≤ R.frames) (hl : W + (maxL + 11) + rm.locals ≤ R.locals) {pc : Nat} {Ls : Array Slot} {st : List Value} (hsize : Ls.size = c.maxLocals) (hlen : ∀ sig, parseMethodDescriptor y.desc = some sig → argsL.length = sig.parameters.length) (hst : st = argsL.reverse ++ .ref a :: rest) (hW : (rest.map fun v => v.category).sum ≤ W) (hd : decode c.code pc = .ok (.invokespecial idx, 3)) (hc : cells + rm.cells ≤ R.cells) (hs : slots + rm.slots ≤ R.slots)
    (K : ∀ (T' : State) (v : Option Value) (L : List Loc), Stand p l e R s m args below meth c T' (locs ++ L) (cells + rm.cells) (slots + rm.slots) → Qc v T'.heap L → own_Run p e below s Q ck sk (T'.setTop (mkF m (pc + 3) Ls (v.toList ++ rest)))) :
    own_Run p e below s Q ck sk (T.setTop (mkF m pc Ls st)) := by
  obtain ⟨v, _, ⟨T', L', k', n'⟩, -, X', ⟨Lc, hQ, hl', hk', hn'⟩, st'⟩ := X.specialBack hx (y := y) hy1 hown (mvT hZ w1) (mvT hZ w2) (mvT hZ w3) hy (backOf (W := W) hM hZ w3 wz hf hl) (g := mkF m pc Ls st) rfl hsize (Steps.refl _) (a := a) (argsL := argsL) (rest := rest) hlen hst (by show 2 * 0 + _ ≤ _; omega) hd (fun _ _ => ⟨rfl, eT, hc, hs⟩)
  dsimp only [Pt.U, Pt.locs, Pt.cells, Pt.slots] at X' hl' hk' hn' st' hQ
  subst hl' hk' hn'
  exact own_st (fun t k => st'.trans k) (K T' v Lc X' hQ)
theorem own_callV (X : Stand p l e R s m args below meth c T locs cells slots) (hx : p.tables.exec = Jvm.exec) (hZ : Z.Warmed39 s.vm) {own C : String} {idx : Nat} {y : MethodName} (hown : s.vm.findClass own = some m.cls) (w1 : (Jvm.Cond.methodLink own idx y).before a0 Z = true) (w2 : (Jvm.Cond.declares y).before a0 Z = true) (w3 : (Jvm.Cond.selects C y y).before a0 Z = true) (w4 : (Jvm.Cond.instanceMethod y).before a0 Z = true)
    {bytes : ByteArray} {maxL : Nat} {ret : Option FieldType} (w5 : (Jvm.Cond.code y bytes maxL ret).before a0 Z = true) (wz : (Jvm.Cond.initialized y.cls).before a0 Z = true) (hy : y.cls ≠ "java/lang/invoke/MethodHandle" ∧ y.cls ≠ "java/lang/invoke/VarHandle") (eT : T.heap = h) {a : Addr} (E : Exa Z h a C) {rm : Room} {Qc : Option Value → Heap → List Loc → Prop} {argsL rest : List Value}
    (hM : MetFree l y (head1 [Jvm.Cond.code y bytes maxL ret] rm) (fun b U => b = (Value.ref a :: argsL).toArray ∧ Z.Warmed39 U.vm ∧ U.heap = h) (fun _ _ _ _ _ => True) (fun _ U o U' => ∃ v L, o = .returned v ∧ Qc v U'.heap L ∧ FrameEnd U o U' L rm.cells rm.slots))
    {W : Nat} (hf : rm.frames + 1 ≤ R.frames) (hl : W + (maxL + 11) + rm.locals ≤ R.locals) {pc : Nat} {Ls : Array Slot} {st : List Value} (hsize : Ls.size = c.maxLocals) (hlen : ∀ sig, parseMethodDescriptor y.desc = some sig → argsL.length = sig.parameters.length) (hst : st = argsL.reverse ++ .ref a :: rest) (hW : (rest.map fun v => v.category).sum ≤ W) (hd : decode c.code pc = .ok (.invokevirtual idx, 3)) (hc : cells + rm.cells ≤ R.cells) (hs : slots + rm.slots ≤ R.slots)
    (K : ∀ (T' : State) (v : Option Value) (L : List Loc), Stand p l e R s m args below meth c T' (locs ++ L) (cells + rm.cells) (slots + rm.slots) → Qc v T'.heap L → own_Run p e below s Q ck sk (T'.setTop (mkF m (pc + 3) Ls (v.toList ++ rest)))) :
    own_Run p e below s Q ck sk (T.setTop (mkF m pc Ls st)) := by
  obtain ⟨cq, kq, qa, qb, qc⟩ := isOf hZ eT E
  obtain ⟨v, _, ⟨T', L', k', n'⟩, -, X', ⟨Lc, hQ, hl', hk', hn'⟩, st'⟩ := X.virtualBack hx (y := y) (z := y) hown (mvT hZ w1) (mvT hZ w2) (notFace_of_selects (args := #[]) (mvT hZ w3)) (mvT hZ w3) (mvT hZ w4) hy (backOf (W := W) hM hZ w5 wz hf hl) qa qc (g := mkF m pc Ls st) rfl hsize (Steps.refl _) (argsL := argsL) (rest := rest) hlen hst (by show 2 * 0 + _ ≤ _; omega) hd (fun _ _ => ⟨rfl, eT, hc, hs⟩)
  dsimp only [Pt.U, Pt.locs, Pt.cells, Pt.slots] at X' hl' hk' hn' st' hQ
  subst hl' hk' hn'
  exact own_st (fun t k => st'.trans k) (K T' v Lc X' hQ)
theorem own_callS (X : Stand p l e R s m args below meth c T locs cells slots) (hx : p.tables.exec = Jvm.exec) (hZ : Z.Warmed39 s.vm) {own : String} {idx : Nat} {y : MethodName} (hown : s.vm.findClass own = some m.cls) (w1 : (Jvm.Cond.methodLink own idx y).before a0 Z = true) (w2 : (Jvm.Cond.static y).before a0 Z = true)
    {bytes : ByteArray} {maxL : Nat} {ret : Option FieldType} (w5 : (Jvm.Cond.code y bytes maxL ret).before a0 Z = true) (wz : (Jvm.Cond.initialized y.cls).before a0 Z = true) (hy : y.cls ≠ "java/lang/invoke/MethodHandle" ∧ y.cls ≠ "java/lang/invoke/VarHandle") (eT : T.heap = h) {rm : Room} {Qc : Option Value → Heap → List Loc → Prop} {argsL rest : List Value}
    (hM : MetFree l y (head1 [Jvm.Cond.code y bytes maxL ret] rm) (fun b U => b = argsL.toArray ∧ Z.Warmed39 U.vm ∧ U.heap = h) (fun _ _ _ _ _ => True) (fun _ U o U' => ∃ v L, o = .returned v ∧ Qc v U'.heap L ∧ FrameEnd U o U' L rm.cells rm.slots))
    {W : Nat} (hf : rm.frames + 1 ≤ R.frames) (hl : W + (maxL + 11) + rm.locals ≤ R.locals) {pc : Nat} {Ls : Array Slot} {st : List Value} (hsize : Ls.size = c.maxLocals) (hlen : ∀ sig, parseMethodDescriptor y.desc = some sig → argsL.length = sig.parameters.length) (hst : st = argsL.reverse ++ rest) (hW : (rest.map fun v => v.category).sum ≤ W) (hd : decode c.code pc = .ok (.invokestatic idx, 3)) (hc : cells + rm.cells ≤ R.cells) (hs : slots + rm.slots ≤ R.slots)
    (K : ∀ (T' : State) (v : Option Value) (L : List Loc), Stand p l e R s m args below meth c T' (locs ++ L) (cells + rm.cells) (slots + rm.slots) → Qc v T'.heap L → own_Run p e below s Q ck sk (T'.setTop (mkF m (pc + 3) Ls (v.toList ++ rest)))) :
    own_Run p e below s Q ck sk (T.setTop (mkF m pc Ls st)) := by
  obtain ⟨v, _, ⟨T', L', k', n'⟩, -, X', ⟨Lc, hQ, hl', hk', hn'⟩, st'⟩ := Jvm.LawKit.callS X hx (y := y) hown (mvT hZ w1) (mvT hZ w2) (mvT hZ wz) (mvT hZ w5) hy (backOf (W := W) hM hZ w5 wz hf hl) (g := mkF m pc Ls st) rfl hsize (argsL := argsL) (rest := rest) hlen hst (by show 2 * 0 + _ ≤ _; omega) hd (fun _ _ => ⟨rfl, eT, hc, hs⟩)
  dsimp only [Pt.U, Pt.locs, Pt.cells, Pt.slots] at X' hl' hk' hn' st' hQ
  subst hl' hk' hn'
  exact own_st st' (K T' v Lc X' hQ)
end OwnLayer
section OwnNums
open Jvm.FP Jvm.Free.Fl
theorem own_b53 (x : Int32) : B53 x.toInt64 := by
  have := x.le_toInt; have := x.toInt_lt
  unfold B53; rw [Int32.toInt_toInt64]; omega
theorem own_i64lt (x y : Int32) : x.toInt64 < y.toInt64 ↔ x < y := by
  rw [Int64.lt_iff_toInt_lt, Int32.lt_iff_toInt_lt, Int32.toInt_toInt64, Int32.toInt_toInt64]
theorem own_i64eq (x y : Int32) : x.toInt64 = y.toInt64 ↔ x = y := by
  rw [← Int64.toInt_inj, ← Int32.toInt_inj, Int32.toInt_toInt64, Int32.toInt_toInt64]
theorem own_dcmp_lt (x y : Int32) (o : CmpOp) : cmpValue (FP.dcmp (FP.i2d x) (FP.i2d y)) o < 0 ↔ x < y := by
  rw [i2d_w, i2d_w, dcmpV_w (own_b53 x) (own_b53 y), lw_lt, own_i64lt]
theorem own_dcmp_gt (x y : Int32) (o : CmpOp) : 0 < cmpValue (FP.dcmp (FP.i2d x) (FP.i2d y)) o ↔ y < x := by
  rw [i2d_w, i2d_w, dcmpV_w (own_b53 x) (own_b53 y), lw_gt, own_i64lt]
theorem own_dcmp_eq (x y : Int32) (o : CmpOp) : cmpValue (FP.dcmp (FP.i2d x) (FP.i2d y)) o = 0 ↔ x = y := by
  rw [i2d_w, i2d_w, dcmpV_w (own_b53 x) (own_b53 y), lw_eq, own_i64eq]
theorem own_sub_lt (x y : Int32) : lcmpW (x.toInt64 - y.toInt64) 0 < 0 ↔ x < y := by
  have h := sub64 (own_b53 x) (own_b53 y)
  rw [lw_lt, Int64.lt_iff_toInt_lt, Int32.lt_iff_toInt_lt, h, Int32.toInt_toInt64, Int32.toInt_toInt64]
  have : (0 : Int64).toInt = 0 := rfl
  omega
end OwnNums
section OwnWords
theorem own_eqint {args : Array Value} {first s : State} {o : Option Outcome} {idx : List Nat} {t : Term} {k : Int32} (h : (Jvm.Cond.eq t (.int k)).value args first o s idx = some true) : t.eval args first o idx s = some (.int k) := by
  simp only [Cond.value, Term.eval] at h
  cases ht : t.eval args first o idx s with
  | none => simp [ht] at h
  | some x => cases x <;> simp [ht] at h ⊢; exact h
end OwnWords
section OwnInts
theorem own_prod {a b : Int} {A B : Nat} (ha : a.natAbs ≤ A) (hb : b.natAbs ≤ B) : (a * b).natAbs ≤ A * B := by
  rw [Int.natAbs_mul]; exact Nat.mul_le_mul ha hb
theorem own_shr (x : Int32) : (x >>> ((11 : Int32) &&& 31)).toInt.natAbs ≤ 1048576 := by
  rw [c_ishr x 11 11 (by decide)]
  have := x.le_toInt; have := x.toInt_lt
  show (x.toInt / (2048 : Nat)).natAbs ≤ _
  omega
end OwnInts
section OwnFl
open Jvm.FP Jvm.Free.Fl
abbrev own_zv (a : UInt64) : Int := Core.zval Core.b64 (Core.val64 a)
abbrev own_zm (a : UInt64) : Nat := Core.zmag Core.b64 (Core.val64 a)
theorem own_one : (Core.one64 : Nat) = 2 ^ 1074 := rfl
theorem own_finnn {a : UInt64} (h : Core.DFin a) : NoNaN64 a := (fin64_core.mpr h).noNaN
theorem own_finne {a : UInt64} (h : Core.DFin a) : Core.val64 a ≠ .nan := h.ne_nan
theorem own_addle {a b V : UInt64} (ha : Core.DFin a) (hb : Core.DFin b) (hV : Core.val64 V ≠ .nan) (h : own_zv a + own_zv b ≤ own_zv V) : own_zv (FP.dadd a b) ≤ own_zv V := by
  show Core.zval Core.b64 (Core.val64 (Core.dadd a b)) ≤ _
  rw [Core.val64_dadd]
  exact Core.sum_le Core.good_b64 ha hb (Core.val64_fits a) (Core.val64_fits b) (Core.val64_fits V) hV h
theorem own_addge {a b V : UInt64} (ha : Core.DFin a) (hb : Core.DFin b) (hV : Core.val64 V ≠ .nan) (h : own_zv V ≤ own_zv a + own_zv b) : own_zv V ≤ own_zv (FP.dadd a b) := by
  show _ ≤ Core.zval Core.b64 (Core.val64 (Core.dadd a b))
  rw [Core.val64_dadd]
  exact Core.sum_ge Core.good_b64 ha hb (Core.val64_fits a) (Core.val64_fits b) (Core.val64_fits V) hV h
theorem own_negfin {b : UInt64} (hb : Core.DFin b) : ∃ s c q, Core.negate (Core.val64 b) = .fin s c q := by
  obtain ⟨s, c, q, h⟩ := hb
  exact ⟨!s, c, q, by rw [h]; rfl⟩
theorem own_suble {a b V : UInt64} (ha : Core.DFin a) (hb : Core.DFin b) (hV : Core.val64 V ≠ .nan) (h : own_zv a - own_zv b ≤ own_zv V) : own_zv (FP.dsub a b) ≤ own_zv V := by
  show Core.zval Core.b64 (Core.val64 (Core.dsub a b)) ≤ _
  rw [Core.val64_dsub]
  exact Core.sum_le Core.good_b64 ha (own_negfin hb) (Core.val64_fits a) (Core.negate_fits (Core.val64_fits b)) (Core.val64_fits V) hV (by rw [Core.zval_negate]; exact h)
theorem own_subge {a b V : UInt64} (ha : Core.DFin a) (hb : Core.DFin b) (hV : Core.val64 V ≠ .nan) (h : own_zv V ≤ own_zv a - own_zv b) : own_zv V ≤ own_zv (FP.dsub a b) := by
  show _ ≤ Core.zval Core.b64 (Core.val64 (Core.dsub a b))
  rw [Core.val64_dsub]
  exact Core.sum_ge Core.good_b64 ha (own_negfin hb) (Core.val64_fits a) (Core.negate_fits (Core.val64_fits b)) (Core.val64_fits V) hV (by rw [Core.zval_negate]; exact h)
theorem own_pow2q : (2 ^ (Core.b64.qmin - 2 * Core.b64.qmin).toNat : Nat) = Core.one64 := by
  rw [show Core.b64.qmin - 2 * Core.b64.qmin = -Core.b64.qmin by omega]; exact Core.pow_qmin64
theorem own_mulle {a b V : UInt64} (ha : Core.DFin a) (hb : Core.DFin b) (hV : Core.val64 V ≠ .nan) (h : own_zv a * own_zv b ≤ own_zv V * (Core.one64 : Int)) : own_zv (FP.dmul a b) ≤ own_zv V := by
  obtain ⟨s, c, q, ea⟩ := ha
  obtain ⟨t, d, r, eb⟩ := hb
  have fa := Core.val64_fits a
  have fb := Core.val64_fits b
  rw [ea] at fa; rw [eb] at fb
  obtain ⟨h1, h2, h3⟩ := Core.product_units fa fb
  show Core.zval Core.b64 (Core.val64 (Core.dmul a b)) ≤ _
  rw [Core.val64_dmul, ea, eb, h1]
  refine Core.zval_round_le Core.good_b64 (Core.val64_fits V) hV (e0 := 2 * Core.b64.qmin) (by decide) h2 ?_
  rw [h3, Core.signed_xor, own_pow2q]
  simp only [own_zv, ea, eb] at h
  exact h
theorem own_mulge {a b V : UInt64} (ha : Core.DFin a) (hb : Core.DFin b) (hV : Core.val64 V ≠ .nan) (h : own_zv V * (Core.one64 : Int) ≤ own_zv a * own_zv b) : own_zv V ≤ own_zv (FP.dmul a b) := by
  obtain ⟨s, c, q, ea⟩ := ha
  obtain ⟨t, d, r, eb⟩ := hb
  have fa := Core.val64_fits a
  have fb := Core.val64_fits b
  rw [ea] at fa; rw [eb] at fb
  obtain ⟨h1, h2, h3⟩ := Core.product_units fa fb
  show _ ≤ Core.zval Core.b64 (Core.val64 (Core.dmul a b))
  rw [Core.val64_dmul, ea, eb, h1]
  refine Core.zval_round_ge Core.good_b64 (Core.val64_fits V) hV (e0 := 2 * Core.b64.qmin) (by decide) h2 ?_
  rw [h3, Core.signed_xor, own_pow2q]
  simp only [own_zv, ea, eb] at h
  exact h
theorem own_divdat {a b : UInt64} (ha : Core.DFin a) (hb : Core.DFin b) (hz : own_zm b ≠ 0) : ∃ (s t : Bool) (c d : Nat) (q r : Int), Core.val64 a = .fin s c q ∧ Core.val64 b = .fin t d r ∧ 0 < d ∧ Core.b64.qmin ≤ q ∧ Core.b64.qmin ≤ r ∧ Core.val64 (FP.ddiv a b) = Core.roundRatio Core.b64 (s != t) c d (q - r) := by
  obtain ⟨s, c, q, ea⟩ := ha
  obtain ⟨t, d, r, eb⟩ := hb
  have fa := Core.val64_fits a
  have fb := Core.val64_fits b
  rw [ea] at fa; rw [eb] at fb
  have hd : d ≠ 0 := fun q => hz (by unfold own_zm; rw [eb, q]; show Core.inUnits 0 _ _ = 0; unfold Core.inUnits; exact Nat.zero_mul _)
  refine ⟨s, t, c, d, q, r, ea, eb, Nat.pos_of_ne_zero hd, fa.2.1, fb.2.1, ?_⟩
  show Core.val64 (Core.ddiv a b) = _
  rw [Core.val64_ddiv, ea, eb]
  show (if d = 0 then _ else _) = _
  rw [if_neg hd]
theorem own_divunits {c d : Nat} {q r : Int} (hq : Core.b64.qmin ≤ q) (hr : Core.b64.qmin ≤ r) : 2 * Core.b64.qmin - r ≤ Core.b64.qmin ∧ 2 * Core.b64.qmin - r ≤ q - r ∧ Core.inUnits c (q - r) (2 * Core.b64.qmin - r) = Core.inUnits c q Core.b64.qmin * Core.one64 ∧ ∀ m : Nat, m * 2 ^ (Core.b64.qmin - (2 * Core.b64.qmin - r)).toNat * d = m * Core.inUnits d r Core.b64.qmin := by
  have hqm : Core.b64.qmin = -1074 := Core.qmin_b64
  refine ⟨by omega, by omega, ?_, fun m => ?_⟩
  · unfold Core.inUnits
    rw [show (q - r - (2 * Core.b64.qmin - r)).toNat = (q - Core.b64.qmin).toNat + (-Core.b64.qmin).toNat by omega, Nat.pow_add, Core.pow_qmin64, Nat.mul_assoc]
  · unfold Core.inUnits
    rw [show (Core.b64.qmin - (2 * Core.b64.qmin - r)).toNat = (r - Core.b64.qmin).toNat by omega, Nat.mul_assoc, Nat.mul_comm d]
theorem own_divle {a b V : UInt64} (ha : Core.DFin a) (hb : Core.DFin b) (hz : own_zm b ≠ 0) (hV : Core.val64 V ≠ .nan) (h : own_zm a * Core.one64 ≤ own_zm V * own_zm b) : own_zm (FP.ddiv a b) ≤ own_zm V := by
  obtain ⟨s, t, c, d, q, r, ea, eb, hd, hq, hr, e⟩ := own_divdat ha hb hz
  obtain ⟨u1, u2, u3, u4⟩ := own_divunits (c := c) (d := d) hq hr
  unfold own_zm
  rw [e]
  refine Core.zmag_roundRatio_le Core.good_b64 hd (Core.val64_fits V) hV u1 u2 ?_
  rw [u3, u4]
  simp only [own_zm, ea, eb] at h
  exact h
theorem own_divge {a b V : UInt64} (ha : Core.DFin a) (hb : Core.DFin b) (hz : own_zm b ≠ 0) (h : own_zm V * own_zm b ≤ own_zm a * Core.one64) : own_zm V ≤ own_zm (FP.ddiv a b) := by
  obtain ⟨s, t, c, d, q, r, ea, eb, hd, hq, hr, e⟩ := own_divdat ha hb hz
  obtain ⟨u1, u2, u3, u4⟩ := own_divunits (c := c) (d := d) hq hr
  unfold own_zm
  rw [e]
  refine Core.zmag_roundRatio_ge Core.good_b64 hd (Core.val64_fits V) u1 u2 ?_
  rw [u3, u4]
  simp only [own_zm, ea, eb] at h
  exact h
theorem own_divsgn {a b : UInt64} (ha : Core.DFin a) (hb : Core.DFin b) (hz : own_zm b ≠ 0) : Core.sgn (Core.val64 (FP.ddiv a b)) = (Core.sgn (Core.val64 a) != Core.sgn (Core.val64 b)) ∧ Core.val64 (FP.ddiv a b) ≠ .nan := by
  obtain ⟨s, t, c, d, q, r, ea, eb, hd, hq, hr, e⟩ := own_divdat ha hb hz
  rw [e, ea, eb]
  exact ⟨Core.sgn_roundRatio _ _ _ _ _, Core.roundRatio_ne_nan _ _ _ _ _⟩
theorem own_fintop {a : UInt64} (hn : Core.val64 a ≠ .nan) (h : own_zm a < Core.b64.tails * 2 ^ (Core.b64.exps - 2)) : Core.DFin a := by
  cases e : Core.val64 a with
  | nan => exact absurd e hn
  | inf s => rw [own_zm, e] at h; exact absurd h (Nat.lt_irrefl _)
  | fin s c q => exact ⟨s, c, q, e⟩
theorem own_finle {a V : UInt64} (hn : Core.val64 a ≠ .nan) (hV : Core.DFin V) (h : own_zm a ≤ own_zm V) : Core.DFin a := own_fintop hn (Nat.lt_of_le_of_lt h hV.zval_lt)
theorem own_zmabs (a : UInt64) : (own_zv a).natAbs = own_zm a := Core.natAbs_signed _ _
theorem own_addne {a b : UInt64} (ha : Core.DFin a) (hb : Core.DFin b) : Core.val64 (FP.dadd a b) ≠ .nan := (Core.notNaN_iff _).mp (Core.dadd_out ha.notNaN hb)
theorem own_subne {a b : UInt64} (ha : Core.DFin a) (hb : Core.DFin b) : Core.val64 (FP.dsub a b) ≠ .nan := (Core.notNaN_iff _).mp (Core.dsub_out ha.notNaN hb)
theorem own_mulne {a b : UInt64} (ha : Core.DFin a) (hb : Core.DFin b) : Core.val64 (FP.dmul a b) ≠ .nan := (Core.notNaN_iff _).mp (Core.dmul_out ha hb)
theorem own_nnof {a : UInt64} (h : Core.val64 a ≠ .nan) : NoNaN64 a := val64_no.mpr h
/-- the double a is i times two to the power (j - 1074) -/
def own_Z (j : Nat) (i : Int) (a : UInt64) : Prop := Core.DFin a ∧ own_zv a = i * ((2 ^ j : Nat) : Int)
theorem own_rep (n : Int) (j : Nat) (hn : n.natAbs < 2 ^ 53) (hj : j ≤ 2045) : ∃ V, own_Z j n V := by
  have hqm : Core.b64.qmin = -1074 := Core.qmin_b64
  have hqx : Core.b64.qmax = 971 := by decide
  obtain ⟨c', q', h1, h2⟩ := Core.round_exact Core.good_b64 (decide (n < 0)) (c := n.natAbs) (q := Core.b64.qmin + j) hn (by omega) (by omega)
  have hv : Core.val64 (Core.of64 (Core.round Core.b64 (.fin (decide (n < 0)) n.natAbs (Core.b64.qmin + j)))) = .fin (decide (n < 0)) c' q' := by
    rw [Core.val64_of64 (Core.round_fits Core.good_b64 _), h1]
  refine ⟨_, ⟨_, _, _, hv⟩, ?_⟩
  unfold own_zv
  rw [hv]
  show Core.signed (decide (n < 0)) (Core.inUnits c' q' Core.b64.qmin) = _
  rw [h2]
  unfold Core.inUnits
  rw [show (Core.b64.qmin + (j : Int) - Core.b64.qmin).toNat = j by omega, Core.signed_mul]
  congr 1
  unfold Core.signed
  by_cases h : n < 0 <;> simp [h] <;> omega
theorem own_Z.nn {j : Nat} {i : Int} {a : UInt64} (h : own_Z j i a) : NoNaN64 a := own_finnn h.1
theorem own_Z.eqv {j : Nat} {i : Int} {a V : UInt64} (hV : own_Z j i V) (hn : Core.val64 a ≠ .nan) (h1 : own_zv a ≤ own_zv V) (h2 : own_zv V ≤ own_zv a) : own_Z j i a := by
  have e : own_zv a = own_zv V := Int.le_antisymm h1 h2
  refine ⟨own_finle hn hV.1 ?_, e.trans hV.2⟩
  rw [← own_zmabs, ← own_zmabs, e]; exact Nat.le_refl _
theorem own_Z.add {j : Nat} {i k : Int} {a b : UInt64} (ha : own_Z j i a) (hb : own_Z j k b) (hn : (i + k).natAbs < 2 ^ 53) (hj : j ≤ 2045 := by decide) : own_Z j (i + k) (FP.dadd a b) := by
  obtain ⟨V, hV⟩ := own_rep (i + k) j hn hj
  have e : own_zv a + own_zv b = own_zv V := by rw [ha.2, hb.2, hV.2, Int.add_mul]
  exact hV.eqv (own_addne ha.1 hb.1) (own_addle ha.1 hb.1 (own_finne hV.1) (Int.le_of_eq e)) (own_addge ha.1 hb.1 (own_finne hV.1) (Int.le_of_eq e.symm))
theorem own_Z.sub {j : Nat} {i k : Int} {a b : UInt64} (ha : own_Z j i a) (hb : own_Z j k b) (hn : (i - k).natAbs < 2 ^ 53) (hj : j ≤ 2045 := by decide) : own_Z j (i - k) (FP.dsub a b) := by
  obtain ⟨V, hV⟩ := own_rep (i - k) j hn hj
  have e : own_zv a - own_zv b = own_zv V := by rw [ha.2, hb.2, hV.2, Int.sub_mul]
  exact hV.eqv (own_subne ha.1 hb.1) (own_suble ha.1 hb.1 (own_finne hV.1) (Int.le_of_eq e)) (own_subge ha.1 hb.1 (own_finne hV.1) (Int.le_of_eq e.symm))
theorem own_Z.mul {j j' J : Nat} {i k : Int} {a b : UInt64} (ha : own_Z j i a) (hb : own_Z j' k b) (hn : (i * k).natAbs < 2 ^ 53) (hJ : J + 1074 = j + j' := by decide) (hj : J ≤ 2045 := by decide) : own_Z J (i * k) (FP.dmul a b) := by
  obtain ⟨V, hV⟩ := own_rep (i * k) J hn hj
  have e : own_zv a * own_zv b = own_zv V * (Core.one64 : Int) := by
    rw [ha.2, hb.2, hV.2, own_one, Int.mul_assoc (i * k), ← Int.natCast_mul, ← Nat.pow_add, hJ, Nat.pow_add, Int.natCast_mul]
    simp only [Int.mul_assoc, Int.mul_left_comm, Int.mul_comm]
  exact hV.eqv (own_mulne ha.1 hb.1) (own_mulle ha.1 hb.1 (own_finne hV.1) (Int.le_of_eq e)) (own_mulge ha.1 hb.1 (own_finne hV.1) (Int.le_of_eq e.symm))
theorem own_zmZ {j : Nat} {i : Int} {a : UInt64} (h : own_Z j i a) : own_zm a = i.natAbs * 2 ^ j := by
  rw [← own_zmabs, h.2, Int.natAbs_mul, Int.natAbs_natCast]
theorem own_Z.div {j j' J : Nat} {i m : Int} {a b : UInt64} (ha : own_Z j (i * m) a) (hb : own_Z j' m b) (hm : m ≠ 0) (hn : i.natAbs < 2 ^ 53) (hJ : J + j' = j + 1074 := by decide) (hj : J ≤ 2045 := by decide) : own_Z J i (FP.ddiv a b) := by
  obtain ⟨V, hV⟩ := own_rep i J hn hj
  have hb0 : own_zm b ≠ 0 := by
    rw [own_zmZ hb]
    exact Nat.mul_ne_zero (by omega) (Nat.ne_of_gt (Nat.two_pow_pos _))
  have e : own_zm a * Core.one64 = own_zm V * own_zm b := by
    rw [own_zmZ ha, own_zmZ hb, own_zmZ hV, own_one, Int.natAbs_mul, Nat.mul_assoc, ← Nat.pow_add, ← hJ, Nat.pow_add]
    simp only [Nat.mul_assoc, Nat.mul_left_comm, Nat.mul_comm]
  obtain ⟨hs, hne⟩ := own_divsgn ha.1 hb.1 hb0
  have em : own_zm (FP.ddiv a b) = own_zm V := Nat.le_antisymm (own_divle ha.1 hb.1 hb0 (own_finne hV.1) (Nat.le_of_eq e)) (own_divge ha.1 hb.1 hb0 (Nat.le_of_eq e.symm))
  refine ⟨own_finle hne hV.1 (Nat.le_of_eq em), ?_⟩
  have ev : own_zv (FP.ddiv a b) * own_zv b = own_zv a * (Core.one64 : Int) := by
    show Core.signed _ _ * Core.signed _ _ = Core.signed _ _ * _
    rw [← Core.signed_xor, hs, ← Core.signed_mul]
    have e2 : Core.zmag Core.b64 (Core.val64 (FP.ddiv a b)) * Core.zmag Core.b64 (Core.val64 b) = Core.zmag Core.b64 (Core.val64 a) * Core.one64 := by
      rw [show Core.zmag Core.b64 (Core.val64 (FP.ddiv a b)) = own_zm V from em]; exact e.symm
    rw [e2]
    cases Core.sgn (Core.val64 a) <;> cases Core.sgn (Core.val64 b) <;> rfl
  rw [ha.2, hb.2, own_one] at ev
  have hp : ((2 ^ j' : Nat) : Int) ≠ 0 := by have := Nat.two_pow_pos j'; omega
  refine Int.eq_of_mul_eq_mul_right (Int.mul_ne_zero hm hp) (ev.trans ?_)
  rw [Int.mul_assoc (i * m), ← Int.natCast_mul, ← Nat.pow_add, ← hJ, Nat.pow_add, Int.natCast_mul]
  simp only [Int.mul_assoc, Int.mul_left_comm, Int.mul_comm]
theorem own_Z.neg {j : Nat} {i : Int} {a : UInt64} (h : own_Z j i a) : own_Z j (-i) (FP.dneg a) := by
  refine ⟨?_, ?_⟩
  · obtain ⟨s, c, q, e⟩ := own_negfin h.1
    exact ⟨s, c, q, by rw [FP.val64_dneg]; exact e⟩
  · unfold own_zv
    rw [FP.val64_dneg, Core.zval_negate]
    have := h.2; unfold own_zv at this; rw [this, Int.neg_mul]
theorem own_Z.of_int {i : Int} {a : UInt64} (h : Core.DInt i a) : own_Z 1074 i a := by
  refine ⟨?_, Core.DInt_zval h⟩
  unfold Core.DInt at h
  cases e : Core.val64 a with
  | nan => rw [e] at h; exact h.elim
  | inf s => rw [e] at h; exact h.elim
  | fin s c q => exact ⟨s, c, q, e⟩
theorem own_Z.i2d (x : Int32) : own_Z 1074 x.toInt (FP.i2d x) := own_Z.of_int (Core.i2d_int x)
theorem own_Z.l2d {x : Int64} (h : x.toInt.natAbs ≤ 2 ^ 53) : own_Z 1074 x.toInt (FP.l2d x) := own_Z.of_int (Core.l2d_int h)
theorem own_Z.shift {j k : Nat} {i : Int} {a : UInt64} (h : own_Z (j + k) i a) : own_Z j (i * ((2 ^ k : Nat) : Int)) a := by
  refine ⟨h.1, h.2.trans ?_⟩
  rw [Nat.add_comm, Nat.pow_add, Int.natCast_mul, Int.mul_assoc]
theorem own_Z.cmp {j : Nat} {i k : Int} {a b : UInt64} (ha : own_Z j i a) (hb : own_Z j k b) : FP.dcmp a b = some (compare i k) := by
  have h := Core.dcmp_zval (own_finne ha.1) (own_finne hb.1)
  have h1 := ha.2; have h2 := hb.2
  unfold own_zv at h1 h2
  rw [h1, h2, Core.compare_mul_pos _ _ _ (by have := Nat.two_pow_pos j; omega)] at h
  exact h
theorem own_Z.cmpE {j : Nat} {i k : Int} {a b : UInt64} (ha : own_Z j i a) (hb : own_Z j k b) (h : i = k) (o : CmpOp) : cmpValue (FP.dcmp a b) o = 0 := by
  rw [ha.cmp hb, (Core.compare_eq_iff _ _).mpr h]; cases o <;> rfl
theorem own_Z.cmpL {j : Nat} {i k : Int} {a b : UInt64} (ha : own_Z j i a) (hb : own_Z j k b) (h : i < k) (o : CmpOp) : cmpValue (FP.dcmp a b) o = -1 := by
  rw [ha.cmp hb, (Core.compare_lt_iff _ _).mpr h]; cases o <;> rfl
theorem own_Z.cmpG {j : Nat} {i k : Int} {a b : UInt64} (ha : own_Z j i a) (hb : own_Z j k b) (h : k < i) (o : CmpOp) : cmpValue (FP.dcmp a b) o = 1 := by
  rw [ha.cmp hb, (Core.compare_gt_iff _ _).mpr h]; cases o <;> rfl
theorem own_Z.eq {j : Nat} {i k : Int} {a : UInt64} (ha : own_Z j i a) (h : i = k) : own_Z j k a := h ▸ ha
theorem own_mulb {a b : Int} {A B : Nat} (ha : a.natAbs ≤ A) (hb : b.natAbs ≤ B) : (a * b).natAbs ≤ A * B := by
  rw [Int.natAbs_mul]; exact Nat.mul_le_mul ha hb
theorem own_Z0 : own_Z 1074 0 0 := by
  refine ⟨⟨false, 0, Core.b64.qmin, by decide +kernel⟩, by decide +kernel⟩
theorem own_Z1 : own_Z 1074 1 4607182418800017408 := own_Z.of_int Core.dint_one
end OwnFl
section OwnDot
open Jvm.FP Jvm.Free.Fl
theorem own_dot3 {a1 a2 b1 b2 c1 c2 : UInt64} {i1 i2 j1 j2 k1 k2 : Int} (ha1 : own_Z 1074 i1 a1) (ha2 : own_Z 1074 i2 a2) (hb1 : own_Z 1074 j1 b1) (hb2 : own_Z 1074 j2 b2) (hc1 : own_Z 1074 k1 c1) (hc2 : own_Z 1074 k2 c2)
    (x1 : i1.natAbs ≤ 1048576) (x2 : i2.natAbs ≤ 1048576) (y1 : j1.natAbs ≤ 1048576) (y2 : j2.natAbs ≤ 1048576) (z1 : k1.natAbs ≤ 1048576) (z2 : k2.natAbs ≤ 1048576) :
    NoNaN64 (FP.dmul a1 a2) ∧ NoNaN64 (FP.dmul b1 b2) ∧ NoNaN64 (FP.dadd (FP.dmul a1 a2) (FP.dmul b1 b2)) ∧ NoNaN64 (FP.dmul c1 c2) ∧ NoNaN64 (FP.dadd (FP.dadd (FP.dmul a1 a2) (FP.dmul b1 b2)) (FP.dmul c1 c2)) ∧ own_Z 1074 (i1 * i2 + j1 * j2 + k1 * k2) (FP.dadd (FP.dadd (FP.dmul a1 a2) (FP.dmul b1 b2)) (FP.dmul c1 c2)) := by
  have p1 := own_prod x1 x2
  have p2 := own_prod y1 y2
  have p3 := own_prod z1 z2
  have A := ha1.mul ha2 (J := 1074) (by omega)
  have B := hb1.mul hb2 (J := 1074) (by omega)
  have C := hc1.mul hc2 (J := 1074) (by omega)
  have D := A.add B (by omega)
  have E := D.add C (by omega)
  exact ⟨A.nn, B.nn, D.nn, C.nn, E.nn, E⟩
theorem own_lsum {a1 a2 b1 b2 c1 c2 : Int64} (x1 : a1.toInt.natAbs ≤ 1048576) (x2 : a2.toInt.natAbs ≤ 1048576) (y1 : b1.toInt.natAbs ≤ 1048576) (y2 : b2.toInt.natAbs ≤ 1048576) (z1 : c1.toInt.natAbs ≤ 1048576) (z2 : c2.toInt.natAbs ≤ 1048576) :
    (a1 * a2 + b1 * b2 + c1 * c2).toInt = a1.toInt * a2.toInt + b1.toInt * b2.toInt + c1.toInt * c2.toInt ∧ (a1 * a2 + b1 * b2 + c1 * c2).toInt.natAbs ≤ 2 ^ 53 := by
  have p1 := own_prod x1 x2
  have p2 := own_prod y1 y2
  have p3 := own_prod z1 z2
  have e1 := Core.int64_mul (a := a1) (b := a2) (by omega) (by omega)
  have e2 := Core.int64_mul (a := b1) (b := b2) (by omega) (by omega)
  have e3 := Core.int64_mul (a := c1) (b := c2) (by omega) (by omega)
  have e4 := Core.int64_add (a := a1 * a2) (b := b1 * b2) (by omega) (by omega)
  have e5 := Core.int64_add (a := a1 * a2 + b1 * b2) (b := c1 * c2) (by omega) (by omega)
  omega
end OwnDot
theorem own_d2_0 : decode jdk_30_method_1_code 0 = .ok (.aload_n 0, 1) := by decide +kernel
theorem own_d2_1 : decode jdk_30_method_1_code 1 = .ok (.invokespecial 1, 3) := by decide +kernel
theorem own_d2_4 : decode jdk_30_method_1_code 4 = .ok (.return_, 1) := by decide +kernel
set_option maxHeartbeats 4000000 in
theorem own_ef2 (m : MethodId) (x0 : Addr) : entryFrame m #[(.ref x0)] 1 = mkF m 0 #[.val (.ref x0)] [] := by first | (simp [entryFrame, mkF, argsToLocals, Value.category]; done) | rfl
theorem own_pn0 : plainName "java/lang/Record" = true := by first | (simp [plainName, overriddenIn]; done) | decide +kernel
def own_Q2 (Z : State) (a0 : Array Value) (o0 : Addr) (h0 : Heap) (n0 : Nat) (v : Option Value) (h : Heap) (L : List Loc) : Prop := v = none ∧ Fr n0 L ∧ h = h0
set_option maxRecDepth 65536 in
set_option maxHeartbeats 40000000 in
theorem own_rm2 (l : Launch) (Z : State) (a0 : Array Value) (hw : ∀ d ∈ tables_1, d.before a0 Z = true) (ws : List Jvm.Cond) (o0 : Addr) (h0 : Heap) (n0 : Nat) (Z0 : n0 ≤ h0.size) :
    MetFree l (⟨"java/lang/Record", "<init>", "()V"⟩ : MethodName) (head1 (Jvm.Cond.code (⟨"java/lang/Record", "<init>", "()V"⟩ : MethodName) jdk_30_method_1_code 1 none :: ws) ({ frames := 1, cells := 0, slots := 0, locals := 12 } : Room)) (fun a U => a = #[(.ref o0)] ∧ Z.Warmed39 U.vm ∧ U.heap = h0) (fun _ _ _ _ _ => True) (fun _ U o U' => ∃ v L, o = .returned v ∧ own_Q2 Z a0 o0 h0 n0 v U'.heap L ∧ FrameEnd U o U' L ({ frames := 1, cells := 0, slots := 0, locals := 12 } : Room).cells ({ frames := 1, cells := 0, slots := 0, locals := 12 } : Room).slots) := by
  refine own_body (Q := fun v h L => own_Q2 Z a0 o0 h0 n0 v h L) (plainFor_of_name own_pn0) ?_
  intro p e s m below meth c s₁ hx hby hml hZ hown hnm hret hlk X0 e0
  replace hml : c.maxLocals = 1 := hml
  have N0 := Fr.nil n0
  have K0 : Keep h0 h0 [] := Keep.refl _ _
  refine own_st (fun t k => castTop (own_ef2 m o0) k) ?_
  show own_Run p e below s _ _ _ (s₁.setTop (mkF m 0 #[.val (.ref o0)] []))
  refine own_st (fun t k => XS.aloadN X0.here hx rfl (hb hby own_d2_0) rfl rfl k) ?_
  show own_Run p e below s _ _ _ (s₁.setTop (mkF m 1 #[.val (.ref o0)] [(.ref o0)]))
  obtain ⟨T1, X1, e1, st1⟩ := initO X0 hx hZ hown (hw _ (List.mem_of_getElem? (i := 11) rfl)) (hw _ (List.mem_of_getElem? (i := 12) rfl)) (hw _ (List.mem_of_getElem? (i := 13) rfl)) e0 (g := (mkF m 1 #[.val (.ref o0)] [(.ref o0)])) rfl (by rw [hml]; rfl) rfl (hb hby own_d2_1) (by decide) (W := 0) (by show 2 * 0 + _ ≤ _; exact Nat.le_of_eq rfl) (by decide)
  refine own_st st1 ?_
  show own_Run p e below s _ _ _ (T1.setTop (mkF m 4 #[.val (.ref o0)] []))
  exact own_retV X1 hx hlk hret (hb hby own_d2_4) (by decide) (by decide) ⟨rfl, N0, e1⟩
theorem own_d1_0 : decode prog_93_method_1_code 0 = .ok (.aload_n 0, 1) := by decide +kernel
theorem own_d1_1 : decode prog_93_method_1_code 1 = .ok (.invokespecial 1, 3) := by decide +kernel
theorem own_pd1 : parseMethodDescriptor "()V" = some ⟨[], none⟩ := by decide +kernel
theorem own_d1_4 : decode prog_93_method_1_code 4 = .ok (.aload_n 0, 1) := by decide +kernel
theorem own_d1_5 : decode prog_93_method_1_code 5 = .ok (.dload_n 1, 1) := by decide +kernel
theorem own_d1_6 : decode prog_93_method_1_code 6 = .ok (.putfield 7, 3) := by decide +kernel
theorem own_d1_9 : decode prog_93_method_1_code 9 = .ok (.aload_n 0, 1) := by decide +kernel
theorem own_d1_10 : decode prog_93_method_1_code 10 = .ok (.dload_n 3, 1) := by decide +kernel
theorem own_d1_11 : decode prog_93_method_1_code 11 = .ok (.putfield 13, 3) := by decide +kernel
theorem own_d1_14 : decode prog_93_method_1_code 14 = .ok (.aload_n 0, 1) := by decide +kernel
theorem own_d1_15 : decode prog_93_method_1_code 15 = .ok (.dload 5, 2) := by decide +kernel
theorem own_d1_17 : decode prog_93_method_1_code 17 = .ok (.putfield 16, 3) := by decide +kernel
theorem own_d1_20 : decode prog_93_method_1_code 20 = .ok (.return_, 1) := by decide +kernel
set_option maxHeartbeats 4000000 in
theorem own_ef1 (m : MethodId) (x0 : Addr) (x1 : UInt64) (x2 : UInt64) (x3 : UInt64) : entryFrame m #[(.ref x0), (.double x1), (.double x2), (.double x3)] 7 = mkF m 0 #[.val (.ref x0), .val (.double x1), .second, .val (.double x2), .second, .val (.double x3), .second] [] := by first | (simp [entryFrame, mkF, argsToLocals, Value.category]; done) | rfl
theorem own_pn2 : plainName "com/example/helioslope/helioslope/terrain/Direction" = true := by first | (simp [plainName, overriddenIn]; done) | decide +kernel
def own_Q1 (Z : State) (a0 : Array Value) (a0_ : Addr) (d1 : UInt64) (d2 : UInt64) (d3 : UInt64) (h0 : Heap) (n0 : Nat) (v : Option Value) (h : Heap) (L : List Loc) : Prop := v = none ∧ Fr n0 L ∧ Keep h0 h [a0_] ∧ Exa Z h a0_ "com/example/helioslope/helioslope/terrain/Direction" ∧ Fld Z h a0_ "com/example/helioslope/helioslope/terrain/Direction" "east" "D" (.double d1) ∧ Fld Z h a0_ "com/example/helioslope/helioslope/terrain/Direction" "north" "D" (.double d2) ∧ Fld Z h a0_ "com/example/helioslope/helioslope/terrain/Direction" "up" "D" (.double d3)
set_option maxRecDepth 65536 in
set_option maxHeartbeats 40000000 in
theorem own_rm1 (l : Launch) (Z : State) (a0 : Array Value) (hw : ∀ d ∈ tables_1, d.before a0 Z = true) (ws : List Jvm.Cond) (a0_ : Addr) (d1 : UInt64) (d2 : UInt64) (d3 : UInt64) (h0 : Heap) (n0 : Nat) (Z0 : n0 ≤ h0.size) (E0 : Exa Z h0 a0_ "com/example/helioslope/helioslope/terrain/Direction") (D0 : ∀ {O nm d : String} {ty : FieldType}, Laid Z a0 "com/example/helioslope/helioslope/terrain/Direction" O nm d → parseFieldDescriptor d = some ty → Fld Z h0 a0_ O nm d (defaultValue ty)) (G0 : n0 ≤ a0_) :
    MetFree l (⟨"com/example/helioslope/helioslope/terrain/Direction", "<init>", "(DDD)V"⟩ : MethodName) (head1 (Jvm.Cond.code (⟨"com/example/helioslope/helioslope/terrain/Direction", "<init>", "(DDD)V"⟩ : MethodName) prog_93_method_1_code 7 none :: ws) ({ frames := 2, cells := 0, slots := 0, locals := 24 } : Room)) (fun a U => a = #[(.ref a0_), (.double d1), (.double d2), (.double d3)] ∧ Z.Warmed39 U.vm ∧ U.heap = h0) (fun _ _ _ _ _ => True) (fun _ U o U' => ∃ v L, o = .returned v ∧ own_Q1 Z a0 a0_ d1 d2 d3 h0 n0 v U'.heap L ∧ FrameEnd U o U' L ({ frames := 2, cells := 0, slots := 0, locals := 24 } : Room).cells ({ frames := 2, cells := 0, slots := 0, locals := 24 } : Room).slots) := by
  refine own_body (Q := fun v h L => own_Q1 Z a0 a0_ d1 d2 d3 h0 n0 v h L) (plainFor_of_name own_pn2) ?_
  intro p e s m below meth c s₁ hx hby hml hZ hown hnm hret hlk X0 e0
  replace hml : c.maxLocals = 7 := hml
  have N0 := Fr.nil n0
  have K0 : Keep h0 h0 [a0_] := Keep.refl _ _
  refine own_st (fun t k => castTop (own_ef1 m a0_ d1 d2 d3) k) ?_
  show own_Run p e below s _ _ _ (s₁.setTop (mkF m 0 #[.val (.ref a0_), .val (.double d1), .second, .val (.double d2), .second, .val (.double d3), .second] []))
  refine own_st (fun t k => XS.aloadN X0.here hx rfl (hb hby own_d1_0) rfl rfl k) ?_
  show own_Run p e below s _ _ _ (s₁.setTop (mkF m 1 #[.val (.ref a0_), .val (.double d1), .second, .val (.double d2), .second, .val (.double d3), .second] [(.ref a0_)]))
  refine own_callI X0 hx hZ (y := (⟨"java/lang/Record", "<init>", "()V"⟩ : MethodName)) rfl hown (hw _ (List.mem_of_getElem? (i := 6) rfl)) (hw _ (List.mem_of_getElem? (i := 7) rfl)) (hw _ (List.mem_of_getElem? (i := 10) rfl)) (hw _ (List.mem_of_getElem? (i := 9) rfl)) (by decide) e0 (a := a0_) (argsL := []) (rest := []) (W := 0) (own_rm2 l Z a0 hw [] a0_ h0 n0 (Nat.le_trans Z0 K0.1) ) (by decide) (by decide) (by rw [hml]; rfl) (lenOf own_pd1 rfl) rfl (by exact Nat.le_of_eq rfl) (hb hby own_d1_1) (by decide) (by decide) ?_
  intro T2 v2 L2 X2 hq2
  obtain ⟨rfl, N2q, hh2⟩ := hq2
  have N2 := Fr.app N0 N2q
  show own_Run p e below s _ _ _ (T2.setTop (mkF m 4 #[.val (.ref a0_), .val (.double d1), .second, .val (.double d2), .second, .val (.double d3), .second] []))
  refine own_st (fun t k => XS.aloadN X2.here hx rfl (hb hby own_d1_4) rfl rfl k) ?_
  show own_Run p e below s _ _ _ (T2.setTop (mkF m 5 #[.val (.ref a0_), .val (.double d1), .second, .val (.double d2), .second, .val (.double d3), .second] [(.ref a0_)]))
  refine own_st (fun t k => XS.dloadN X2.here hx rfl (hb hby own_d1_5) rfl k) ?_
  show own_Run p e below s _ _ _ (T2.setTop (mkF m 6 #[.val (.ref a0_), .val (.double d1), .second, .val (.double d2), .second, .val (.double d3), .second] [(.double d1), (.ref a0_)]))
  have F3 : Fld Z _ a0_ "com/example/helioslope/helioslope/terrain/Direction" "east" "D" (.double (0 : UInt64)) := D0 (Or.inr (hw _ (List.mem_of_getElem? (i := 15) rfl))) (ty := .double) (by decide)
  obtain ⟨T4, h4, X4, e4, W4, st4⟩ := putF X2 hx hZ hown (host := "") (Or.inl (hw _ (List.mem_of_getElem? (i := 14) rfl))) Via.refl hh2 F3 E0 (Or.inr ⟨(hw _ (List.mem_of_getElem? (i := 15) rfl)), rfl, hnm⟩) (hw _ (List.mem_of_getElem? (i := 1) rfl)) (ty := .double) (by decide) rfl rfl (g := (mkF m 6 #[.val (.ref a0_), .val (.double d1), .second, .val (.double d2), .second, .val (.double d3), .second] [(.double d1), (.ref a0_)])) rfl rfl (hb hby own_d1_6)
  refine own_st st4 ?_
  have Fw4 := F3.same W4
  have N4 := Fr.snoc X4 N2 G0
  have K5 : Keep h0 h4 [a0_] := K0.wr W4 (Or.inl (List.mem_of_getElem? (i := 0) rfl))
  show own_Run p e below s _ _ _ (T4.setTop (mkF m 9 #[.val (.ref a0_), .val (.double d1), .second, .val (.double d2), .second, .val (.double d3), .second] []))
  refine own_st (fun t k => XS.aloadN X4.here hx rfl (hb hby own_d1_9) rfl rfl k) ?_
  show own_Run p e below s _ _ _ (T4.setTop (mkF m 10 #[.val (.ref a0_), .val (.double d1), .second, .val (.double d2), .second, .val (.double d3), .second] [(.ref a0_)]))
  refine own_st (fun t k => XS.dloadN X4.here hx rfl (hb hby own_d1_10) rfl k) ?_
  show own_Run p e below s _ _ _ (T4.setTop (mkF m 11 #[.val (.ref a0_), .val (.double d1), .second, .val (.double d2), .second, .val (.double d3), .second] [(.double d2), (.ref a0_)]))
  have E7 := (E0.wr W4)
  have F8 : Fld Z _ a0_ "com/example/helioslope/helioslope/terrain/Direction" "north" "D" (.double (0 : UInt64)) := D0 (Or.inr (hw _ (List.mem_of_getElem? (i := 17) rfl))) (ty := .double) (by decide)
  have F9 := (F8.other W4 (Or.inr (slot_ne (Or.inr (hw _ (List.mem_of_getElem? (i := 17) rfl))) (Or.inr (hw _ (List.mem_of_getElem? (i := 15) rfl))) (by decide) (t := .double) (t' := .double) (by decide) (by decide))))
  obtain ⟨T10, h10, X10, e10, W10, st10⟩ := putF X4 hx hZ hown (host := "") (Or.inl (hw _ (List.mem_of_getElem? (i := 16) rfl))) Via.refl e4 F9 E7 (Or.inr ⟨(hw _ (List.mem_of_getElem? (i := 17) rfl)), rfl, hnm⟩) (hw _ (List.mem_of_getElem? (i := 1) rfl)) (ty := .double) (by decide) rfl rfl (g := (mkF m 11 #[.val (.ref a0_), .val (.double d1), .second, .val (.double d2), .second, .val (.double d3), .second] [(.double d2), (.ref a0_)])) rfl rfl (hb hby own_d1_11)
  refine own_st st10 ?_
  have Fw10 := F9.same W10
  have N10 := Fr.snoc X10 N4 G0
  have K11 : Keep h0 h10 [a0_] := K5.wr W10 (Or.inl (List.mem_of_getElem? (i := 0) rfl))
  show own_Run p e below s _ _ _ (T10.setTop (mkF m 14 #[.val (.ref a0_), .val (.double d1), .second, .val (.double d2), .second, .val (.double d3), .second] []))
  refine own_st (fun t k => XS.aloadN X10.here hx rfl (hb hby own_d1_14) rfl rfl k) ?_
  show own_Run p e below s _ _ _ (T10.setTop (mkF m 15 #[.val (.ref a0_), .val (.double d1), .second, .val (.double d2), .second, .val (.double d3), .second] [(.ref a0_)]))
  refine own_st (fun t k => XS.dload X10.here hx rfl (hb hby own_d1_15) rfl k) ?_
  show own_Run p e below s _ _ _ (T10.setTop (mkF m 17 #[.val (.ref a0_), .val (.double d1), .second, .val (.double d2), .second, .val (.double d3), .second] [(.double d3), (.ref a0_)]))
  have E13 := (E7.wr W10)
  have F14 : Fld Z _ a0_ "com/example/helioslope/helioslope/terrain/Direction" "up" "D" (.double (0 : UInt64)) := D0 (Or.inr (hw _ (List.mem_of_getElem? (i := 19) rfl))) (ty := .double) (by decide)
  have F15 := ((F14.other W4 (Or.inr (slot_ne (Or.inr (hw _ (List.mem_of_getElem? (i := 19) rfl))) (Or.inr (hw _ (List.mem_of_getElem? (i := 15) rfl))) (by decide) (t := .double) (t' := .double) (by decide) (by decide)))).other W10 (Or.inr (slot_ne (Or.inr (hw _ (List.mem_of_getElem? (i := 19) rfl))) (Or.inr (hw _ (List.mem_of_getElem? (i := 17) rfl))) (by decide) (t := .double) (t' := .double) (by decide) (by decide))))
  obtain ⟨T16, h16, X16, e16, W16, st16⟩ := putF X10 hx hZ hown (host := "") (Or.inl (hw _ (List.mem_of_getElem? (i := 18) rfl))) Via.refl e10 F15 E13 (Or.inr ⟨(hw _ (List.mem_of_getElem? (i := 19) rfl)), rfl, hnm⟩) (hw _ (List.mem_of_getElem? (i := 1) rfl)) (ty := .double) (by decide) rfl rfl (g := (mkF m 17 #[.val (.ref a0_), .val (.double d1), .second, .val (.double d2), .second, .val (.double d3), .second] [(.double d3), (.ref a0_)])) rfl rfl (hb hby own_d1_17)
  refine own_st st16 ?_
  have Fw16 := F15.same W16
  have N16 := Fr.snoc X16 N10 G0
  have K17 : Keep h0 h16 [a0_] := K11.wr W16 (Or.inl (List.mem_of_getElem? (i := 0) rfl))
  show own_Run p e below s _ _ _ (T16.setTop (mkF m 20 #[.val (.ref a0_), .val (.double d1), .second, .val (.double d2), .second, .val (.double d3), .second] []))
  have hQe := e16
  subst hQe
  have E19 := (E13.wr W16)
  have F20 := ((Fw4.other W10 (Or.inr (slot_ne (Or.inr (hw _ (List.mem_of_getElem? (i := 15) rfl))) (Or.inr (hw _ (List.mem_of_getElem? (i := 17) rfl))) (by decide) (t := .double) (t' := .double) (by decide) (by decide)))).other W16 (Or.inr (slot_ne (Or.inr (hw _ (List.mem_of_getElem? (i := 15) rfl))) (Or.inr (hw _ (List.mem_of_getElem? (i := 19) rfl))) (by decide) (t := .double) (t' := .double) (by decide) (by decide))))
  have F21 := (Fw10.other W16 (Or.inr (slot_ne (Or.inr (hw _ (List.mem_of_getElem? (i := 17) rfl))) (Or.inr (hw _ (List.mem_of_getElem? (i := 19) rfl))) (by decide) (t := .double) (t' := .double) (by decide) (by decide))))
  exact own_retV X16 hx hlk hret (hb hby own_d1_20) (by decide) (by decide) ⟨rfl, N16, K17, E19, F20, F21, Fw16⟩
theorem own_d4_0 : decode prog_93_method_4_code 0 = .ok (.aload_n 0, 1) := by decide +kernel
theorem own_d4_1 : decode prog_93_method_4_code 1 = .ok (.getfield 16, 3) := by decide +kernel
theorem own_d4_4 : decode prog_93_method_4_code 4 = .ok (.aload_n 1, 1) := by decide +kernel
theorem own_d4_5 : decode prog_93_method_4_code 5 = .ok (.getfield 16, 3) := by decide +kernel
theorem own_d4_8 : decode prog_93_method_4_code 8 = .ok (.dmul, 1) := by decide +kernel
theorem own_d4_9 : decode prog_93_method_4_code 9 = .ok (.aload_n 0, 1) := by decide +kernel
theorem own_d4_10 : decode prog_93_method_4_code 10 = .ok (.getfield 13, 3) := by decide +kernel
theorem own_d4_13 : decode prog_93_method_4_code 13 = .ok (.aload_n 1, 1) := by decide +kernel
theorem own_d4_14 : decode prog_93_method_4_code 14 = .ok (.getfield 13, 3) := by decide +kernel
theorem own_d4_17 : decode prog_93_method_4_code 17 = .ok (.dmul, 1) := by decide +kernel
theorem own_d4_18 : decode prog_93_method_4_code 18 = .ok (.dadd, 1) := by decide +kernel
theorem own_d4_19 : decode prog_93_method_4_code 19 = .ok (.aload_n 0, 1) := by decide +kernel
theorem own_d4_20 : decode prog_93_method_4_code 20 = .ok (.getfield 7, 3) := by decide +kernel
theorem own_d4_23 : decode prog_93_method_4_code 23 = .ok (.aload_n 1, 1) := by decide +kernel
theorem own_d4_24 : decode prog_93_method_4_code 24 = .ok (.getfield 7, 3) := by decide +kernel
theorem own_d4_27 : decode prog_93_method_4_code 27 = .ok (.dmul, 1) := by decide +kernel
theorem own_d4_28 : decode prog_93_method_4_code 28 = .ok (.dadd, 1) := by decide +kernel
theorem own_d4_29 : decode prog_93_method_4_code 29 = .ok (.dreturn, 1) := by decide +kernel
set_option maxHeartbeats 4000000 in
theorem own_ef4 (m : MethodId) (x0 : Addr) (x1 : Addr) : entryFrame m #[(.ref x0), (.ref x1)] 2 = mkF m 0 #[.val (.ref x0), .val (.ref x1)] [] := by first | (simp [entryFrame, mkF, argsToLocals, Value.category]; done) | rfl
def own_Q4 (Z : State) (a0 : Array Value) (o0 : Addr) (o1 : Addr) (east0 : UInt64) (north0 : UInt64) (up0 : UInt64) (east1 : UInt64) (north1 : UInt64) (up1 : UInt64) (h0 : Heap) (n0 : Nat) (v : Option Value) (h : Heap) (L : List Loc) : Prop := v = some (.double (FP.dadd (FP.dadd (FP.dmul up0 up1) (FP.dmul north0 north1)) (FP.dmul east0 east1))) ∧ Fr n0 L ∧ h = h0
set_option maxRecDepth 65536 in
set_option maxHeartbeats 40000000 in
theorem own_rm4 (l : Launch) (Z : State) (a0 : Array Value) (hw : ∀ d ∈ tables_1, d.before a0 Z = true) (ws : List Jvm.Cond) (o0 : Addr) (o1 : Addr) (east0 : UInt64) (north0 : UInt64) (up0 : UInt64) (east1 : UInt64) (north1 : UInt64) (up1 : UInt64) (h0 : Heap) (n0 : Nat) (Z0 : n0 ≤ h0.size) (F0_east : Fld Z h0 o0 "com/example/helioslope/helioslope/terrain/Direction" "east" "D" (.double east0)) (F0_north : Fld Z h0 o0 "com/example/helioslope/helioslope/terrain/Direction" "north" "D" (.double north0)) (F0_up : Fld Z h0 o0 "com/example/helioslope/helioslope/terrain/Direction" "up" "D" (.double up0)) (F1_east : Fld Z h0 o1 "com/example/helioslope/helioslope/terrain/Direction" "east" "D" (.double east1)) (F1_north : Fld Z h0 o1 "com/example/helioslope/helioslope/terrain/Direction" "north" "D" (.double north1)) (F1_up : Fld Z h0 o1 "com/example/helioslope/helioslope/terrain/Direction" "up" "D" (.double up1)) (pn0 : Jvm.Free.Fl.NoNaN64 (FP.dmul up0 up1)) (pn1 : Jvm.Free.Fl.NoNaN64 (FP.dmul north0 north1)) (pn2 : Jvm.Free.Fl.NoNaN64 (FP.dadd (FP.dmul up0 up1) (FP.dmul north0 north1))) (pn3 : Jvm.Free.Fl.NoNaN64 (FP.dmul east0 east1)) (pn4 : Jvm.Free.Fl.NoNaN64 (FP.dadd (FP.dadd (FP.dmul up0 up1) (FP.dmul north0 north1)) (FP.dmul east0 east1))) :
    MetFree l (⟨"com/example/helioslope/helioslope/terrain/Direction", "cos", "(Lcom/example/helioslope/helioslope/terrain/Direction;)D"⟩ : MethodName) (head1 (Jvm.Cond.code (⟨"com/example/helioslope/helioslope/terrain/Direction", "cos", "(Lcom/example/helioslope/helioslope/terrain/Direction;)D"⟩ : MethodName) prog_93_method_4_code 2 (some .double) :: ws) ({ frames := 0, cells := 0, slots := 0, locals := 0 } : Room)) (fun a U => a = #[(.ref o0), (.ref o1)] ∧ Z.Warmed39 U.vm ∧ U.heap = h0) (fun _ _ _ _ _ => True) (fun _ U o U' => ∃ v L, o = .returned v ∧ own_Q4 Z a0 o0 o1 east0 north0 up0 east1 north1 up1 h0 n0 v U'.heap L ∧ FrameEnd U o U' L ({ frames := 0, cells := 0, slots := 0, locals := 0 } : Room).cells ({ frames := 0, cells := 0, slots := 0, locals := 0 } : Room).slots) := by
  refine own_body (Q := fun v h L => own_Q4 Z a0 o0 o1 east0 north0 up0 east1 north1 up1 h0 n0 v h L) (plainFor_of_name own_pn2) ?_
  intro p e s m below meth c s₁ hx hby hml hZ hown hnm hret hlk X0 e0
  replace hml : c.maxLocals = 2 := hml
  have N0 := Fr.nil n0
  have K0 : Keep h0 h0 [] := Keep.refl _ _
  refine own_st (fun t k => castTop (own_ef4 m o0 o1) k) ?_
  show own_Run p e below s _ _ _ (s₁.setTop (mkF m 0 #[.val (.ref o0), .val (.ref o1)] []))
  refine own_st (fun t k => XS.aloadN X0.here hx rfl (hb hby own_d4_0) rfl rfl k) ?_
  show own_Run p e below s _ _ _ (s₁.setTop (mkF m 1 #[.val (.ref o0), .val (.ref o1)] [(.ref o0)]))
  obtain ⟨T22, X22, e22, st22⟩ := getF X0 hx hZ hown (host := "") (Or.inl (hw _ (List.mem_of_getElem? (i := 18) rfl))) Via.refl e0 F0_up (g := (mkF m 1 #[.val (.ref o0), .val (.ref o1)] [(.ref o0)])) rfl rfl (hb hby own_d4_1)
  refine own_st st22 ?_
  show own_Run p e below s _ _ _ (T22.setTop (mkF m 4 #[.val (.ref o0), .val (.ref o1)] [(.double up0)]))
  refine own_st (fun t k => XS.aloadN X22.here hx rfl (hb hby own_d4_4) rfl rfl k) ?_
  show own_Run p e below s _ _ _ (T22.setTop (mkF m 5 #[.val (.ref o0), .val (.ref o1)] [(.ref o1), (.double up0)]))
  obtain ⟨T23, X23, e23, st23⟩ := getF X22 hx hZ hown (host := "") (Or.inl (hw _ (List.mem_of_getElem? (i := 18) rfl))) Via.refl e22 F1_up (g := (mkF m 5 #[.val (.ref o0), .val (.ref o1)] [(.ref o1), (.double up0)])) rfl rfl (hb hby own_d4_5)
  refine own_st st23 ?_
  show own_Run p e below s _ _ _ (T23.setTop (mkF m 8 #[.val (.ref o0), .val (.ref o1)] [(.double up1), (.double up0)]))
  refine own_st (fun t k => XS.dmulS X23.here hx rfl (hb hby own_d4_8) rfl (pn0) (v := (FP.dmul up0 up1)) (rfl) k) ?_
  show own_Run p e below s _ _ _ (T23.setTop (mkF m 9 #[.val (.ref o0), .val (.ref o1)] [(.double (FP.dmul up0 up1))]))
  refine own_st (fun t k => XS.aloadN X23.here hx rfl (hb hby own_d4_9) rfl rfl k) ?_
  show own_Run p e below s _ _ _ (T23.setTop (mkF m 10 #[.val (.ref o0), .val (.ref o1)] [(.ref o0), (.double (FP.dmul up0 up1))]))
  obtain ⟨T24, X24, e24, st24⟩ := getF X23 hx hZ hown (host := "") (Or.inl (hw _ (List.mem_of_getElem? (i := 16) rfl))) Via.refl e23 F0_north (g := (mkF m 10 #[.val (.ref o0), .val (.ref o1)] [(.ref o0), (.double (FP.dmul up0 up1))])) rfl rfl (hb hby own_d4_10)
  refine own_st st24 ?_
  show own_Run p e below s _ _ _ (T24.setTop (mkF m 13 #[.val (.ref o0), .val (.ref o1)] [(.double north0), (.double (FP.dmul up0 up1))]))
  refine own_st (fun t k => XS.aloadN X24.here hx rfl (hb hby own_d4_13) rfl rfl k) ?_
  show own_Run p e below s _ _ _ (T24.setTop (mkF m 14 #[.val (.ref o0), .val (.ref o1)] [(.ref o1), (.double north0), (.double (FP.dmul up0 up1))]))
  obtain ⟨T25, X25, e25, st25⟩ := getF X24 hx hZ hown (host := "") (Or.inl (hw _ (List.mem_of_getElem? (i := 16) rfl))) Via.refl e24 F1_north (g := (mkF m 14 #[.val (.ref o0), .val (.ref o1)] [(.ref o1), (.double north0), (.double (FP.dmul up0 up1))])) rfl rfl (hb hby own_d4_14)
  refine own_st st25 ?_
  show own_Run p e below s _ _ _ (T25.setTop (mkF m 17 #[.val (.ref o0), .val (.ref o1)] [(.double north1), (.double north0), (.double (FP.dmul up0 up1))]))
  refine own_st (fun t k => XS.dmulS X25.here hx rfl (hb hby own_d4_17) rfl (pn1) (v := (FP.dmul north0 north1)) (rfl) k) ?_
  show own_Run p e below s _ _ _ (T25.setTop (mkF m 18 #[.val (.ref o0), .val (.ref o1)] [(.double (FP.dmul north0 north1)), (.double (FP.dmul up0 up1))]))
  refine own_st (fun t k => XS.daddS X25.here hx rfl (hb hby own_d4_18) rfl (pn2) (v := (FP.dadd (FP.dmul up0 up1) (FP.dmul north0 north1))) (rfl) k) ?_
  show own_Run p e below s _ _ _ (T25.setTop (mkF m 19 #[.val (.ref o0), .val (.ref o1)] [(.double (FP.dadd (FP.dmul up0 up1) (FP.dmul north0 north1)))]))
  refine own_st (fun t k => XS.aloadN X25.here hx rfl (hb hby own_d4_19) rfl rfl k) ?_
  show own_Run p e below s _ _ _ (T25.setTop (mkF m 20 #[.val (.ref o0), .val (.ref o1)] [(.ref o0), (.double (FP.dadd (FP.dmul up0 up1) (FP.dmul north0 north1)))]))
  obtain ⟨T26, X26, e26, st26⟩ := getF X25 hx hZ hown (host := "") (Or.inl (hw _ (List.mem_of_getElem? (i := 14) rfl))) Via.refl e25 F0_east (g := (mkF m 20 #[.val (.ref o0), .val (.ref o1)] [(.ref o0), (.double (FP.dadd (FP.dmul up0 up1) (FP.dmul north0 north1)))])) rfl rfl (hb hby own_d4_20)
  refine own_st st26 ?_
  show own_Run p e below s _ _ _ (T26.setTop (mkF m 23 #[.val (.ref o0), .val (.ref o1)] [(.double east0), (.double (FP.dadd (FP.dmul up0 up1) (FP.dmul north0 north1)))]))
  refine own_st (fun t k => XS.aloadN X26.here hx rfl (hb hby own_d4_23) rfl rfl k) ?_
  show own_Run p e below s _ _ _ (T26.setTop (mkF m 24 #[.val (.ref o0), .val (.ref o1)] [(.ref o1), (.double east0), (.double (FP.dadd (FP.dmul up0 up1) (FP.dmul north0 north1)))]))
  obtain ⟨T27, X27, e27, st27⟩ := getF X26 hx hZ hown (host := "") (Or.inl (hw _ (List.mem_of_getElem? (i := 14) rfl))) Via.refl e26 F1_east (g := (mkF m 24 #[.val (.ref o0), .val (.ref o1)] [(.ref o1), (.double east0), (.double (FP.dadd (FP.dmul up0 up1) (FP.dmul north0 north1)))])) rfl rfl (hb hby own_d4_24)
  refine own_st st27 ?_
  show own_Run p e below s _ _ _ (T27.setTop (mkF m 27 #[.val (.ref o0), .val (.ref o1)] [(.double east1), (.double east0), (.double (FP.dadd (FP.dmul up0 up1) (FP.dmul north0 north1)))]))
  refine own_st (fun t k => XS.dmulS X27.here hx rfl (hb hby own_d4_27) rfl (pn3) (v := (FP.dmul east0 east1)) (rfl) k) ?_
  show own_Run p e below s _ _ _ (T27.setTop (mkF m 28 #[.val (.ref o0), .val (.ref o1)] [(.double (FP.dmul east0 east1)), (.double (FP.dadd (FP.dmul up0 up1) (FP.dmul north0 north1)))]))
  refine own_st (fun t k => XS.daddS X27.here hx rfl (hb hby own_d4_28) rfl (pn4) (v := (FP.dadd (FP.dadd (FP.dmul up0 up1) (FP.dmul north0 north1)) (FP.dmul east0 east1))) (rfl) k) ?_
  show own_Run p e below s _ _ _ (T27.setTop (mkF m 29 #[.val (.ref o0), .val (.ref o1)] [(.double (FP.dadd (FP.dadd (FP.dmul up0 up1) (FP.dmul north0 north1)) (FP.dmul east0 east1)))]))
  exact own_ret X27 hx hlk (t := .double) hret rfl (Or.inr (Or.inr (Or.inl ⟨rfl, rfl, _, rfl⟩))) (hb hby own_d4_29) (by decide) (by decide) ⟨rfl, N0, e27⟩
theorem own_pd3 : parseMethodDescriptor "(DDD)V" = some ⟨[.double, .double, .double], none⟩ := by decide +kernel
theorem own_pd4 : parseMethodDescriptor "(Lcom/example/helioslope/helioslope/terrain/Direction;)D" = some ⟨[(.object "com/example/helioslope/helioslope/terrain/Direction")], some .double⟩ := by decide +kernel
set_option maxHeartbeats 4000000 in
theorem own_ef0 (m : MethodId) (x0 : Int32) (x1 : Int32) (x2 : Int32) (x3 : Int32) (x4 : Int32) (x5 : Int32) : entryFrame m #[(.int x0), (.int x1), (.int x2), (.int x3), (.int x4), (.int x5)] maxLocals = mkF m 0 #[.val (.int x0), .val (.int x1), .val (.int x2), .val (.int x3), .val (.int x4), .val (.int x5), .unset, .unset, .unset, .unset, .unset, .unset, .unset, .unset, .unset, .unset, .unset, .unset] [] := by first | (simp [entryFrame, mkF, argsToLocals, Value.category, maxLocals]; done) | rfl
theorem own_pn5 : plainName "com/example/helioslope/helioslope/terrain/DirectionCosPinLaw" = true := by first | (simp [plainName, overriddenIn]; done) | decide +kernel
def own_Q0 (Z : State) (a0 : Array Value) (i0 : Int32) (i1 : Int32) (i2 : Int32) (i3 : Int32) (i4 : Int32) (i5 : Int32) (h0 : Heap) (n0 : Nat) (v : Option Value) (h : Heap) (L : List Loc) : Prop := v = some (.int 1) ∧ Fr n0 L
set_option maxRecDepth 65536 in
set_option maxHeartbeats 40000000 in
theorem own_rm0 (l : Launch) (Z : State) (a0 : Array Value) (hw : ∀ d ∈ tables_1, d.before a0 Z = true) (ws : List Jvm.Cond) (i0 : Int32) (i1 : Int32) (i2 : Int32) (i3 : Int32) (i4 : Int32) (i5 : Int32) (h0 : Heap) (n0 : Nat) (Z0 : n0 ≤ h0.size) (O0 : Old Z n0 h0) :
    MetFree l x (head1 (Jvm.Cond.code x code maxLocals ret :: ws) room_1) (fun a U => a = #[(.int i0), (.int i1), (.int i2), (.int i3), (.int i4), (.int i5)] ∧ Z.Warmed39 U.vm ∧ U.heap = h0) (fun _ _ _ _ _ => True) (fun _ U o U' => ∃ v L, o = .returned v ∧ own_Q0 Z a0 i0 i1 i2 i3 i4 i5 h0 n0 v U'.heap L ∧ FrameEnd U o U' L room_1.cells room_1.slots) := by
  refine own_body (Q := fun v h L => own_Q0 Z a0 i0 i1 i2 i3 i4 i5 h0 n0 v h L) (plainFor_of_name own_pn5) ?_
  intro p e s m below meth c s₁ hx hby hml hZ hown hnm hret hlk X0 e0
  replace hml : c.maxLocals = 18 := hml
  replace hown : s.vm.findClass "com/example/helioslope/helioslope/terrain/DirectionCosPinLaw" = some m.cls := hown
  have N0 := Fr.nil n0
  have K0 : Keep h0 h0 [] := Keep.refl _ _
  refine own_st (fun t k => castTop (own_ef0 m i0 i1 i2 i3 i4 i5) k) ?_
  show own_Run p e below s _ _ _ (s₁.setTop (mkF m 0 #[.val (.int i0), .val (.int i1), .val (.int i2), .val (.int i3), .val (.int i4), .val (.int i5), .unset, .unset, .unset, .unset, .unset, .unset, .unset, .unset, .unset, .unset, .unset, .unset] []))
  refine own_st (fun t k => XS.iloadN X0.here hx rfl (hb hby at_0) rfl k) ?_
  show own_Run p e below s _ _ _ (s₁.setTop (mkF m 1 #[.val (.int i0), .val (.int i1), .val (.int i2), .val (.int i3), .val (.int i4), .val (.int i5), .unset, .unset, .unset, .unset, .unset, .unset, .unset, .unset, .unset, .unset, .unset, .unset] [(.int i0)]))
  refine own_st (fun t k => XS.bipush X0.here hx rfl (hb hby at_1) k) ?_
  show own_Run p e below s _ _ _ (s₁.setTop (mkF m 3 #[.val (.int i0), .val (.int i1), .val (.int i2), .val (.int i3), .val (.int i4), .val (.int i5), .unset, .unset, .unset, .unset, .unset, .unset, .unset, .unset, .unset, .unset, .unset, .unset] [(.int (11 : Int32)), (.int i0)]))
  refine own_st (fun t k => XS.ishr X0.here hx rfl (hb hby at_3) rfl k) ?_
  show own_Run p e below s _ _ _ (s₁.setTop (mkF m 4 #[.val (.int i0), .val (.int i1), .val (.int i2), .val (.int i3), .val (.int i4), .val (.int i5), .unset, .unset, .unset, .unset, .unset, .unset, .unset, .unset, .unset, .unset, .unset, .unset] [(.int (i0 >>> ((11 : Int32) &&& 31)))]))
  obtain ⟨e1, h_e1⟩ : ∃ z, ((i0 >>> ((11 : Int32) &&& 31)) : Int32) = z := ⟨_, rfl⟩
  refine own_topI h_e1 ?_
  show own_Run p e below s _ _ _ (s₁.setTop (mkF m 4 #[.val (.int i0), .val (.int i1), .val (.int i2), .val (.int i3), .val (.int i4), .val (.int i5), .unset, .unset, .unset, .unset, .unset, .unset, .unset, .unset, .unset, .unset, .unset, .unset] [(.int e1)]))
  have b_e1 : e1.toInt.natAbs ≤ 1048576 := h_e1 ▸ own_shr i0
  refine own_st (fun t k => XS.istore X0.here hx rfl (hb hby at_4) rfl (l' := #[.val (.int i0), .val (.int i1), .val (.int i2), .val (.int i3), .val (.int i4), .val (.int i5), .val (.int e1), .unset, .unset, .unset, .unset, .unset, .unset, .unset, .unset, .unset, .unset, .unset]) rfl k) ?_
  show own_Run p e below s _ _ _ (s₁.setTop (mkF m 6 #[.val (.int i0), .val (.int i1), .val (.int i2), .val (.int i3), .val (.int i4), .val (.int i5), .val (.int e1), .unset, .unset, .unset, .unset, .unset, .unset, .unset, .unset, .unset, .unset, .unset] []))
  refine own_st (fun t k => XS.iloadN X0.here hx rfl (hb hby at_6) rfl k) ?_
  show own_Run p e below s _ _ _ (s₁.setTop (mkF m 7 #[.val (.int i0), .val (.int i1), .val (.int i2), .val (.int i3), .val (.int i4), .val (.int i5), .val (.int e1), .unset, .unset, .unset, .unset, .unset, .unset, .unset, .unset, .unset, .unset, .unset] [(.int i1)]))
  refine own_st (fun t k => XS.bipush X0.here hx rfl (hb hby at_7) k) ?_
  show own_Run p e below s _ _ _ (s₁.setTop (mkF m 9 #[.val (.int i0), .val (.int i1), .val (.int i2), .val (.int i3), .val (.int i4), .val (.int i5), .val (.int e1), .unset, .unset, .unset, .unset, .unset, .unset, .unset, .unset, .unset, .unset, .unset] [(.int (11 : Int32)), (.int i1)]))
  refine own_st (fun t k => XS.ishr X0.here hx rfl (hb hby at_9) rfl k) ?_
  show own_Run p e below s _ _ _ (s₁.setTop (mkF m 10 #[.val (.int i0), .val (.int i1), .val (.int i2), .val (.int i3), .val (.int i4), .val (.int i5), .val (.int e1), .unset, .unset, .unset, .unset, .unset, .unset, .unset, .unset, .unset, .unset, .unset] [(.int (i1 >>> ((11 : Int32) &&& 31)))]))
  obtain ⟨nn1, h_nn1⟩ : ∃ z, ((i1 >>> ((11 : Int32) &&& 31)) : Int32) = z := ⟨_, rfl⟩
  refine own_topI h_nn1 ?_
  show own_Run p e below s _ _ _ (s₁.setTop (mkF m 10 #[.val (.int i0), .val (.int i1), .val (.int i2), .val (.int i3), .val (.int i4), .val (.int i5), .val (.int e1), .unset, .unset, .unset, .unset, .unset, .unset, .unset, .unset, .unset, .unset, .unset] [(.int nn1)]))
  have b_nn1 : nn1.toInt.natAbs ≤ 1048576 := h_nn1 ▸ own_shr i1
  refine own_st (fun t k => XS.istore X0.here hx rfl (hb hby at_10) rfl (l' := #[.val (.int i0), .val (.int i1), .val (.int i2), .val (.int i3), .val (.int i4), .val (.int i5), .val (.int e1), .val (.int nn1), .unset, .unset, .unset, .unset, .unset, .unset, .unset, .unset, .unset, .unset]) rfl k) ?_
  show own_Run p e below s _ _ _ (s₁.setTop (mkF m 12 #[.val (.int i0), .val (.int i1), .val (.int i2), .val (.int i3), .val (.int i4), .val (.int i5), .val (.int e1), .val (.int nn1), .unset, .unset, .unset, .unset, .unset, .unset, .unset, .unset, .unset, .unset] []))
  refine own_st (fun t k => XS.iloadN X0.here hx rfl (hb hby at_12) rfl k) ?_
  show own_Run p e below s _ _ _ (s₁.setTop (mkF m 13 #[.val (.int i0), .val (.int i1), .val (.int i2), .val (.int i3), .val (.int i4), .val (.int i5), .val (.int e1), .val (.int nn1), .unset, .unset, .unset, .unset, .unset, .unset, .unset, .unset, .unset, .unset] [(.int i2)]))
  refine own_st (fun t k => XS.bipush X0.here hx rfl (hb hby at_13) k) ?_
  show own_Run p e below s _ _ _ (s₁.setTop (mkF m 15 #[.val (.int i0), .val (.int i1), .val (.int i2), .val (.int i3), .val (.int i4), .val (.int i5), .val (.int e1), .val (.int nn1), .unset, .unset, .unset, .unset, .unset, .unset, .unset, .unset, .unset, .unset] [(.int (11 : Int32)), (.int i2)]))
  refine own_st (fun t k => XS.ishr X0.here hx rfl (hb hby at_15) rfl k) ?_
  show own_Run p e below s _ _ _ (s₁.setTop (mkF m 16 #[.val (.int i0), .val (.int i1), .val (.int i2), .val (.int i3), .val (.int i4), .val (.int i5), .val (.int e1), .val (.int nn1), .unset, .unset, .unset, .unset, .unset, .unset, .unset, .unset, .unset, .unset] [(.int (i2 >>> ((11 : Int32) &&& 31)))]))
  obtain ⟨u1, h_u1⟩ : ∃ z, ((i2 >>> ((11 : Int32) &&& 31)) : Int32) = z := ⟨_, rfl⟩
  refine own_topI h_u1 ?_
  show own_Run p e below s _ _ _ (s₁.setTop (mkF m 16 #[.val (.int i0), .val (.int i1), .val (.int i2), .val (.int i3), .val (.int i4), .val (.int i5), .val (.int e1), .val (.int nn1), .unset, .unset, .unset, .unset, .unset, .unset, .unset, .unset, .unset, .unset] [(.int u1)]))
  have b_u1 : u1.toInt.natAbs ≤ 1048576 := h_u1 ▸ own_shr i2
  refine own_st (fun t k => XS.istore X0.here hx rfl (hb hby at_16) rfl (l' := #[.val (.int i0), .val (.int i1), .val (.int i2), .val (.int i3), .val (.int i4), .val (.int i5), .val (.int e1), .val (.int nn1), .val (.int u1), .unset, .unset, .unset, .unset, .unset, .unset, .unset, .unset, .unset]) rfl k) ?_
  show own_Run p e below s _ _ _ (s₁.setTop (mkF m 18 #[.val (.int i0), .val (.int i1), .val (.int i2), .val (.int i3), .val (.int i4), .val (.int i5), .val (.int e1), .val (.int nn1), .val (.int u1), .unset, .unset, .unset, .unset, .unset, .unset, .unset, .unset, .unset] []))
  refine own_st (fun t k => XS.iloadN X0.here hx rfl (hb hby at_18) rfl k) ?_
  show own_Run p e below s _ _ _ (s₁.setTop (mkF m 19 #[.val (.int i0), .val (.int i1), .val (.int i2), .val (.int i3), .val (.int i4), .val (.int i5), .val (.int e1), .val (.int nn1), .val (.int u1), .unset, .unset, .unset, .unset, .unset, .unset, .unset, .unset, .unset] [(.int i3)]))
  refine own_st (fun t k => XS.bipush X0.here hx rfl (hb hby at_19) k) ?_
  show own_Run p e below s _ _ _ (s₁.setTop (mkF m 21 #[.val (.int i0), .val (.int i1), .val (.int i2), .val (.int i3), .val (.int i4), .val (.int i5), .val (.int e1), .val (.int nn1), .val (.int u1), .unset, .unset, .unset, .unset, .unset, .unset, .unset, .unset, .unset] [(.int (11 : Int32)), (.int i3)]))
  refine own_st (fun t k => XS.ishr X0.here hx rfl (hb hby at_21) rfl k) ?_
  show own_Run p e below s _ _ _ (s₁.setTop (mkF m 22 #[.val (.int i0), .val (.int i1), .val (.int i2), .val (.int i3), .val (.int i4), .val (.int i5), .val (.int e1), .val (.int nn1), .val (.int u1), .unset, .unset, .unset, .unset, .unset, .unset, .unset, .unset, .unset] [(.int (i3 >>> ((11 : Int32) &&& 31)))]))
  obtain ⟨e2, h_e2⟩ : ∃ z, ((i3 >>> ((11 : Int32) &&& 31)) : Int32) = z := ⟨_, rfl⟩
  refine own_topI h_e2 ?_
  show own_Run p e below s _ _ _ (s₁.setTop (mkF m 22 #[.val (.int i0), .val (.int i1), .val (.int i2), .val (.int i3), .val (.int i4), .val (.int i5), .val (.int e1), .val (.int nn1), .val (.int u1), .unset, .unset, .unset, .unset, .unset, .unset, .unset, .unset, .unset] [(.int e2)]))
  have b_e2 : e2.toInt.natAbs ≤ 1048576 := h_e2 ▸ own_shr i3
  refine own_st (fun t k => XS.istore X0.here hx rfl (hb hby at_22) rfl (l' := #[.val (.int i0), .val (.int i1), .val (.int i2), .val (.int i3), .val (.int i4), .val (.int i5), .val (.int e1), .val (.int nn1), .val (.int u1), .val (.int e2), .unset, .unset, .unset, .unset, .unset, .unset, .unset, .unset]) rfl k) ?_
  show own_Run p e below s _ _ _ (s₁.setTop (mkF m 24 #[.val (.int i0), .val (.int i1), .val (.int i2), .val (.int i3), .val (.int i4), .val (.int i5), .val (.int e1), .val (.int nn1), .val (.int u1), .val (.int e2), .unset, .unset, .unset, .unset, .unset, .unset, .unset, .unset] []))
  refine own_st (fun t k => XS.iload X0.here hx rfl (hb hby at_24) rfl k) ?_
  show own_Run p e below s _ _ _ (s₁.setTop (mkF m 26 #[.val (.int i0), .val (.int i1), .val (.int i2), .val (.int i3), .val (.int i4), .val (.int i5), .val (.int e1), .val (.int nn1), .val (.int u1), .val (.int e2), .unset, .unset, .unset, .unset, .unset, .unset, .unset, .unset] [(.int i4)]))
  refine own_st (fun t k => XS.bipush X0.here hx rfl (hb hby at_26) k) ?_
  show own_Run p e below s _ _ _ (s₁.setTop (mkF m 28 #[.val (.int i0), .val (.int i1), .val (.int i2), .val (.int i3), .val (.int i4), .val (.int i5), .val (.int e1), .val (.int nn1), .val (.int u1), .val (.int e2), .unset, .unset, .unset, .unset, .unset, .unset, .unset, .unset] [(.int (11 : Int32)), (.int i4)]))
  refine own_st (fun t k => XS.ishr X0.here hx rfl (hb hby at_28) rfl k) ?_
  show own_Run p e below s _ _ _ (s₁.setTop (mkF m 29 #[.val (.int i0), .val (.int i1), .val (.int i2), .val (.int i3), .val (.int i4), .val (.int i5), .val (.int e1), .val (.int nn1), .val (.int u1), .val (.int e2), .unset, .unset, .unset, .unset, .unset, .unset, .unset, .unset] [(.int (i4 >>> ((11 : Int32) &&& 31)))]))
  obtain ⟨nn2, h_nn2⟩ : ∃ z, ((i4 >>> ((11 : Int32) &&& 31)) : Int32) = z := ⟨_, rfl⟩
  refine own_topI h_nn2 ?_
  show own_Run p e below s _ _ _ (s₁.setTop (mkF m 29 #[.val (.int i0), .val (.int i1), .val (.int i2), .val (.int i3), .val (.int i4), .val (.int i5), .val (.int e1), .val (.int nn1), .val (.int u1), .val (.int e2), .unset, .unset, .unset, .unset, .unset, .unset, .unset, .unset] [(.int nn2)]))
  have b_nn2 : nn2.toInt.natAbs ≤ 1048576 := h_nn2 ▸ own_shr i4
  refine own_st (fun t k => XS.istore X0.here hx rfl (hb hby at_29) rfl (l' := #[.val (.int i0), .val (.int i1), .val (.int i2), .val (.int i3), .val (.int i4), .val (.int i5), .val (.int e1), .val (.int nn1), .val (.int u1), .val (.int e2), .val (.int nn2), .unset, .unset, .unset, .unset, .unset, .unset, .unset]) rfl k) ?_
  show own_Run p e below s _ _ _ (s₁.setTop (mkF m 31 #[.val (.int i0), .val (.int i1), .val (.int i2), .val (.int i3), .val (.int i4), .val (.int i5), .val (.int e1), .val (.int nn1), .val (.int u1), .val (.int e2), .val (.int nn2), .unset, .unset, .unset, .unset, .unset, .unset, .unset] []))
  refine own_st (fun t k => XS.iload X0.here hx rfl (hb hby at_31) rfl k) ?_
  show own_Run p e below s _ _ _ (s₁.setTop (mkF m 33 #[.val (.int i0), .val (.int i1), .val (.int i2), .val (.int i3), .val (.int i4), .val (.int i5), .val (.int e1), .val (.int nn1), .val (.int u1), .val (.int e2), .val (.int nn2), .unset, .unset, .unset, .unset, .unset, .unset, .unset] [(.int i5)]))
  refine own_st (fun t k => XS.bipush X0.here hx rfl (hb hby at_33) k) ?_
  show own_Run p e below s _ _ _ (s₁.setTop (mkF m 35 #[.val (.int i0), .val (.int i1), .val (.int i2), .val (.int i3), .val (.int i4), .val (.int i5), .val (.int e1), .val (.int nn1), .val (.int u1), .val (.int e2), .val (.int nn2), .unset, .unset, .unset, .unset, .unset, .unset, .unset] [(.int (11 : Int32)), (.int i5)]))
  refine own_st (fun t k => XS.ishr X0.here hx rfl (hb hby at_35) rfl k) ?_
  show own_Run p e below s _ _ _ (s₁.setTop (mkF m 36 #[.val (.int i0), .val (.int i1), .val (.int i2), .val (.int i3), .val (.int i4), .val (.int i5), .val (.int e1), .val (.int nn1), .val (.int u1), .val (.int e2), .val (.int nn2), .unset, .unset, .unset, .unset, .unset, .unset, .unset] [(.int (i5 >>> ((11 : Int32) &&& 31)))]))
  obtain ⟨u2, h_u2⟩ : ∃ z, ((i5 >>> ((11 : Int32) &&& 31)) : Int32) = z := ⟨_, rfl⟩
  refine own_topI h_u2 ?_
  show own_Run p e below s _ _ _ (s₁.setTop (mkF m 36 #[.val (.int i0), .val (.int i1), .val (.int i2), .val (.int i3), .val (.int i4), .val (.int i5), .val (.int e1), .val (.int nn1), .val (.int u1), .val (.int e2), .val (.int nn2), .unset, .unset, .unset, .unset, .unset, .unset, .unset] [(.int u2)]))
  have b_u2 : u2.toInt.natAbs ≤ 1048576 := h_u2 ▸ own_shr i5
  obtain ⟨q0, q1, q2, q3, q4, qZ⟩ := own_dot3 (own_Z.i2d u1) (own_Z.i2d u2) (own_Z.i2d nn1) (own_Z.i2d nn2) (own_Z.i2d e1) (own_Z.i2d e2) b_u1 b_u2 b_nn1 b_nn2 b_e1 b_e2
  obtain ⟨t1, t2⟩ := own_lsum (a1 := e1.toInt64) (a2 := e2.toInt64) (b1 := nn1.toInt64) (b2 := nn2.toInt64) (c1 := u1.toInt64) (c2 := u2.toInt64) (by rw [Int32.toInt_toInt64]; exact b_e1) (by rw [Int32.toInt_toInt64]; exact b_e2) (by rw [Int32.toInt_toInt64]; exact b_nn1) (by rw [Int32.toInt_toInt64]; exact b_nn2) (by rw [Int32.toInt_toInt64]; exact b_u1) (by rw [Int32.toInt_toInt64]; exact b_u2)
  simp only [Int32.toInt_toInt64] at t1
  refine own_st (fun t k => XS.istore X0.here hx rfl (hb hby at_36) rfl (l' := #[.val (.int i0), .val (.int i1), .val (.int i2), .val (.int i3), .val (.int i4), .val (.int i5), .val (.int e1), .val (.int nn1), .val (.int u1), .val (.int e2), .val (.int nn2), .val (.int u2), .unset, .unset, .unset, .unset, .unset, .unset]) rfl k) ?_
  show own_Run p e below s _ _ _ (s₁.setTop (mkF m 38 #[.val (.int i0), .val (.int i1), .val (.int i2), .val (.int i3), .val (.int i4), .val (.int i5), .val (.int e1), .val (.int nn1), .val (.int u1), .val (.int e2), .val (.int nn2), .val (.int u2), .unset, .unset, .unset, .unset, .unset, .unset] []))
  obtain ⟨T28, h28, X28, e28, E28, A28, D28, -, st28⟩ := newO X0 hx hZ hown (hw _ (List.mem_of_getElem? (i := 0) rfl)) (hw _ (List.mem_of_getElem? (i := 1) rfl)) (hw _ (List.mem_of_getElem? (i := 2) rfl)) e0 (g := (mkF m 38 #[.val (.int i0), .val (.int i1), .val (.int i2), .val (.int i3), .val (.int i4), .val (.int i5), .val (.int e1), .val (.int nn1), .val (.int u1), .val (.int e2), .val (.int nn2), .val (.int u2), .unset, .unset, .unset, .unset, .unset, .unset] [])) rfl (hb hby at_38) (by decide) (by decide)
  obtain ⟨b28, g28⟩ : ∃ z, z = h0.size := ⟨_, rfl⟩
  rw [← g28] at A28 D28 st28
  have sz29 : h0.size ≤ b28 := Nat.le_trans K0.1 (Nat.le_of_eq g28.symm)
  have ge30 : n0 ≤ b28 := Nat.le_trans Z0 sz29
  refine own_st st28 ?_
  have K31 : Keep h0 h28 [] := K0.ext E28
  have O32 := O0.ext E28
  show own_Run p e below s _ _ _ (T28.setTop (mkF m 41 #[.val (.int i0), .val (.int i1), .val (.int i2), .val (.int i3), .val (.int i4), .val (.int i5), .val (.int e1), .val (.int nn1), .val (.int u1), .val (.int e2), .val (.int nn2), .val (.int u2), .unset, .unset, .unset, .unset, .unset, .unset] [(.ref b28)]))
  refine own_st (fun t k => XS.dup X28.here hx rfl (hb hby at_41) rfl rfl k) ?_
  show own_Run p e below s _ _ _ (T28.setTop (mkF m 42 #[.val (.int i0), .val (.int i1), .val (.int i2), .val (.int i3), .val (.int i4), .val (.int i5), .val (.int e1), .val (.int nn1), .val (.int u1), .val (.int e2), .val (.int nn2), .val (.int u2), .unset, .unset, .unset, .unset, .unset, .unset] [(.ref b28), (.ref b28)]))
  refine own_st (fun t k => XS.iload X28.here hx rfl (hb hby at_42) rfl k) ?_
  show own_Run p e below s _ _ _ (T28.setTop (mkF m 44 #[.val (.int i0), .val (.int i1), .val (.int i2), .val (.int i3), .val (.int i4), .val (.int i5), .val (.int e1), .val (.int nn1), .val (.int u1), .val (.int e2), .val (.int nn2), .val (.int u2), .unset, .unset, .unset, .unset, .unset, .unset] [(.int e1), (.ref b28), (.ref b28)]))
  refine own_st (fun t k => XS.i2dS X28.here hx rfl (hb hby at_44) rfl (v := (FP.i2d e1)) (rfl) k) ?_
  show own_Run p e below s _ _ _ (T28.setTop (mkF m 45 #[.val (.int i0), .val (.int i1), .val (.int i2), .val (.int i3), .val (.int i4), .val (.int i5), .val (.int e1), .val (.int nn1), .val (.int u1), .val (.int e2), .val (.int nn2), .val (.int u2), .unset, .unset, .unset, .unset, .unset, .unset] [(.double (FP.i2d e1)), (.ref b28), (.ref b28)]))
  refine own_st (fun t k => XS.iload X28.here hx rfl (hb hby at_45) rfl k) ?_
  show own_Run p e below s _ _ _ (T28.setTop (mkF m 47 #[.val (.int i0), .val (.int i1), .val (.int i2), .val (.int i3), .val (.int i4), .val (.int i5), .val (.int e1), .val (.int nn1), .val (.int u1), .val (.int e2), .val (.int nn2), .val (.int u2), .unset, .unset, .unset, .unset, .unset, .unset] [(.int nn1), (.double (FP.i2d e1)), (.ref b28), (.ref b28)]))
  refine own_st (fun t k => XS.i2dS X28.here hx rfl (hb hby at_47) rfl (v := (FP.i2d nn1)) (rfl) k) ?_
  show own_Run p e below s _ _ _ (T28.setTop (mkF m 48 #[.val (.int i0), .val (.int i1), .val (.int i2), .val (.int i3), .val (.int i4), .val (.int i5), .val (.int e1), .val (.int nn1), .val (.int u1), .val (.int e2), .val (.int nn2), .val (.int u2), .unset, .unset, .unset, .unset, .unset, .unset] [(.double (FP.i2d nn1)), (.double (FP.i2d e1)), (.ref b28), (.ref b28)]))
  refine own_st (fun t k => XS.iload X28.here hx rfl (hb hby at_48) rfl k) ?_
  show own_Run p e below s _ _ _ (T28.setTop (mkF m 50 #[.val (.int i0), .val (.int i1), .val (.int i2), .val (.int i3), .val (.int i4), .val (.int i5), .val (.int e1), .val (.int nn1), .val (.int u1), .val (.int e2), .val (.int nn2), .val (.int u2), .unset, .unset, .unset, .unset, .unset, .unset] [(.int u1), (.double (FP.i2d nn1)), (.double (FP.i2d e1)), (.ref b28), (.ref b28)]))
  refine own_st (fun t k => XS.i2dS X28.here hx rfl (hb hby at_50) rfl (v := (FP.i2d u1)) (rfl) k) ?_
  show own_Run p e below s _ _ _ (T28.setTop (mkF m 51 #[.val (.int i0), .val (.int i1), .val (.int i2), .val (.int i3), .val (.int i4), .val (.int i5), .val (.int e1), .val (.int nn1), .val (.int u1), .val (.int e2), .val (.int nn2), .val (.int u2), .unset, .unset, .unset, .unset, .unset, .unset] [(.double (FP.i2d u1)), (.double (FP.i2d nn1)), (.double (FP.i2d e1)), (.ref b28), (.ref b28)]))
  refine own_callI X28 hx hZ (y := (⟨"com/example/helioslope/helioslope/terrain/Direction", "<init>", "(DDD)V"⟩ : MethodName)) rfl hown (hw _ (List.mem_of_getElem? (i := 3) rfl)) (hw _ (List.mem_of_getElem? (i := 4) rfl)) (hw _ (List.mem_of_getElem? (i := 5) rfl)) (hw _ (List.mem_of_getElem? (i := 2) rfl)) (by decide) e28 (a := b28) (argsL := [(.double (FP.i2d e1)), (.double (FP.i2d nn1)), (.double (FP.i2d u1))]) (rest := [(.ref b28)]) (W := 1) (own_rm1 l Z a0 hw [] b28 (FP.i2d e1) (FP.i2d nn1) (FP.i2d u1) h28 n0 (Nat.le_trans Z0 K31.1) A28 D28 ge30) (by decide) (by decide) (by rw [hml]; rfl) (lenOf own_pd3 rfl) rfl (by exact Nat.le_of_eq rfl) (hb hby at_51) (by decide) (by decide) ?_
  intro T33 v33 L33 X33 hq33
  obtain ⟨rfl, N33q, K33q, Q34, Q35, Q36, Q37⟩ := hq33
  have K38 : Keep h0 T33.heap [] := K31.trans K33q (allS (Or.inr sz29) all0)
  have O39 := O32.keep K33q (allS ge30 all0)
  have N33 := Fr.app N0 N33q
  show own_Run p e below s _ _ _ (T33.setTop (mkF m 54 #[.val (.int i0), .val (.int i1), .val (.int i2), .val (.int i3), .val (.int i4), .val (.int i5), .val (.int e1), .val (.int nn1), .val (.int u1), .val (.int e2), .val (.int nn2), .val (.int u2), .unset, .unset, .unset, .unset, .unset, .unset] [(.ref b28)]))
  refine own_st (fun t k => XS.astore X33.here hx rfl (hb hby at_54) rfl rfl (l' := #[.val (.int i0), .val (.int i1), .val (.int i2), .val (.int i3), .val (.int i4), .val (.int i5), .val (.int e1), .val (.int nn1), .val (.int u1), .val (.int e2), .val (.int nn2), .val (.int u2), .val (.ref b28), .unset, .unset, .unset, .unset, .unset]) rfl k) ?_
  show own_Run p e below s _ _ _ (T33.setTop (mkF m 56 #[.val (.int i0), .val (.int i1), .val (.int i2), .val (.int i3), .val (.int i4), .val (.int i5), .val (.int e1), .val (.int nn1), .val (.int u1), .val (.int e2), .val (.int nn2), .val (.int u2), .val (.ref b28), .unset, .unset, .unset, .unset, .unset] []))
  obtain ⟨T40, h40, X40, e40, E40, A40, D40, -, st40⟩ := newO X33 hx hZ hown (hw _ (List.mem_of_getElem? (i := 0) rfl)) (hw _ (List.mem_of_getElem? (i := 1) rfl)) (hw _ (List.mem_of_getElem? (i := 2) rfl)) rfl (g := (mkF m 56 #[.val (.int i0), .val (.int i1), .val (.int i2), .val (.int i3), .val (.int i4), .val (.int i5), .val (.int e1), .val (.int nn1), .val (.int u1), .val (.int e2), .val (.int nn2), .val (.int u2), .val (.ref b28), .unset, .unset, .unset, .unset, .unset] [])) rfl (hb hby at_56) (by decide) (by decide)
  obtain ⟨b40, g40⟩ : ∃ z, z = T33.heap.size := ⟨_, rfl⟩
  rw [← g40] at A40 D40 st40
  have sz41 : h0.size ≤ b40 := Nat.le_trans K38.1 (Nat.le_of_eq g40.symm)
  have ge42 : n0 ≤ b40 := Nat.le_trans Z0 sz41
  refine own_st st40 ?_
  have K43 : Keep h0 h40 [] := K38.ext E40
  have O44 := O39.ext E40
  show own_Run p e below s _ _ _ (T40.setTop (mkF m 59 #[.val (.int i0), .val (.int i1), .val (.int i2), .val (.int i3), .val (.int i4), .val (.int i5), .val (.int e1), .val (.int nn1), .val (.int u1), .val (.int e2), .val (.int nn2), .val (.int u2), .val (.ref b28), .unset, .unset, .unset, .unset, .unset] [(.ref b40)]))
  refine own_st (fun t k => XS.dup X40.here hx rfl (hb hby at_59) rfl rfl k) ?_
  show own_Run p e below s _ _ _ (T40.setTop (mkF m 60 #[.val (.int i0), .val (.int i1), .val (.int i2), .val (.int i3), .val (.int i4), .val (.int i5), .val (.int e1), .val (.int nn1), .val (.int u1), .val (.int e2), .val (.int nn2), .val (.int u2), .val (.ref b28), .unset, .unset, .unset, .unset, .unset] [(.ref b40), (.ref b40)]))
  refine own_st (fun t k => XS.iload X40.here hx rfl (hb hby at_60) rfl k) ?_
  show own_Run p e below s _ _ _ (T40.setTop (mkF m 62 #[.val (.int i0), .val (.int i1), .val (.int i2), .val (.int i3), .val (.int i4), .val (.int i5), .val (.int e1), .val (.int nn1), .val (.int u1), .val (.int e2), .val (.int nn2), .val (.int u2), .val (.ref b28), .unset, .unset, .unset, .unset, .unset] [(.int e2), (.ref b40), (.ref b40)]))
  refine own_st (fun t k => XS.i2dS X40.here hx rfl (hb hby at_62) rfl (v := (FP.i2d e2)) (rfl) k) ?_
  show own_Run p e below s _ _ _ (T40.setTop (mkF m 63 #[.val (.int i0), .val (.int i1), .val (.int i2), .val (.int i3), .val (.int i4), .val (.int i5), .val (.int e1), .val (.int nn1), .val (.int u1), .val (.int e2), .val (.int nn2), .val (.int u2), .val (.ref b28), .unset, .unset, .unset, .unset, .unset] [(.double (FP.i2d e2)), (.ref b40), (.ref b40)]))
  refine own_st (fun t k => XS.iload X40.here hx rfl (hb hby at_63) rfl k) ?_
  show own_Run p e below s _ _ _ (T40.setTop (mkF m 65 #[.val (.int i0), .val (.int i1), .val (.int i2), .val (.int i3), .val (.int i4), .val (.int i5), .val (.int e1), .val (.int nn1), .val (.int u1), .val (.int e2), .val (.int nn2), .val (.int u2), .val (.ref b28), .unset, .unset, .unset, .unset, .unset] [(.int nn2), (.double (FP.i2d e2)), (.ref b40), (.ref b40)]))
  refine own_st (fun t k => XS.i2dS X40.here hx rfl (hb hby at_65) rfl (v := (FP.i2d nn2)) (rfl) k) ?_
  show own_Run p e below s _ _ _ (T40.setTop (mkF m 66 #[.val (.int i0), .val (.int i1), .val (.int i2), .val (.int i3), .val (.int i4), .val (.int i5), .val (.int e1), .val (.int nn1), .val (.int u1), .val (.int e2), .val (.int nn2), .val (.int u2), .val (.ref b28), .unset, .unset, .unset, .unset, .unset] [(.double (FP.i2d nn2)), (.double (FP.i2d e2)), (.ref b40), (.ref b40)]))
  refine own_st (fun t k => XS.iload X40.here hx rfl (hb hby at_66) rfl k) ?_
  show own_Run p e below s _ _ _ (T40.setTop (mkF m 68 #[.val (.int i0), .val (.int i1), .val (.int i2), .val (.int i3), .val (.int i4), .val (.int i5), .val (.int e1), .val (.int nn1), .val (.int u1), .val (.int e2), .val (.int nn2), .val (.int u2), .val (.ref b28), .unset, .unset, .unset, .unset, .unset] [(.int u2), (.double (FP.i2d nn2)), (.double (FP.i2d e2)), (.ref b40), (.ref b40)]))
  refine own_st (fun t k => XS.i2dS X40.here hx rfl (hb hby at_68) rfl (v := (FP.i2d u2)) (rfl) k) ?_
  show own_Run p e below s _ _ _ (T40.setTop (mkF m 69 #[.val (.int i0), .val (.int i1), .val (.int i2), .val (.int i3), .val (.int i4), .val (.int i5), .val (.int e1), .val (.int nn1), .val (.int u1), .val (.int e2), .val (.int nn2), .val (.int u2), .val (.ref b28), .unset, .unset, .unset, .unset, .unset] [(.double (FP.i2d u2)), (.double (FP.i2d nn2)), (.double (FP.i2d e2)), (.ref b40), (.ref b40)]))
  refine own_callI X40 hx hZ (y := (⟨"com/example/helioslope/helioslope/terrain/Direction", "<init>", "(DDD)V"⟩ : MethodName)) rfl hown (hw _ (List.mem_of_getElem? (i := 3) rfl)) (hw _ (List.mem_of_getElem? (i := 4) rfl)) (hw _ (List.mem_of_getElem? (i := 5) rfl)) (hw _ (List.mem_of_getElem? (i := 2) rfl)) (by decide) e40 (a := b40) (argsL := [(.double (FP.i2d e2)), (.double (FP.i2d nn2)), (.double (FP.i2d u2))]) (rest := [(.ref b40)]) (W := 1) (own_rm1 l Z a0 hw [] b40 (FP.i2d e2) (FP.i2d nn2) (FP.i2d u2) h40 n0 (Nat.le_trans Z0 K43.1) A40 D40 ge42) (by decide) (by decide) (by rw [hml]; rfl) (lenOf own_pd3 rfl) rfl (by exact Nat.le_of_eq rfl) (hb hby at_69) (by decide) (by decide) ?_
  intro T45 v45 L45 X45 hq45
  obtain ⟨rfl, N45q, K45q, Q46, Q47, Q48, Q49⟩ := hq45
  have K50 : Keep h0 T45.heap [] := K43.trans K45q (allS (Or.inr sz41) all0)
  have O51 := O44.keep K45q (allS ge42 all0)
  have N45 := Fr.app N33 N45q
  show own_Run p e below s _ _ _ (T45.setTop (mkF m 72 #[.val (.int i0), .val (.int i1), .val (.int i2), .val (.int i3), .val (.int i4), .val (.int i5), .val (.int e1), .val (.int nn1), .val (.int u1), .val (.int e2), .val (.int nn2), .val (.int u2), .val (.ref b28), .unset, .unset, .unset, .unset, .unset] [(.ref b40)]))
  refine own_st (fun t k => XS.astore X45.here hx rfl (hb hby at_72) rfl rfl (l' := #[.val (.int i0), .val (.int i1), .val (.int i2), .val (.int i3), .val (.int i4), .val (.int i5), .val (.int e1), .val (.int nn1), .val (.int u1), .val (.int e2), .val (.int nn2), .val (.int u2), .val (.ref b28), .val (.ref b40), .unset, .unset, .unset, .unset]) rfl k) ?_
  show own_Run p e below s _ _ _ (T45.setTop (mkF m 74 #[.val (.int i0), .val (.int i1), .val (.int i2), .val (.int i3), .val (.int i4), .val (.int i5), .val (.int e1), .val (.int nn1), .val (.int u1), .val (.int e2), .val (.int nn2), .val (.int u2), .val (.ref b28), .val (.ref b40), .unset, .unset, .unset, .unset] []))
  refine own_st (fun t k => XS.aload X45.here hx rfl (hb hby at_74) rfl rfl k) ?_
  show own_Run p e below s _ _ _ (T45.setTop (mkF m 76 #[.val (.int i0), .val (.int i1), .val (.int i2), .val (.int i3), .val (.int i4), .val (.int i5), .val (.int e1), .val (.int nn1), .val (.int u1), .val (.int e2), .val (.int nn2), .val (.int u2), .val (.ref b28), .val (.ref b40), .unset, .unset, .unset, .unset] [(.ref b28)]))
  refine own_st (fun t k => XS.aload X45.here hx rfl (hb hby at_76) rfl rfl k) ?_
  show own_Run p e below s _ _ _ (T45.setTop (mkF m 78 #[.val (.int i0), .val (.int i1), .val (.int i2), .val (.int i3), .val (.int i4), .val (.int i5), .val (.int e1), .val (.int nn1), .val (.int u1), .val (.int e2), .val (.int nn2), .val (.int u2), .val (.ref b28), .val (.ref b40), .unset, .unset, .unset, .unset] [(.ref b40), (.ref b28)]))
  have F52 := ((Q35.ext E40).keep K45q (ninS (Nat.ne_of_lt (Nat.lt_of_lt_of_le (Nat.lt_of_lt_of_le A28.lt K33q.1) (Nat.le_of_eq g40.symm))) nin0))
  have F53 := ((Q36.ext E40).keep K45q (ninS (Nat.ne_of_lt (Nat.lt_of_lt_of_le (Nat.lt_of_lt_of_le A28.lt K33q.1) (Nat.le_of_eq g40.symm))) nin0))
  have F54 := ((Q37.ext E40).keep K45q (ninS (Nat.ne_of_lt (Nat.lt_of_lt_of_le (Nat.lt_of_lt_of_le A28.lt K33q.1) (Nat.le_of_eq g40.symm))) nin0))
  have E56 := ((Q34.ext E40).keep K45q)
  refine own_callV X45 hx hZ (y := (⟨"com/example/helioslope/helioslope/terrain/Direction", "cos", "(Lcom/example/helioslope/helioslope/terrain/Direction;)D"⟩ : MethodName)) (C := "com/example/helioslope/helioslope/terrain/Direction") hown (hw _ (List.mem_of_getElem? (i := 20) rfl)) (hw _ (List.mem_of_getElem? (i := 21) rfl)) (hw _ (List.mem_of_getElem? (i := 23) rfl)) (hw _ (List.mem_of_getElem? (i := 22) rfl)) (hw _ (List.mem_of_getElem? (i := 24) rfl)) (hw _ (List.mem_of_getElem? (i := 2) rfl)) (by decide) rfl (a := b28) E56 (argsL := [(.ref b40)]) (rest := []) (W := 0) (own_rm4 l Z a0 hw [] b28 b40 (FP.i2d e1) (FP.i2d nn1) (FP.i2d u1) (FP.i2d e2) (FP.i2d nn2) (FP.i2d u2) T45.heap n0 (Nat.le_trans Z0 K50.1) F52 F53 F54 Q47 Q48 Q49 (q0) (q1) (q2) (q3) (q4)) (by decide) (by decide) (by rw [hml]; rfl) (lenOf own_pd4 rfl) rfl (by exact Nat.le_of_eq rfl) (hb hby at_78) (by decide) (by decide) ?_
  intro T55 v55 L55 X55 hq55
  obtain ⟨rfl, N55q, hh55⟩ := hq55
  have N55 := Fr.app N45 N55q
  show own_Run p e below s _ _ _ (T55.setTop (mkF m 81 #[.val (.int i0), .val (.int i1), .val (.int i2), .val (.int i3), .val (.int i4), .val (.int i5), .val (.int e1), .val (.int nn1), .val (.int u1), .val (.int e2), .val (.int nn2), .val (.int u2), .val (.ref b28), .val (.ref b40), .unset, .unset, .unset, .unset] [(.double (FP.dadd (FP.dadd (FP.dmul (FP.i2d u1) (FP.i2d u2)) (FP.dmul (FP.i2d nn1) (FP.i2d nn2))) (FP.dmul (FP.i2d e1) (FP.i2d e2))))]))
  refine own_st (fun t k => XS.dstore X55.here hx rfl (hb hby at_81) rfl (l' := #[.val (.int i0), .val (.int i1), .val (.int i2), .val (.int i3), .val (.int i4), .val (.int i5), .val (.int e1), .val (.int nn1), .val (.int u1), .val (.int e2), .val (.int nn2), .val (.int u2), .val (.ref b28), .val (.ref b40), .val (.double (FP.dadd (FP.dadd (FP.dmul (FP.i2d u1) (FP.i2d u2)) (FP.dmul (FP.i2d nn1) (FP.i2d nn2))) (FP.dmul (FP.i2d e1) (FP.i2d e2)))), .second, .unset, .unset]) rfl k) ?_
  show own_Run p e below s _ _ _ (T55.setTop (mkF m 83 #[.val (.int i0), .val (.int i1), .val (.int i2), .val (.int i3), .val (.int i4), .val (.int i5), .val (.int e1), .val (.int nn1), .val (.int u1), .val (.int e2), .val (.int nn2), .val (.int u2), .val (.ref b28), .val (.ref b40), .val (.double (FP.dadd (FP.dadd (FP.dmul (FP.i2d u1) (FP.i2d u2)) (FP.dmul (FP.i2d nn1) (FP.i2d nn2))) (FP.dmul (FP.i2d e1) (FP.i2d e2)))), .second, .unset, .unset] []))
  refine own_st (fun t k => XS.iload X55.here hx rfl (hb hby at_83) rfl k) ?_
  show own_Run p e below s _ _ _ (T55.setTop (mkF m 85 #[.val (.int i0), .val (.int i1), .val (.int i2), .val (.int i3), .val (.int i4), .val (.int i5), .val (.int e1), .val (.int nn1), .val (.int u1), .val (.int e2), .val (.int nn2), .val (.int u2), .val (.ref b28), .val (.ref b40), .val (.double (FP.dadd (FP.dadd (FP.dmul (FP.i2d u1) (FP.i2d u2)) (FP.dmul (FP.i2d nn1) (FP.i2d nn2))) (FP.dmul (FP.i2d e1) (FP.i2d e2)))), .second, .unset, .unset] [(.int e1)]))
  refine own_st (fun t k => XS.i2l X55.here hx rfl (hb hby at_85) rfl k) ?_
  show own_Run p e below s _ _ _ (T55.setTop (mkF m 86 #[.val (.int i0), .val (.int i1), .val (.int i2), .val (.int i3), .val (.int i4), .val (.int i5), .val (.int e1), .val (.int nn1), .val (.int u1), .val (.int e2), .val (.int nn2), .val (.int u2), .val (.ref b28), .val (.ref b40), .val (.double (FP.dadd (FP.dadd (FP.dmul (FP.i2d u1) (FP.i2d u2)) (FP.dmul (FP.i2d nn1) (FP.i2d nn2))) (FP.dmul (FP.i2d e1) (FP.i2d e2)))), .second, .unset, .unset] [(.long (e1.toInt64))]))
  refine own_st (fun t k => XS.iload X55.here hx rfl (hb hby at_86) rfl k) ?_
  show own_Run p e below s _ _ _ (T55.setTop (mkF m 88 #[.val (.int i0), .val (.int i1), .val (.int i2), .val (.int i3), .val (.int i4), .val (.int i5), .val (.int e1), .val (.int nn1), .val (.int u1), .val (.int e2), .val (.int nn2), .val (.int u2), .val (.ref b28), .val (.ref b40), .val (.double (FP.dadd (FP.dadd (FP.dmul (FP.i2d u1) (FP.i2d u2)) (FP.dmul (FP.i2d nn1) (FP.i2d nn2))) (FP.dmul (FP.i2d e1) (FP.i2d e2)))), .second, .unset, .unset] [(.int e2), (.long (e1.toInt64))]))
  refine own_st (fun t k => XS.i2l X55.here hx rfl (hb hby at_88) rfl k) ?_
  show own_Run p e below s _ _ _ (T55.setTop (mkF m 89 #[.val (.int i0), .val (.int i1), .val (.int i2), .val (.int i3), .val (.int i4), .val (.int i5), .val (.int e1), .val (.int nn1), .val (.int u1), .val (.int e2), .val (.int nn2), .val (.int u2), .val (.ref b28), .val (.ref b40), .val (.double (FP.dadd (FP.dadd (FP.dmul (FP.i2d u1) (FP.i2d u2)) (FP.dmul (FP.i2d nn1) (FP.i2d nn2))) (FP.dmul (FP.i2d e1) (FP.i2d e2)))), .second, .unset, .unset] [(.long (e2.toInt64)), (.long (e1.toInt64))]))
  refine own_st (fun t k => XS.lmul X55.here hx rfl (hb hby at_89) rfl k) ?_
  show own_Run p e below s _ _ _ (T55.setTop (mkF m 90 #[.val (.int i0), .val (.int i1), .val (.int i2), .val (.int i3), .val (.int i4), .val (.int i5), .val (.int e1), .val (.int nn1), .val (.int u1), .val (.int e2), .val (.int nn2), .val (.int u2), .val (.ref b28), .val (.ref b40), .val (.double (FP.dadd (FP.dadd (FP.dmul (FP.i2d u1) (FP.i2d u2)) (FP.dmul (FP.i2d nn1) (FP.i2d nn2))) (FP.dmul (FP.i2d e1) (FP.i2d e2)))), .second, .unset, .unset] [(.long ((e1.toInt64) * (e2.toInt64)))]))
  refine own_st (fun t k => XS.iload X55.here hx rfl (hb hby at_90) rfl k) ?_
  show own_Run p e below s _ _ _ (T55.setTop (mkF m 92 #[.val (.int i0), .val (.int i1), .val (.int i2), .val (.int i3), .val (.int i4), .val (.int i5), .val (.int e1), .val (.int nn1), .val (.int u1), .val (.int e2), .val (.int nn2), .val (.int u2), .val (.ref b28), .val (.ref b40), .val (.double (FP.dadd (FP.dadd (FP.dmul (FP.i2d u1) (FP.i2d u2)) (FP.dmul (FP.i2d nn1) (FP.i2d nn2))) (FP.dmul (FP.i2d e1) (FP.i2d e2)))), .second, .unset, .unset] [(.int nn1), (.long ((e1.toInt64) * (e2.toInt64)))]))
  refine own_st (fun t k => XS.i2l X55.here hx rfl (hb hby at_92) rfl k) ?_
  show own_Run p e below s _ _ _ (T55.setTop (mkF m 93 #[.val (.int i0), .val (.int i1), .val (.int i2), .val (.int i3), .val (.int i4), .val (.int i5), .val (.int e1), .val (.int nn1), .val (.int u1), .val (.int e2), .val (.int nn2), .val (.int u2), .val (.ref b28), .val (.ref b40), .val (.double (FP.dadd (FP.dadd (FP.dmul (FP.i2d u1) (FP.i2d u2)) (FP.dmul (FP.i2d nn1) (FP.i2d nn2))) (FP.dmul (FP.i2d e1) (FP.i2d e2)))), .second, .unset, .unset] [(.long (nn1.toInt64)), (.long ((e1.toInt64) * (e2.toInt64)))]))
  refine own_st (fun t k => XS.iload X55.here hx rfl (hb hby at_93) rfl k) ?_
  show own_Run p e below s _ _ _ (T55.setTop (mkF m 95 #[.val (.int i0), .val (.int i1), .val (.int i2), .val (.int i3), .val (.int i4), .val (.int i5), .val (.int e1), .val (.int nn1), .val (.int u1), .val (.int e2), .val (.int nn2), .val (.int u2), .val (.ref b28), .val (.ref b40), .val (.double (FP.dadd (FP.dadd (FP.dmul (FP.i2d u1) (FP.i2d u2)) (FP.dmul (FP.i2d nn1) (FP.i2d nn2))) (FP.dmul (FP.i2d e1) (FP.i2d e2)))), .second, .unset, .unset] [(.int nn2), (.long (nn1.toInt64)), (.long ((e1.toInt64) * (e2.toInt64)))]))
  refine own_st (fun t k => XS.i2l X55.here hx rfl (hb hby at_95) rfl k) ?_
  show own_Run p e below s _ _ _ (T55.setTop (mkF m 96 #[.val (.int i0), .val (.int i1), .val (.int i2), .val (.int i3), .val (.int i4), .val (.int i5), .val (.int e1), .val (.int nn1), .val (.int u1), .val (.int e2), .val (.int nn2), .val (.int u2), .val (.ref b28), .val (.ref b40), .val (.double (FP.dadd (FP.dadd (FP.dmul (FP.i2d u1) (FP.i2d u2)) (FP.dmul (FP.i2d nn1) (FP.i2d nn2))) (FP.dmul (FP.i2d e1) (FP.i2d e2)))), .second, .unset, .unset] [(.long (nn2.toInt64)), (.long (nn1.toInt64)), (.long ((e1.toInt64) * (e2.toInt64)))]))
  refine own_st (fun t k => XS.lmul X55.here hx rfl (hb hby at_96) rfl k) ?_
  show own_Run p e below s _ _ _ (T55.setTop (mkF m 97 #[.val (.int i0), .val (.int i1), .val (.int i2), .val (.int i3), .val (.int i4), .val (.int i5), .val (.int e1), .val (.int nn1), .val (.int u1), .val (.int e2), .val (.int nn2), .val (.int u2), .val (.ref b28), .val (.ref b40), .val (.double (FP.dadd (FP.dadd (FP.dmul (FP.i2d u1) (FP.i2d u2)) (FP.dmul (FP.i2d nn1) (FP.i2d nn2))) (FP.dmul (FP.i2d e1) (FP.i2d e2)))), .second, .unset, .unset] [(.long ((nn1.toInt64) * (nn2.toInt64))), (.long ((e1.toInt64) * (e2.toInt64)))]))
  refine own_st (fun t k => XS.ladd X55.here hx rfl (hb hby at_97) rfl k) ?_
  show own_Run p e below s _ _ _ (T55.setTop (mkF m 98 #[.val (.int i0), .val (.int i1), .val (.int i2), .val (.int i3), .val (.int i4), .val (.int i5), .val (.int e1), .val (.int nn1), .val (.int u1), .val (.int e2), .val (.int nn2), .val (.int u2), .val (.ref b28), .val (.ref b40), .val (.double (FP.dadd (FP.dadd (FP.dmul (FP.i2d u1) (FP.i2d u2)) (FP.dmul (FP.i2d nn1) (FP.i2d nn2))) (FP.dmul (FP.i2d e1) (FP.i2d e2)))), .second, .unset, .unset] [(.long (((e1.toInt64) * (e2.toInt64)) + ((nn1.toInt64) * (nn2.toInt64))))]))
  refine own_st (fun t k => XS.iload X55.here hx rfl (hb hby at_98) rfl k) ?_
  show own_Run p e below s _ _ _ (T55.setTop (mkF m 100 #[.val (.int i0), .val (.int i1), .val (.int i2), .val (.int i3), .val (.int i4), .val (.int i5), .val (.int e1), .val (.int nn1), .val (.int u1), .val (.int e2), .val (.int nn2), .val (.int u2), .val (.ref b28), .val (.ref b40), .val (.double (FP.dadd (FP.dadd (FP.dmul (FP.i2d u1) (FP.i2d u2)) (FP.dmul (FP.i2d nn1) (FP.i2d nn2))) (FP.dmul (FP.i2d e1) (FP.i2d e2)))), .second, .unset, .unset] [(.int u1), (.long (((e1.toInt64) * (e2.toInt64)) + ((nn1.toInt64) * (nn2.toInt64))))]))
  refine own_st (fun t k => XS.i2l X55.here hx rfl (hb hby at_100) rfl k) ?_
  show own_Run p e below s _ _ _ (T55.setTop (mkF m 101 #[.val (.int i0), .val (.int i1), .val (.int i2), .val (.int i3), .val (.int i4), .val (.int i5), .val (.int e1), .val (.int nn1), .val (.int u1), .val (.int e2), .val (.int nn2), .val (.int u2), .val (.ref b28), .val (.ref b40), .val (.double (FP.dadd (FP.dadd (FP.dmul (FP.i2d u1) (FP.i2d u2)) (FP.dmul (FP.i2d nn1) (FP.i2d nn2))) (FP.dmul (FP.i2d e1) (FP.i2d e2)))), .second, .unset, .unset] [(.long (u1.toInt64)), (.long (((e1.toInt64) * (e2.toInt64)) + ((nn1.toInt64) * (nn2.toInt64))))]))
  refine own_st (fun t k => XS.iload X55.here hx rfl (hb hby at_101) rfl k) ?_
  show own_Run p e below s _ _ _ (T55.setTop (mkF m 103 #[.val (.int i0), .val (.int i1), .val (.int i2), .val (.int i3), .val (.int i4), .val (.int i5), .val (.int e1), .val (.int nn1), .val (.int u1), .val (.int e2), .val (.int nn2), .val (.int u2), .val (.ref b28), .val (.ref b40), .val (.double (FP.dadd (FP.dadd (FP.dmul (FP.i2d u1) (FP.i2d u2)) (FP.dmul (FP.i2d nn1) (FP.i2d nn2))) (FP.dmul (FP.i2d e1) (FP.i2d e2)))), .second, .unset, .unset] [(.int u2), (.long (u1.toInt64)), (.long (((e1.toInt64) * (e2.toInt64)) + ((nn1.toInt64) * (nn2.toInt64))))]))
  refine own_st (fun t k => XS.i2l X55.here hx rfl (hb hby at_103) rfl k) ?_
  show own_Run p e below s _ _ _ (T55.setTop (mkF m 104 #[.val (.int i0), .val (.int i1), .val (.int i2), .val (.int i3), .val (.int i4), .val (.int i5), .val (.int e1), .val (.int nn1), .val (.int u1), .val (.int e2), .val (.int nn2), .val (.int u2), .val (.ref b28), .val (.ref b40), .val (.double (FP.dadd (FP.dadd (FP.dmul (FP.i2d u1) (FP.i2d u2)) (FP.dmul (FP.i2d nn1) (FP.i2d nn2))) (FP.dmul (FP.i2d e1) (FP.i2d e2)))), .second, .unset, .unset] [(.long (u2.toInt64)), (.long (u1.toInt64)), (.long (((e1.toInt64) * (e2.toInt64)) + ((nn1.toInt64) * (nn2.toInt64))))]))
  refine own_st (fun t k => XS.lmul X55.here hx rfl (hb hby at_104) rfl k) ?_
  show own_Run p e below s _ _ _ (T55.setTop (mkF m 105 #[.val (.int i0), .val (.int i1), .val (.int i2), .val (.int i3), .val (.int i4), .val (.int i5), .val (.int e1), .val (.int nn1), .val (.int u1), .val (.int e2), .val (.int nn2), .val (.int u2), .val (.ref b28), .val (.ref b40), .val (.double (FP.dadd (FP.dadd (FP.dmul (FP.i2d u1) (FP.i2d u2)) (FP.dmul (FP.i2d nn1) (FP.i2d nn2))) (FP.dmul (FP.i2d e1) (FP.i2d e2)))), .second, .unset, .unset] [(.long ((u1.toInt64) * (u2.toInt64))), (.long (((e1.toInt64) * (e2.toInt64)) + ((nn1.toInt64) * (nn2.toInt64))))]))
  refine own_st (fun t k => XS.ladd X55.here hx rfl (hb hby at_105) rfl k) ?_
  show own_Run p e below s _ _ _ (T55.setTop (mkF m 106 #[.val (.int i0), .val (.int i1), .val (.int i2), .val (.int i3), .val (.int i4), .val (.int i5), .val (.int e1), .val (.int nn1), .val (.int u1), .val (.int e2), .val (.int nn2), .val (.int u2), .val (.ref b28), .val (.ref b40), .val (.double (FP.dadd (FP.dadd (FP.dmul (FP.i2d u1) (FP.i2d u2)) (FP.dmul (FP.i2d nn1) (FP.i2d nn2))) (FP.dmul (FP.i2d e1) (FP.i2d e2)))), .second, .unset, .unset] [(.long ((((e1.toInt64) * (e2.toInt64)) + ((nn1.toInt64) * (nn2.toInt64))) + ((u1.toInt64) * (u2.toInt64))))]))
  refine own_st (fun t k => XS.lstore X55.here hx rfl (hb hby at_106) rfl (l' := #[.val (.int i0), .val (.int i1), .val (.int i2), .val (.int i3), .val (.int i4), .val (.int i5), .val (.int e1), .val (.int nn1), .val (.int u1), .val (.int e2), .val (.int nn2), .val (.int u2), .val (.ref b28), .val (.ref b40), .val (.double (FP.dadd (FP.dadd (FP.dmul (FP.i2d u1) (FP.i2d u2)) (FP.dmul (FP.i2d nn1) (FP.i2d nn2))) (FP.dmul (FP.i2d e1) (FP.i2d e2)))), .second, .val (.long ((((e1.toInt64) * (e2.toInt64)) + ((nn1.toInt64) * (nn2.toInt64))) + ((u1.toInt64) * (u2.toInt64)))), .second]) rfl k) ?_
  show own_Run p e below s _ _ _ (T55.setTop (mkF m 108 #[.val (.int i0), .val (.int i1), .val (.int i2), .val (.int i3), .val (.int i4), .val (.int i5), .val (.int e1), .val (.int nn1), .val (.int u1), .val (.int e2), .val (.int nn2), .val (.int u2), .val (.ref b28), .val (.ref b40), .val (.double (FP.dadd (FP.dadd (FP.dmul (FP.i2d u1) (FP.i2d u2)) (FP.dmul (FP.i2d nn1) (FP.i2d nn2))) (FP.dmul (FP.i2d e1) (FP.i2d e2)))), .second, .val (.long ((((e1.toInt64) * (e2.toInt64)) + ((nn1.toInt64) * (nn2.toInt64))) + ((u1.toInt64) * (u2.toInt64)))), .second] []))
  refine own_st (fun t k => XS.dload X55.here hx rfl (hb hby at_108) rfl k) ?_
  show own_Run p e below s _ _ _ (T55.setTop (mkF m 110 #[.val (.int i0), .val (.int i1), .val (.int i2), .val (.int i3), .val (.int i4), .val (.int i5), .val (.int e1), .val (.int nn1), .val (.int u1), .val (.int e2), .val (.int nn2), .val (.int u2), .val (.ref b28), .val (.ref b40), .val (.double (FP.dadd (FP.dadd (FP.dmul (FP.i2d u1) (FP.i2d u2)) (FP.dmul (FP.i2d nn1) (FP.i2d nn2))) (FP.dmul (FP.i2d e1) (FP.i2d e2)))), .second, .val (.long ((((e1.toInt64) * (e2.toInt64)) + ((nn1.toInt64) * (nn2.toInt64))) + ((u1.toInt64) * (u2.toInt64)))), .second] [(.double (FP.dadd (FP.dadd (FP.dmul (FP.i2d u1) (FP.i2d u2)) (FP.dmul (FP.i2d nn1) (FP.i2d nn2))) (FP.dmul (FP.i2d e1) (FP.i2d e2))))]))
  refine own_st (fun t k => XS.lload X55.here hx rfl (hb hby at_110) rfl k) ?_
  show own_Run p e below s _ _ _ (T55.setTop (mkF m 112 #[.val (.int i0), .val (.int i1), .val (.int i2), .val (.int i3), .val (.int i4), .val (.int i5), .val (.int e1), .val (.int nn1), .val (.int u1), .val (.int e2), .val (.int nn2), .val (.int u2), .val (.ref b28), .val (.ref b40), .val (.double (FP.dadd (FP.dadd (FP.dmul (FP.i2d u1) (FP.i2d u2)) (FP.dmul (FP.i2d nn1) (FP.i2d nn2))) (FP.dmul (FP.i2d e1) (FP.i2d e2)))), .second, .val (.long ((((e1.toInt64) * (e2.toInt64)) + ((nn1.toInt64) * (nn2.toInt64))) + ((u1.toInt64) * (u2.toInt64)))), .second] [(.long ((((e1.toInt64) * (e2.toInt64)) + ((nn1.toInt64) * (nn2.toInt64))) + ((u1.toInt64) * (u2.toInt64)))), (.double (FP.dadd (FP.dadd (FP.dmul (FP.i2d u1) (FP.i2d u2)) (FP.dmul (FP.i2d nn1) (FP.i2d nn2))) (FP.dmul (FP.i2d e1) (FP.i2d e2))))]))
  refine own_st (fun t k => XS.l2dS X55.here hx rfl (hb hby at_112) rfl (v := (FP.l2d ((((e1.toInt64) * (e2.toInt64)) + ((nn1.toInt64) * (nn2.toInt64))) + ((u1.toInt64) * (u2.toInt64))))) (rfl) k) ?_
  show own_Run p e below s _ _ _ (T55.setTop (mkF m 113 #[.val (.int i0), .val (.int i1), .val (.int i2), .val (.int i3), .val (.int i4), .val (.int i5), .val (.int e1), .val (.int nn1), .val (.int u1), .val (.int e2), .val (.int nn2), .val (.int u2), .val (.ref b28), .val (.ref b40), .val (.double (FP.dadd (FP.dadd (FP.dmul (FP.i2d u1) (FP.i2d u2)) (FP.dmul (FP.i2d nn1) (FP.i2d nn2))) (FP.dmul (FP.i2d e1) (FP.i2d e2)))), .second, .val (.long ((((e1.toInt64) * (e2.toInt64)) + ((nn1.toInt64) * (nn2.toInt64))) + ((u1.toInt64) * (u2.toInt64)))), .second] [(.double (FP.l2d ((((e1.toInt64) * (e2.toInt64)) + ((nn1.toInt64) * (nn2.toInt64))) + ((u1.toInt64) * (u2.toInt64))))), (.double (FP.dadd (FP.dadd (FP.dmul (FP.i2d u1) (FP.i2d u2)) (FP.dmul (FP.i2d nn1) (FP.i2d nn2))) (FP.dmul (FP.i2d e1) (FP.i2d e2))))]))
  refine own_st (fun t k => XS.dcmpS X55.here hx rfl (hb hby at_113) rfl (v := (0 : Int32)) (qZ.cmpE (own_Z.l2d t2) (by rw [t1]; omega) _) k) ?_
  show own_Run p e below s _ _ _ (T55.setTop (mkF m 114 #[.val (.int i0), .val (.int i1), .val (.int i2), .val (.int i3), .val (.int i4), .val (.int i5), .val (.int e1), .val (.int nn1), .val (.int u1), .val (.int e2), .val (.int nn2), .val (.int u2), .val (.ref b28), .val (.ref b40), .val (.double (FP.dadd (FP.dadd (FP.dmul (FP.i2d u1) (FP.i2d u2)) (FP.dmul (FP.i2d nn1) (FP.i2d nn2))) (FP.dmul (FP.i2d e1) (FP.i2d e2)))), .second, .val (.long ((((e1.toInt64) * (e2.toInt64)) + ((nn1.toInt64) * (nn2.toInt64))) + ((u1.toInt64) * (u2.toInt64)))), .second] [(.int (0 : Int32))]))
  refine own_st (fun t k => XS.ifNo X55.here hx rfl (hb hby at_114) rfl ((if0 _ _).trans (teq (by decide : (0 : Int32) = (0 : Int32))).2) k) ?_
  show own_Run p e below s _ _ _ (T55.setTop (mkF m 117 #[.val (.int i0), .val (.int i1), .val (.int i2), .val (.int i3), .val (.int i4), .val (.int i5), .val (.int e1), .val (.int nn1), .val (.int u1), .val (.int e2), .val (.int nn2), .val (.int u2), .val (.ref b28), .val (.ref b40), .val (.double (FP.dadd (FP.dadd (FP.dmul (FP.i2d u1) (FP.i2d u2)) (FP.dmul (FP.i2d nn1) (FP.i2d nn2))) (FP.dmul (FP.i2d e1) (FP.i2d e2)))), .second, .val (.long ((((e1.toInt64) * (e2.toInt64)) + ((nn1.toInt64) * (nn2.toInt64))) + ((u1.toInt64) * (u2.toInt64)))), .second] []))
  refine own_st (fun t k => XS.iconst X55.here hx rfl (hb hby at_117) k) ?_
  show own_Run p e below s _ _ _ (T55.setTop (mkF m 118 #[.val (.int i0), .val (.int i1), .val (.int i2), .val (.int i3), .val (.int i4), .val (.int i5), .val (.int e1), .val (.int nn1), .val (.int u1), .val (.int e2), .val (.int nn2), .val (.int u2), .val (.ref b28), .val (.ref b40), .val (.double (FP.dadd (FP.dadd (FP.dmul (FP.i2d u1) (FP.i2d u2)) (FP.dmul (FP.i2d nn1) (FP.i2d nn2))) (FP.dmul (FP.i2d e1) (FP.i2d e2)))), .second, .val (.long ((((e1.toInt64) * (e2.toInt64)) + ((nn1.toInt64) * (nn2.toInt64))) + ((u1.toInt64) * (u2.toInt64)))), .second] [(.int (1 : Int32))]))
  refine own_st (fun t k => XS.goto X55.here hx rfl (pc0 := 118) (pc' := 122) rfl (hb hby at_118) (by decide) (by decide) k) ?_
  show own_Run p e below s _ _ _ (T55.setTop (mkF m 122 #[.val (.int i0), .val (.int i1), .val (.int i2), .val (.int i3), .val (.int i4), .val (.int i5), .val (.int e1), .val (.int nn1), .val (.int u1), .val (.int e2), .val (.int nn2), .val (.int u2), .val (.ref b28), .val (.ref b40), .val (.double (FP.dadd (FP.dadd (FP.dmul (FP.i2d u1) (FP.i2d u2)) (FP.dmul (FP.i2d nn1) (FP.i2d nn2))) (FP.dmul (FP.i2d e1) (FP.i2d e2)))), .second, .val (.long ((((e1.toInt64) * (e2.toInt64)) + ((nn1.toInt64) * (nn2.toInt64))) + ((u1.toInt64) * (u2.toInt64)))), .second] [(.int (1 : Int32))]))
  exact own_ret X55 hx hlk (t := .boolean) hret rfl (Or.inl ⟨rfl, by simp, _, rfl⟩) (hb hby at_122) (by decide) (by decide) ⟨rfl, N55⟩
set_option maxRecDepth 65536 in
set_option maxHeartbeats 40000000 in
theorem own_comes_1 {Post : Tables → Env → Array Value → State → Outcome → State → Prop} (hpost : ∀ tb e args s v u, (limb_1_1.after args s (.returned v) u = true ∧ limb_1_2.after args s (.returned v) u = true ∧ True) → FrameEnd s (.returned v) u (Jvm.fieldLocs frame_1_writes args s ++ Jvm.arrayLocs frame_1_arrays args s ++ Jvm.staticLocs frame_1_statics s) 16 128 → Post tb e args s (.returned v) u) :
    ArmFor flags0 classFile x code maxLocals ret World_1 tables_1 room_1 Calls_1 rest_1 Pre_1 Post := by
  intro l hfl _ _ p e ha hc hk s m args below hf hA hF happ hP
  obtain ⟨hcalls, hrest, hpre⟩ := hP
  obtain ⟨-, -, -, hnamed, -, -, -, hat⟩ := (Spec.applies_iff hf).mp happ
  obtain ⟨hg, hn⟩ := and_e (Cond.before_iff.mp (show (Jvm.Cond.and given_1 narrow_1).before args s = true from hpre))
  obtain ⟨gv1, gv2⟩ := and_e hg
  obtain ⟨gv3, gv4⟩ := and_e gv2
  obtain ⟨gv5, gv6⟩ := and_e gv4
  obtain ⟨gv7, gv8⟩ := and_e gv6
  obtain ⟨gv9, gv10⟩ := and_e gv8
  obtain ⟨gv11, gv12⟩ := and_e gv10
  obtain ⟨w0, w1, w2, w3, w4, w5, rfl⟩ : ∃ w0 w1 w2 w3 w4 w5 : Value, args = #[w0, w1, w2, w3, w4, w5] := by
    have hs : args.size = 6 := by simpa [Cond.value, given_1] using gv1
    obtain ⟨L⟩ := args
    match L, hs with
    | [w0, w1, w2, w3, w4, w5], _ => exact ⟨w0, w1, w2, w3, w4, w5, rfl⟩
  have hw := fun d (hd : d ∈ tables_1) => atoms_spec (ws := Jvm.Cond.code x code maxLocals ret :: tables_1) hat d (List.mem_cons_of_mem _ hd)
  have hfit : Fit s := fun {y c} hc i hi => by
    obtain ⟨ha, rfl⟩ := Array.getElem?_eq_some_iff.mp hc
    have q := List.all_eq_true.mp ((Array.all_eq_true_iff_forall_mem.mp hF) _ (Array.getElem_mem ha)) i (List.mem_range.mpr hi)
    simpa [Array.getElem?_eq_getElem hi] using q
  obtain ⟨i0, ei0⟩ := is_v gv3
  obtain rfl : w0 = (.int i0) := Option.some.inj ei0
  obtain ⟨i1, ei1⟩ := is_v gv5
  obtain rfl : w1 = (.int i1) := Option.some.inj ei1
  obtain ⟨i2, ei2⟩ := is_v gv7
  obtain rfl : w2 = (.int i2) := Option.some.inj ei2
  obtain ⟨i3, ei3⟩ := is_v gv9
  obtain rfl : w3 = (.int i3) := Option.some.inj ei3
  obtain ⟨i4, ei4⟩ := is_v gv11
  obtain rfl : w4 = (.int i4) := Option.some.inj ei4
  obtain ⟨i5, ei5⟩ := is_v gv12
  obtain rfl : w5 = (.int i5) := Option.some.inj ei5
  obtain ⟨n, o, h1, h2, h3, _, L, rfl, ⟨rfl, N⟩, hq⟩ := own_rm0 l s _ hw tables_1 i0 i1 i2 i3 i4 i5 s.heap s.heap.size (Nat.le_refl _) (Old.start s)  p e ha hc hk s m _ below hf ((Spec.applies_iff_loose hf).mp happ).1 ⟨rfl, State.Warmed39.refl s, rfl⟩ trivial
  refine ⟨n, _, h1, h2, h3, hpost _ _ _ _ _ _ ⟨Cond.after_iff.mpr rfl, Cond.after_iff.mpr (eq_i res_at (Term.int_eval (1)) rfl), trivial⟩ ⟨hq.1, hq.2.1, (hq.2.2.sift fun y hy => Or.inr (N y hy)).mono (by decide) (by decide)⟩⟩
theorem main_1_1 : Claimed_1_1 := own_comes_1 fun _ _ _ _ _ _ h hF => ⟨h.1, hF⟩
theorem main_1_2 : Claimed_1_2 := own_comes_1 fun _ _ _ _ _ _ h hF => ⟨h.2.1, hF⟩
end Jvm.Pilot.@@N@@
namespace Jvm.Pilot.@@N@@
open Jvm Jvm.ClassFile Sem Op Lib Jvm.Free Jvm.Stand Jvm.Pilot.@@N@@.Jvm.D
/-! MADE BY PROGRAM (witnessworld.py) out of the Statement's table words and the real class files: 10 classes; the members and pool entries that the words name. The judged class is class 1, her method 1. -/
namespace start1
open Jvm.ClassFile
def u (s : String) : CpInfo := .utf8 (stringToUtf16 s)
/-- a pool by its gaps: so many unusable entries, then the entry; so many at the end -/
def gap : Nat → List CpInfo → List CpInfo
  | 0, r => r
  | n + 1, r => .unusable :: gap n r
def poolList (es : List (Nat × CpInfo)) (last : Nat) : List CpInfo := es.foldr (fun e r => gap e.1 (e.2 :: r)) (gap last [])
def pool (es : List (Nat × CpInfo)) (last : Nat) : Array CpInfo := ⟨poolList es last⟩
def fileOf (pool : Array CpInfo) (this : Nat) (attrs : Array Attribute := #[]) (ms : Array MethodInfo := #[]) (fl : Nat := 33) (sup : Nat := 0) (ifs : Array Nat := #[]) (fds : Array FieldInfo := #[]) : ClassFile where
  minorVersion := 0
  majorVersion := 65
  constantPool := pool
  accessFlags := fl
  thisClass := this
  superClass := sup
  interfaces := ifs
  fields := fds
  methods := ms
  attributes := attrs
def plain (name : String) (sup : Option ClassId) : Class where
  name := name
  kind := .ordinary
  loader := none
  accessFlags := 33
  super := sup
  interfaces := #[]
  cf := none
  fields := #[]
  methods := #[]
  instanceTypes := #[]
  staticTypes := #[]
  resolved := #[]
  callSites := []
  init := .initialized
  statics := none
  mirror := none

def pool0 : Array CpInfo := pool [(5, u "<init>"), (0, u "()V"), (1, .class_ 10), (1, u "java/lang/Object")] 113

def k0c0 : Code := { maxStack := 0, maxLocals := 1, code := object_method_1_code, exceptionTable := #[], attributes := #[] }
def k0m0 : Method := { name := "<init>", desc := "()V", sig := { parameters := [], returnType := none }, accessFlags := 1, code := some k0c0 }
/-- java/lang/Object -/
def k0 : Class := { plain "java/lang/Object" none with
  accessFlags := 33
  interfaces := #[]
  cf := some (fileOf pool0 8 #[] #[{ accessFlags := 1, nameIndex := 5, descriptorIndex := 6, attributes := #[] }] 33 0 #[] #[])
  fields := #[]
  methods := #[k0m0]
  instanceTypes := #[]
  staticTypes := #[]
  resolved := Array.replicate 124 none
  statics := none }

def pool1 : Array CpInfo := pool [(2, .class_ 4), (1, u "java/lang/Object"), (0, u "<init>"), (0, u "()V"), (0, .class_ 8), (0, u "com/example/helioslope/helioslope/terrain/Direction"), (0, .methodref 7 10), (0, .nameAndType 5 11), (0, u "(DDD)V"), (0, .methodref 7 13), (0, .nameAndType 14 15), (0, u "cos"), (0, u "(Lcom/example/helioslope/helioslope/terrain/Direction;)D"), (0, .class_ 17), (0, u "com/example/helioslope/helioslope/terrain/DirectionCosPinLaw"), (2, u "law"), (0, u "(IIIIII)Z")] 3

def k1m0 : Method := { name := "<init>", desc := "()V", sig := { parameters := [], returnType := none }, accessFlags := 1, code := none }
def k1c1 : Code := { maxStack := 8, maxLocals := 18, code := code, exceptionTable := #[], attributes := #[] }
def k1m1 : Method := { name := "law", desc := "(IIIIII)Z", sig := { parameters := [.int, .int, .int, .int, .int, .int], returnType := some .boolean }, accessFlags := 9, code := some k1c1 }
/-- com/example/helioslope/helioslope/terrain/DirectionCosPinLaw -/
def k1 : Class := { plain "com/example/helioslope/helioslope/terrain/DirectionCosPinLaw" (some 0) with
  accessFlags := 49
  interfaces := #[]
  cf := some (fileOf pool1 16 #[] #[{ accessFlags := 1, nameIndex := 5, descriptorIndex := 6, attributes := #[] }, { accessFlags := 9, nameIndex := 20, descriptorIndex := 21, attributes := #[] }] 49 2 #[] #[])
  fields := #[]
  methods := #[k1m0, k1m1]
  instanceTypes := #[]
  staticTypes := #[]
  resolved := Array.replicate 25 none
  statics := none }

def pool2 : Array CpInfo := pool [(1, .methodref 2 3), (0, .class_ 4), (0, .nameAndType 5 6), (0, u "java/lang/Object"), (0, u "<init>"), (0, u "()V"), (0, .class_ 8), (0, u "java/lang/Record")] 13

def k2c0 : Code := { maxStack := 1, maxLocals := 1, code := jdk_30_method_1_code, exceptionTable := #[], attributes := #[] }
def k2m0 : Method := { name := "<init>", desc := "()V", sig := { parameters := [], returnType := none }, accessFlags := 4, code := some k2c0 }
/-- java/lang/Record -/
def k2 : Class := { plain "java/lang/Record" (some 0) with
  accessFlags := 1057
  interfaces := #[]
  cf := some (fileOf pool2 7 #[] #[{ accessFlags := 4, nameIndex := 5, descriptorIndex := 6, attributes := #[] }] 1057 2 #[] #[])
  fields := #[]
  methods := #[k2m0]
  instanceTypes := #[]
  staticTypes := #[]
  resolved := Array.replicate 22 none
  statics := none }

def pool3 : Array CpInfo := pool [(1, .methodref 2 3), (0, .class_ 4), (0, .nameAndType 5 6), (0, u "java/lang/Record"), (0, u "<init>"), (0, u "()V"), (0, .fieldref 8 9), (0, .class_ 10), (0, .nameAndType 11 12), (0, u "com/example/helioslope/helioslope/terrain/Direction"), (0, u "east"), (0, u "D"), (0, .fieldref 8 14), (0, .nameAndType 15 12), (0, u "north"), (0, .fieldref 8 17), (0, .nameAndType 18 12), (0, u "up"), (11, u "cos"), (2, u "(DDD)V"), (34, u "(Lcom/example/helioslope/helioslope/terrain/Direction;)D")] 26

def k3c0 : Code := { maxStack := 3, maxLocals := 7, code := prog_93_method_1_code, exceptionTable := #[], attributes := #[] }
def k3m0 : Method := { name := "<init>", desc := "(DDD)V", sig := { parameters := [.double, .double, .double], returnType := none }, accessFlags := 0, code := some k3c0 }
def k3c1 : Code := { maxStack := 6, maxLocals := 2, code := prog_93_method_4_code, exceptionTable := #[], attributes := #[] }
def k3m1 : Method := { name := "cos", desc := "(Lcom/example/helioslope/helioslope/terrain/Direction;)D", sig := { parameters := [(.object "com/example/helioslope/helioslope/terrain/Direction")], returnType := some .double }, accessFlags := 0, code := some k3c1 }
/-- com/example/helioslope/helioslope/terrain/Direction -/
def k3 : Class := { plain "com/example/helioslope/helioslope/terrain/Direction" (some 2) with
  accessFlags := 48
  interfaces := #[]
  cf := some (fileOf pool3 8 #[] #[{ accessFlags := 0, nameIndex := 5, descriptorIndex := 33, attributes := #[] }, { accessFlags := 0, nameIndex := 30, descriptorIndex := 68, attributes := #[] }] 48 2 #[] #[{ accessFlags := 18, nameIndex := 11, descriptorIndex := 12, attributes := #[] }, { accessFlags := 18, nameIndex := 15, descriptorIndex := 12, attributes := #[] }, { accessFlags := 18, nameIndex := 18, descriptorIndex := 12, attributes := #[] }])
  fields := #[{ name := "east", type := .double, accessFlags := 18, slot := 0, constantValue := 0 }, { name := "north", type := .double, accessFlags := 18, slot := 1, constantValue := 0 }, { name := "up", type := .double, accessFlags := 18, slot := 2, constantValue := 0 }]
  methods := #[k3m0, k3m1]
  instanceTypes := #[.double, .double, .double]
  staticTypes := #[]
  resolved := Array.replicate 95 none
  statics := none }

def pool4 : Array CpInfo := pool [(1, u "java/lang/Cloneable"), (0, .class_ 1), (0, u "java/lang/Object"), (0, .class_ 3)] 3

/-- java/lang/Cloneable -/
def k4 : Class := { plain "java/lang/Cloneable" (some 0) with
  accessFlags := 1537
  interfaces := #[]
  cf := some (fileOf pool4 2 #[] #[] 1537 4 #[] #[])
  fields := #[]
  methods := #[]
  instanceTypes := #[]
  staticTypes := #[]
  resolved := Array.replicate 8 none
  statics := none }

def pool5 : Array CpInfo := pool [(1, u "java/io/Serializable"), (0, .class_ 1), (0, u "java/lang/Object"), (0, .class_ 3)] 3

/-- java/io/Serializable -/
def k5 : Class := { plain "java/io/Serializable" (some 0) with
  accessFlags := 1537
  interfaces := #[]
  cf := some (fileOf pool5 2 #[] #[] 1537 4 #[] #[])
  fields := #[]
  methods := #[]
  instanceTypes := #[]
  staticTypes := #[]
  resolved := Array.replicate 8 none
  statics := none }

/-- the primitive byte -/
def k6 : Class := { plain "byte" none with kind := .primitive 'B', accessFlags := 0x411 }
/-- [B -/
def k7 : Class := { plain "[B" (some 0) with kind := .array 6 .byte, interfaces := #[4, 5], accessFlags := 1041 }

/-- the primitive int -/
def k8 : Class := { plain "int" none with kind := .primitive 'I', accessFlags := 0x411 }
/-- [I -/
def k9 : Class := { plain "[I" (some 0) with kind := .array 8 .int, interfaces := #[4, 5], accessFlags := 1041 }

def heap : Heap := #[]
def classes : Array Class := #[k0, k1, k2, k3, k4, k5, k6, k7, k8, k9]
def interned : List (Array UInt16 × Addr) := []
def slotsUsed : Nat := 0
def theMethod : MethodId := ⟨1, 1⟩
def args0 : Array Value := #[.int 1, .int 2, .int 3, .int 4, .int 2, .int 3]
def aboutOver (below : List Frame) : State where
  vm := { classes := classes, interned := interned.toArray }
  heap := heap
  slotsUsed := slotsUsed
  threads := #[{ frames := .invoking theMethod args0 :: below }]
def below0 : List Frame := [.native { method := ⟨0, 0⟩, args := #[] }]
def about1 : State := aboutOver below0
def p0 : Program := .bare "" "" ""
def e0 : Env := launch0.env 0 0 0
theorem w_frames : about1.frames = Frame.invoking theMethod args0 :: below0 := rfl
set_option maxRecDepth 65536 in
theorem w_args : argsFit about1.vm theMethod args0 = true := by decide +kernel
set_option maxRecDepth 65536 in
theorem w_heap : heapFits about1 = true := by decide +kernel
set_option maxRecDepth 65536 in
theorem w_runnable : about1.curStatus? = some .runnable := by decide +kernel
set_option maxRecDepth 65536 in
theorem w_alone : about1.alone = true := by decide +kernel
set_option maxRecDepth 65536 in
theorem w_named : about1.methodNamed? x = some theMethod := by decide +kernel
set_option maxRecDepth 65536 in
theorem w_hears : about1.hears theMethod below0 = true := by decide +kernel
set_option maxRecDepth 65536 in
theorem w_ripe : about1.ripe theMethod args0 below0 = true := by decide +kernel
theorem w_running : about1.status = .running := rfl
set_option maxRecDepth 65536 in
theorem w_room : about1.hasRoom e0.platform room_1 = true :=
  launch0.hasRoom_least _ room_1 (by decide +kernel) (by decide +kernel) (by decide +kernel) (by decide +kernel) (by decide +kernel) (by decide +kernel)
theorem allAtoms_all (ts : List Jvm.Cond) (a : Array Jvm.Value) (st : Jvm.State) : (allAtoms ts).before a st = ts.all (fun c => c.before a st) := by
  induction ts with
  | nil => rfl
  | cons c t ih =>
    show (Jvm.Cond.and c (allAtoms t)).before a st = _
    rw [Jvm.Cond.before_and, ih, List.all_cons]
def words1 : List Jvm.Cond := Jvm.Cond.code x code maxLocals ret :: tables_1
/-- a 'code' word, met by the world's own term for the bytes: nothing is compared byte by byte -/
theorem code_word {y : MethodName} {bytes : ByteArray} {mx : Nat} {rt : Option FieldType} {a : Array Value} {s : State} {m : MethodId} {meth : Method} {c : Code} (h1 : s.methodNamed? y = some m) (h2 : s.vm.method? m = some meth) (h3 : meth.code = some c) (h4 : c.code = bytes)
    (h5 : (c.maxLocals == mx && c.exceptionTable.isEmpty && decide (c.maxStack ≤ mostOperands) && decide (meth.sig.returnType = rt) && !meth.locks && decide (parseMethodDescriptor y.desc = some meth.sig)) = true) : (Jvm.Cond.code y bytes mx rt).before a s = true := by
  simp only [Bool.and_eq_true, beq_iff_eq, Bool.not_eq_true', decide_eq_true_eq] at h5
  obtain ⟨⟨⟨⟨⟨g1, g2⟩, g3⟩, g4⟩, g5⟩, g6⟩ := h5
  simp [Cond.before, Cond.holds, Cond.value, h1, h2, h3, h4, g1, g2, g3, g4, g5, g6]
def isCode : Jvm.Cond → Bool
  | .code _ _ _ _ => true
  | _ => false
theorem all_split {L : List Jvm.Cond} {P : Jvm.Cond → Bool} (h1 : L.all (fun c => isCode c || P c) = true) (h2 : ∀ c ∈ L.filter isCode, P c = true) : L.all P = true := by
  refine List.all_eq_true.mpr fun c hc => ?_
  have h := List.all_eq_true.mp h1 c hc
  rcases Bool.eq_false_or_eq_true (isCode c) with hi | hi
  · exact h2 c (List.mem_filter.mpr ⟨hc, hi⟩)
  · simpa [hi] using h
set_option maxRecDepth 65536 in
theorem w_c0 : (Jvm.Cond.code x code maxLocals ret).before args0 about1 = true := code_word (m := ⟨1, 1⟩) (meth := k1m1) (c := k1c1) (by decide +kernel) rfl rfl rfl (by decide +kernel)
set_option maxRecDepth 65536 in
theorem w_c1 : (Jvm.Cond.code ({ cls := "com/example/helioslope/helioslope/terrain/Direction", name := "<init>", desc := "(DDD)V" } : Jvm.MethodName) prog_93_method_1_code (7 : Nat) (Option.none : Option Jvm.ClassFile.FieldType)).before args0 about1 = true := code_word (m := ⟨3, 0⟩) (meth := k3m0) (c := k3c0) (by decide +kernel) rfl rfl rfl (by decide +kernel)
set_option maxRecDepth 65536 in
theorem w_c2 : (Jvm.Cond.code ({ cls := "java/lang/Record", name := "<init>", desc := "()V" } : Jvm.MethodName) jdk_30_method_1_code (1 : Nat) (Option.none : Option Jvm.ClassFile.FieldType)).before args0 about1 = true := code_word (m := ⟨2, 0⟩) (meth := k2m0) (c := k2c0) (by decide +kernel) rfl rfl rfl (by decide +kernel)
set_option maxRecDepth 65536 in
theorem w_c3 : (Jvm.Cond.code ({ cls := "java/lang/Object", name := "<init>", desc := "()V" } : Jvm.MethodName) object_method_1_code (1 : Nat) (Option.none : Option Jvm.ClassFile.FieldType)).before args0 about1 = true := code_word (m := ⟨0, 0⟩) (meth := k0m0) (c := k0c0) (by decide +kernel) rfl rfl rfl (by decide +kernel)
set_option maxRecDepth 65536 in
theorem w_c4 : (Jvm.Cond.code ({ cls := "com/example/helioslope/helioslope/terrain/Direction", name := "cos", desc := "(Lcom/example/helioslope/helioslope/terrain/Direction;)D" } : Jvm.MethodName) prog_93_method_4_code (2 : Nat) (Option.some Jvm.ClassFile.FieldType.double)).before args0 about1 = true := code_word (m := ⟨3, 1⟩) (meth := k3m1) (c := k3c1) (by decide +kernel) rfl rfl rfl (by decide +kernel)
def codes1 : List Jvm.Cond := [Jvm.Cond.code x code maxLocals ret, Jvm.Cond.code ({ cls := "com/example/helioslope/helioslope/terrain/Direction", name := "<init>", desc := "(DDD)V" } : Jvm.MethodName) prog_93_method_1_code (7 : Nat) (Option.none : Option Jvm.ClassFile.FieldType), Jvm.Cond.code ({ cls := "java/lang/Record", name := "<init>", desc := "()V" } : Jvm.MethodName) jdk_30_method_1_code (1 : Nat) (Option.none : Option Jvm.ClassFile.FieldType), Jvm.Cond.code ({ cls := "java/lang/Object", name := "<init>", desc := "()V" } : Jvm.MethodName) object_method_1_code (1 : Nat) (Option.none : Option Jvm.ClassFile.FieldType), Jvm.Cond.code ({ cls := "com/example/helioslope/helioslope/terrain/Direction", name := "cos", desc := "(Lcom/example/helioslope/helioslope/terrain/Direction;)D" } : Jvm.MethodName) prog_93_method_4_code (2 : Nat) (Option.some Jvm.ClassFile.FieldType.double)]
set_option maxRecDepth 65536 in
theorem codes_eq : words1.filter isCode = codes1 := rfl
theorem w_codes : ∀ c ∈ words1.filter isCode, c.before args0 about1 = true := by
  rw [codes_eq]
  intro c hc
  simp only [codes1, List.mem_cons, List.not_mem_nil, or_false] at hc
  rcases hc with rfl | rfl | rfl | rfl | rfl
  · exact w_c0
  · exact w_c1
  · exact w_c2
  · exact w_c3
  · exact w_c4
set_option maxRecDepth 65536 in
theorem w_t1 : (words1.take 24).all (fun c => isCode c || c.before args0 about1) = true := by decide +kernel
set_option maxRecDepth 65536 in
theorem w_t2 : (words1.drop 24).all (fun c => isCode c || c.before args0 about1) = true := by decide +kernel
theorem w_tables : (allAtoms (Jvm.Cond.code x code maxLocals ret :: tables_1)).before args0 about1 = true := by
  rw [allAtoms_all]
  show words1.all (fun c => c.before args0 about1) = true
  refine all_split ?_ w_codes
  rw [← List.take_append_drop 24 words1, List.all_append, w_t1, w_t2]
  rfl
set_option maxRecDepth 65536 in
theorem w_case : (Jvm.Cond.and given_1 narrow_1).before args0 about1 = true := by decide +kernel
theorem w_applies : (headSpec (Jvm.Cond.code x code maxLocals ret :: tables_1) room_1).applies x e0.platform about1 = true :=
  (Spec.applies_iff w_frames).mpr ⟨w_running, w_runnable, w_alone, w_named, w_hears, w_ripe, w_room, w_tables⟩
theorem atStart : AtStart classFile x code maxLocals ret World_1 tables_1 room_1 Calls_1 rest_1 Pre_1 launch0 p0 e0 about1 theMethod args0 below0 :=
  ⟨lists_1, trivial, launch0.admits_env _ _ _, launch0.least_env, fairChoices_fair.cas, fairChoices_fair.clock, w_frames, w_args, w_heap, w_applies, trivial, trivial, w_case⟩
end start1
theorem witness_1 : WitnessClaimed_1 := ⟨start1.p0, start1.e0, start1.about1, start1.theMethod, start1.args0, start1.below0, start1.atStart⟩
end Jvm.Pilot.@@N@@
