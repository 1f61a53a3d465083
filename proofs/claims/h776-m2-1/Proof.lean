import JvmDerived
import JvmDerived.Pilot.@@N@@Statement
import JvmDerived.Pilot.@@N@@Code
set_option linter.unusedVariables false
set_option linter.unusedSimpArgs false
namespace Jvm.Pilot.@@N@@
open Jvm Jvm.ClassFile Sem Op Lib Jvm.Free Jvm.Stand Jvm.LawKit Jvm.RoadKit Bundle Jvm.Pilot.@@N@@.Jvm.D
def own_Run (p : Program) (e : Env) (below : List Frame) (s : State) (Q : Option Value → Heap → List Loc → Prop) (ck sk : Nat) (U : State) : Prop :=
  ∃ s₂ o, Steps p.tables e below U s₂ ∧ s₂.status = .running ∧ Ended s₂ below o ∧ ∃ v L, o = .returned v ∧ Q v s₂.heap L ∧ FrameEnd s o s₂ L ck sk
section OwnLayer
variable {p : Program} {l : Launch} {e : Env} {R : Room} {s : State} {m : MethodId} {args : Array Value} {below : List Frame} {meth : Method} {c : Code} {T : State} {locs : List Loc} {cells slots : Nat} {Z : State} {a0 : Array Value} {h : Heap} {Q : Option Value → Heap → List Loc → Prop} {ck sk : Nat}
theorem own_st {U U' : State} (hh : ∀ t, Steps p.tables e below U' t → Steps p.tables e below U t) (K : own_Run p e below s Q ck sk U') : own_Run p e below s Q ck sk U := by
  obtain ⟨s2, o, h1, r⟩ := K
  exact ⟨s2, o, hh _ h1, r⟩
theorem own_topI {pc : Nat} {Ls : Array Slot} {st : List Value} {v v' : Int32} (hv : v = v') (K : own_Run p e below s Q ck sk (T.setTop (mkF m pc Ls (.int v' :: st)))) : own_Run p e below s Q ck sk (T.setTop (mkF m pc Ls (.int v :: st))) := hv ▸ K
theorem own_topJ {pc : Nat} {Ls : Array Slot} {st : List Value} {v v' : Int64} (hv : v = v') (K : own_Run p e below s Q ck sk (T.setTop (mkF m pc Ls (.long v' :: st)))) : own_Run p e below s Q ck sk (T.setTop (mkF m pc Ls (.long v :: st))) := hv ▸ K
theorem own_topD {pc : Nat} {Ls : Array Slot} {st : List Value} {v v' : UInt64} (hv : v = v') (K : own_Run p e below s Q ck sk (T.setTop (mkF m pc Ls (.double v' :: st)))) : own_Run p e below s Q ck sk (T.setTop (mkF m pc Ls (.double v :: st))) := hv ▸ K
theorem own_ret (X : Stand p l e R s m args below meth c T locs cells slots) (hx : p.tables.exec = Jvm.exec) (hlk : meth.locks = false) {pc : Nat} {Ls : Array Slot} {w : Value} {t : FieldType} {i : Instr} {rest : List Value} (hret : meth.sig.returnType = some t) (hn : narrow t w = w)
    (hi : (i = .ireturn ∧ (t = .int ∨ t = .boolean ∨ t = .byte ∨ t = .char ∨ t = .short) ∧ ∃ z, w = .int z) ∨ (i = .lreturn ∧ t = .long ∧ ∃ z, w = .long z) ∨ (i = .dreturn ∧ t = .double ∧ ∃ z, w = .double z) ∨ (i = .freturn ∧ t = .float ∧ ∃ z, w = .float z) ∨ (i = .areturn ∧ t.isReference = true ∧ w.isRef = true))
    (hd : decode c.code pc = .ok (i, 1)) (hc : cells ≤ ck) (hs : slots ≤ sk) (hq : Q (some w) T.heap locs) : own_Run p e below s Q ck sk (T.setTop (mkF m pc Ls (w :: rest))) := by
  obtain ⟨fs, hr, hrun, hended, hW, hsame⟩ := X.leave (v := some w) (fun q => by rw [hret] at q; cases q) hlk
  exact ⟨_, _, retOut X hx hret hn hi hd hr, hrun, hended, _, _, rfl, hq, ⟨_, rfl⟩, hW, hsame.mono hc hs⟩
theorem own_retV (X : Stand p l e R s m args below meth c T locs cells slots) (hx : p.tables.exec = Jvm.exec) (hlk : meth.locks = false) {pc : Nat} {Ls : Array Slot} (hret : meth.sig.returnType = none)
    (hd : decode c.code pc = .ok (.return_, 1)) (hc : cells ≤ ck) (hs : slots ≤ sk) (hq : Q none T.heap locs) : own_Run p e below s Q ck sk (T.setTop (mkF m pc Ls [])) := by
  obtain ⟨fs, hr, hrun, hended, hW, hsame⟩ := X.leave (v := none) (fun _ => rfl) hlk
  exact ⟨_, _, X.returnOut hx hret hd hr, hrun, hended, _, _, rfl, hq, ⟨_, rfl⟩, hW, hsame.mono hc hs⟩
theorem own_body {y : MethodName} {bytes : ByteArray} {maxL : Nat} {ret : Option FieldType} {ws : List Jvm.Cond} {rm : Room} {as' : Array Value} {h0 : Heap} (hpl : plainFor y = true)
    (hbody : ∀ (p : Program) (e : Env) (s : State) (m : MethodId) (below : List Frame) (meth : Method) (c : Code) (s₁ : State), p.tables.exec = Jvm.exec → c.code = bytes → c.maxLocals = maxL → Z.Warmed39 s.vm → s.vm.findClass y.cls = some m.cls → meth.name = y.name → meth.sig.returnType = ret → meth.locks = false → Stand p l e rm s m as' below meth c s₁ [] 0 0 → s₁.heap = h0 → own_Run p e below s Q rm.cells rm.slots (s₁.setTop (entryFrame m as' maxL))) :
    MetFree l y (head1 (Jvm.Cond.code y bytes maxL ret :: ws) rm) (fun a U => a = as' ∧ Z.Warmed39 U.vm ∧ U.heap = h0) (fun _ _ _ _ _ => True) (fun _ U o U' => ∃ v L, o = .returned v ∧ Q v U'.heap L ∧ FrameEnd U o U' L rm.cells rm.slots) := by
  refine MetFree.of_bodySF hpl hisR ?_
  intro p e s m args below meth c s₁ Bd hml0 hP hK
  obtain ⟨rfl, hZ, hh⟩ := hP
  exact hbody p e s m below meth c s₁ Bd.exec Bd.bytes hml0 hZ (findClass_of_methodNamed Bd.named) (name_of_methodNamed Bd.named Bd.method).1 Bd.returns Bd.notSynchronized (Stand.of_body Bd) (by rw [← hh, Bd.state]; rfl)
theorem own_callI (X : Stand p l e R s m args below meth c T locs cells slots) (hx : p.tables.exec = Jvm.exec) (hZ : Z.Warmed39 s.vm) {own : String} {idx : Nat} {y : MethodName} (hy1 : y.name = "<init>") (hown : s.vm.findClass own = some m.cls) (w1 : (Jvm.Cond.methodLink own idx y).before a0 Z = true) (w2 : (Jvm.Cond.instanceMethod y).before a0 Z = true)
    {bytes : ByteArray} {maxL : Nat} (w3 : (Jvm.Cond.code y bytes maxL none).before a0 Z = true) (wz : (Jvm.Cond.initialized y.cls).before a0 Z = true) (hy : y.cls ≠ "java/lang/invoke/MethodHandle" ∧ y.cls ≠ "java/lang/invoke/VarHandle") (eT : T.heap = h) {rm : Room} {Qc : Option Value → Heap → List Loc → Prop} {a : Addr} {argsL rest : List Value}
    (hM : MetFree l y (head1 [Jvm.Cond.code y bytes maxL none] rm) (fun b U => b = (Value.ref a :: argsL).toArray ∧ Z.Warmed39 U.vm ∧ U.heap = h) (fun _ _ _ _ _ => True) (fun _ U o U' => ∃ v L, o = .returned v ∧ Qc v U'.heap L ∧ FrameEnd U o U' L rm.cells rm.slots))
    {W : Nat} (hf : rm.frames + 1 ≤ R.frames) (hl : W + (maxL + 11) + rm.locals ≤ R.locals) {pc : Nat} {Ls : Array Slot} {st : List Value} (hsize : Ls.size = c.maxLocals) (hlen : ∀ sig, parseMethodDescriptor y.desc = some sig → argsL.length = sig.parameters.length) (hst : st = argsL.reverse ++ .ref a :: rest) (hW : (rest.map fun v => v.category).sum ≤ W) (hd : decode c.code pc = .ok (.invokespecial idx, 3)) (hc : cells + rm.cells ≤ R.cells) (hs : slots + rm.slots ≤ R.slots)
    (K : ∀ (T' : State) (v : Option Value) (L : List Loc), Stand p l e R s m args below meth c T' (locs ++ L) (cells + rm.cells) (slots + rm.slots) → Qc v T'.heap L → own_Run p e below s Q ck sk (T'.setTop (mkF m (pc + 3) Ls (v.toList ++ rest)))) :
    own_Run p e below s Q ck sk (T.setTop (mkF m pc Ls st)) := by
  obtain ⟨v, _, ⟨T', L', k', n'⟩, -, X', ⟨Lc, hQ, hl', hk', hn'⟩, st'⟩ := X.specialBack hx (y := y) hy1 hown (mvT hZ w1) (mvT hZ w2) (mvT hZ w3) hy (backOf (W := W) hM hZ w3 wz hf hl) (g := mkF m pc Ls st) rfl hsize (Steps.refl _) (a := a) (argsL := argsL) (rest := rest) hlen hst (by show 2 * 0 + _ ≤ _; omega) hd (fun _ _ => ⟨rfl, eT, hc, hs⟩)
  dsimp only [Pt.U, Pt.locs, Pt.cells, Pt.slots] at X' hl' hk' hn' st' hQ
  subst hl' hk' hn'
  exact own_st (fun t k => st'.trans k) (K T' v Lc X' hQ)
theorem own_callV (X : Stand p l e R s m args below meth c T locs cells slots) (hx : p.tables.exec = Jvm.exec) (hZ : Z.Warmed39 s.vm) {own C : String} {idx : Nat} {y : MethodName} (hown : s.vm.findClass own = some m.cls) (w1 : (Jvm.Cond.methodLink own idx y).before a0 Z = true) (w2 : (Jvm.Cond.declares y).before a0 Z = true) (w3 : (Jvm.Cond.selects C y y).before a0 Z = true) (w4 : (Jvm.Cond.instanceMethod y).before a0 Z = true)
    {bytes : ByteArray} {maxL : Nat} {ret : Option FieldType} (w5 : (Jvm.Cond.code y bytes maxL ret).before a0 Z = true) (wz : (Jvm.Cond.initialized y.cls).before a0 Z = true) (hy : y.cls ≠ "java/lang/invoke/MethodHandle" ∧ y.cls ≠ "java/lang/invoke/VarHandle") (eT : T.heap = h) {a : Addr} (E : Exa Z h a C) {rm : Room} {Qc : Option Value → Heap → List Loc → Prop} {argsL rest : List Value}
    (hM : MetFree l y (head1 [Jvm.Cond.code y bytes maxL ret] rm) (fun b U => b = (Value.ref a :: argsL).toArray ∧ Z.Warmed39 U.vm ∧ U.heap = h) (fun _ _ _ _ _ => True) (fun _ U o U' => ∃ v L, o = .returned v ∧ Qc v U'.heap L ∧ FrameEnd U o U' L rm.cells rm.slots))
    {W : Nat} (hf : rm.frames + 1 ≤ R.frames) (hl : W + (maxL + 11) + rm.locals ≤ R.locals) {pc : Nat} {Ls : Array Slot} {st : List Value} (hsize : Ls.size = c.maxLocals) (hlen : ∀ sig, parseMethodDescriptor y.desc = some sig → argsL.length = sig.parameters.length) (hst : st = argsL.reverse ++ .ref a :: rest) (hW : (rest.map fun v => v.category).sum ≤ W) (hd : decode c.code pc = .ok (.invokevirtual idx, 3)) (hc : cells + rm.cells ≤ R.cells) (hs : slots + rm.slots ≤ R.slots)
    (K : ∀ (T' : State) (v : Option Value) (L : List Loc), Stand p l e R s m args below meth c T' (locs ++ L) (cells + rm.cells) (slots + rm.slots) → Qc v T'.heap L → own_Run p e below s Q ck sk (T'.setTop (mkF m (pc + 3) Ls (v.toList ++ rest)))) :
    own_Run p e below s Q ck sk (T.setTop (mkF m pc Ls st)) := by
  obtain ⟨cq, kq, qa, qb, qc⟩ := isOf hZ eT E
  obtain ⟨v, _, ⟨T', L', k', n'⟩, -, X', ⟨Lc, hQ, hl', hk', hn'⟩, st'⟩ := X.virtualBack hx (y := y) (z := y) hown (mvT hZ w1) (mvT hZ w2) (notFace_of_selects (args := #[]) (mvT hZ w3)) (mvT hZ w3) (mvT hZ w4) hy (backOf (W := W) hM hZ w5 wz hf hl) qa qc (g := mkF m pc Ls st) rfl hsize (Steps.refl _) (argsL := argsL) (rest := rest) hlen hst (by show 2 * 0 + _ ≤ _; omega) hd (fun _ _ => ⟨rfl, eT, hc, hs⟩)
  dsimp only [Pt.U, Pt.locs, Pt.cells, Pt.slots] at X' hl' hk' hn' st' hQ
  subst hl' hk' hn'
  exact own_st (fun t k => st'.trans k) (K T' v Lc X' hQ)
theorem own_callS (X : Stand p l e R s m args below meth c T locs cells slots) (hx : p.tables.exec = Jvm.exec) (hZ : Z.Warmed39 s.vm) {own : String} {idx : Nat} {y : MethodName} (hown : s.vm.findClass own = some m.cls) (w1 : (Jvm.Cond.methodLink own idx y).before a0 Z = true) (w2 : (Jvm.Cond.static y).before a0 Z = true)
    {bytes : ByteArray} {maxL : Nat} {ret : Option FieldType} (w5 : (Jvm.Cond.code y bytes maxL ret).before a0 Z = true) (wz : (Jvm.Cond.initialized y.cls).before a0 Z = true) (hy : y.cls ≠ "java/lang/invoke/MethodHandle" ∧ y.cls ≠ "java/lang/invoke/VarHandle") (eT : T.heap = h) {rm : Room} {Qc : Option Value → Heap → List Loc → Prop} {argsL rest : List Value}
    (hM : MetFree l y (head1 [Jvm.Cond.code y bytes maxL ret] rm) (fun b U => b = argsL.toArray ∧ Z.Warmed39 U.vm ∧ U.heap = h) (fun _ _ _ _ _ => True) (fun _ U o U' => ∃ v L, o = .returned v ∧ Qc v U'.heap L ∧ FrameEnd U o U' L rm.cells rm.slots))
    {W : Nat} (hf : rm.frames + 1 ≤ R.frames) (hl : W + (maxL + 11) + rm.locals ≤ R.locals) {pc : Nat} {Ls : Array Slot} {st : List Value} (hsize : Ls.size = c.maxLocals) (hlen : ∀ sig, parseMethodDescriptor y.desc = some sig → argsL.length = sig.parameters.length) (hst : st = argsL.reverse ++ rest) (hW : (rest.map fun v => v.category).sum ≤ W) (hd : decode c.code pc = .ok (.invokestatic idx, 3)) (hc : cells + rm.cells ≤ R.cells) (hs : slots + rm.slots ≤ R.slots)
    (K : ∀ (T' : State) (v : Option Value) (L : List Loc), Stand p l e R s m args below meth c T' (locs ++ L) (cells + rm.cells) (slots + rm.slots) → Qc v T'.heap L → own_Run p e below s Q ck sk (T'.setTop (mkF m (pc + 3) Ls (v.toList ++ rest)))) :
    own_Run p e below s Q ck sk (T.setTop (mkF m pc Ls st)) := by
  obtain ⟨v, _, ⟨T', L', k', n'⟩, -, X', ⟨Lc, hQ, hl', hk', hn'⟩, st'⟩ := Jvm.LawKit.callS X hx (y := y) hown (mvT hZ w1) (mvT hZ w2) (mvT hZ wz) (mvT hZ w5) hy (backOf (W := W) hM hZ w5 wz hf hl) (g := mkF m pc Ls st) rfl hsize (argsL := argsL) (rest := rest) hlen hst (by show 2 * 0 + _ ≤ _; omega) hd (fun _ _ => ⟨rfl, eT, hc, hs⟩)
  dsimp only [Pt.U, Pt.locs, Pt.cells, Pt.slots] at X' hl' hk' hn' st' hQ
  subst hl' hk' hn'
  exact own_st st' (K T' v Lc X' hQ)
end OwnLayer
section OwnNums
open Jvm.FP Jvm.Free.Fl
theorem own_b53 (x : Int32) : B53 x.toInt64 := by
  have := x.le_toInt; have := x.toInt_lt
  unfold B53; rw [Int32.toInt_toInt64]; omega
theorem own_i64lt (x y : Int32) : x.toInt64 < y.toInt64 ↔ x < y := by
  rw [Int64.lt_iff_toInt_lt, Int32.lt_iff_toInt_lt, Int32.toInt_toInt64, Int32.toInt_toInt64]
theorem own_i64eq (x y : Int32) : x.toInt64 = y.toInt64 ↔ x = y := by
  rw [← Int64.toInt_inj, ← Int32.toInt_inj, Int32.toInt_toInt64, Int32.toInt_toInt64]
theorem own_dcmp_lt (x y : Int32) (o : CmpOp) : cmpValue (FP.dcmp (FP.i2d x) (FP.i2d y)) o < 0 ↔ x < y := by
  rw [i2d_w, i2d_w, dcmpV_w (own_b53 x) (own_b53 y), lw_lt, own_i64lt]
theorem own_dcmp_gt (x y : Int32) (o : CmpOp) : 0 < cmpValue (FP.dcmp (FP.i2d x) (FP.i2d y)) o ↔ y < x := by
  rw [i2d_w, i2d_w, dcmpV_w (own_b53 x) (own_b53 y), lw_gt, own_i64lt]
theorem own_dcmp_eq (x y : Int32) (o : CmpOp) : cmpValue (FP.dcmp (FP.i2d x) (FP.i2d y)) o = 0 ↔ x = y := by
  rw [i2d_w, i2d_w, dcmpV_w (own_b53 x) (own_b53 y), lw_eq, own_i64eq]
theorem own_sub_lt (x y : Int32) : lcmpW (x.toInt64 - y.toInt64) 0 < 0 ↔ x < y := by
  have h := sub64 (own_b53 x) (own_b53 y)
  rw [lw_lt, Int64.lt_iff_toInt_lt, Int32.lt_iff_toInt_lt, h, Int32.toInt_toInt64, Int32.toInt_toInt64]
  have : (0 : Int64).toInt = 0 := rfl
  omega
end OwnNums
section OwnWords
theorem own_eqint {args : Array Value} {first s : State} {o : Option Outcome} {idx : List Nat} {t : Term} {k : Int32} (h : (Jvm.Cond.eq t (.int k)).value args first o s idx = some true) : t.eval args first o idx s = some (.int k) := by
  simp only [Cond.value, Term.eval] at h
  cases ht : t.eval args first o idx s with
  | none => simp [ht] at h
  | some x => cases x <;> simp [ht] at h ⊢; exact h
end OwnWords
section OwnInts
theorem own_prod {a b : Int} {A B : Nat} (ha : a.natAbs ≤ A) (hb : b.natAbs ≤ B) : (a * b).natAbs ≤ A * B := by
  rw [Int.natAbs_mul]; exact Nat.mul_le_mul ha hb
theorem own_shr (x : Int32) : (x >>> ((11 : Int32) &&& 31)).toInt.natAbs ≤ 1048576 := by
  rw [c_ishr x 11 11 (by decide)]
  have := x.le_toInt; have := x.toInt_lt
  show (x.toInt / (2048 : Nat)).natAbs ≤ _
  omega
end OwnInts
section OwnFl
open Jvm.FP Jvm.Free.Fl
abbrev own_zv (a : UInt64) : Int := Core.zval Core.b64 (Core.val64 a)
abbrev own_zm (a : UInt64) : Nat := Core.zmag Core.b64 (Core.val64 a)
theorem own_one : (Core.one64 : Nat) = 2 ^ 1074 := rfl
theorem own_finnn {a : UInt64} (h : Core.DFin a) : NoNaN64 a := (fin64_core.mpr h).noNaN
theorem own_finne {a : UInt64} (h : Core.DFin a) : Core.val64 a ≠ .nan := h.ne_nan
theorem own_addle {a b V : UInt64} (ha : Core.DFin a) (hb : Core.DFin b) (hV : Core.val64 V ≠ .nan) (h : own_zv a + own_zv b ≤ own_zv V) : own_zv (FP.dadd a b) ≤ own_zv V := by
  show Core.zval Core.b64 (Core.val64 (Core.dadd a b)) ≤ _
  rw [Core.val64_dadd]
  exact Core.sum_le Core.good_b64 ha hb (Core.val64_fits a) (Core.val64_fits b) (Core.val64_fits V) hV h
theorem own_addge {a b V : UInt64} (ha : Core.DFin a) (hb : Core.DFin b) (hV : Core.val64 V ≠ .nan) (h : own_zv V ≤ own_zv a + own_zv b) : own_zv V ≤ own_zv (FP.dadd a b) := by
  show _ ≤ Core.zval Core.b64 (Core.val64 (Core.dadd a b))
  rw [Core.val64_dadd]
  exact Core.sum_ge Core.good_b64 ha hb (Core.val64_fits a) (Core.val64_fits b) (Core.val64_fits V) hV h
theorem own_negfin {b : UInt64} (hb : Core.DFin b) : ∃ s c q, Core.negate (Core.val64 b) = .fin s c q := by
  obtain ⟨s, c, q, h⟩ := hb
  exact ⟨!s, c, q, by rw [h]; rfl⟩
theorem own_suble {a b V : UInt64} (ha : Core.DFin a) (hb : Core.DFin b) (hV : Core.val64 V ≠ .nan) (h : own_zv a - own_zv b ≤ own_zv V) : own_zv (FP.dsub a b) ≤ own_zv V := by
  show Core.zval Core.b64 (Core.val64 (Core.dsub a b)) ≤ _
  rw [Core.val64_dsub]
  exact Core.sum_le Core.good_b64 ha (own_negfin hb) (Core.val64_fits a) (Core.negate_fits (Core.val64_fits b)) (Core.val64_fits V) hV (by rw [Core.zval_negate]; exact h)
theorem own_subge {a b V : UInt64} (ha : Core.DFin a) (hb : Core.DFin b) (hV : Core.val64 V ≠ .nan) (h : own_zv V ≤ own_zv a - own_zv b) : own_zv V ≤ own_zv (FP.dsub a b) := by
  show _ ≤ Core.zval Core.b64 (Core.val64 (Core.dsub a b))
  rw [Core.val64_dsub]
  exact Core.sum_ge Core.good_b64 ha (own_negfin hb) (Core.val64_fits a) (Core.negate_fits (Core.val64_fits b)) (Core.val64_fits V) hV (by rw [Core.zval_negate]; exact h)
theorem own_pow2q : (2 ^ (Core.b64.qmin - 2 * Core.b64.qmin).toNat : Nat) = Core.one64 := by
  rw [show Core.b64.qmin - 2 * Core.b64.qmin = -Core.b64.qmin by omega]; exact Core.pow_qmin64
theorem own_mulle {a b V : UInt64} (ha : Core.DFin a) (hb : Core.DFin b) (hV : Core.val64 V ≠ .nan) (h : own_zv a * own_zv b ≤ own_zv V * (Core.one64 : Int)) : own_zv (FP.dmul a b) ≤ own_zv V := by
  obtain ⟨s, c, q, ea⟩ := ha
  obtain ⟨t, d, r, eb⟩ := hb
  have fa := Core.val64_fits a
  have fb := Core.val64_fits b
  rw [ea] at fa; rw [eb] at fb
  obtain ⟨h1, h2, h3⟩ := Core.product_units fa fb
  show Core.zval Core.b64 (Core.val64 (Core.dmul a b)) ≤ _
  rw [Core.val64_dmul, ea, eb, h1]
  refine Core.zval_round_le Core.good_b64 (Core.val64_fits V) hV (e0 := 2 * Core.b64.qmin) (by decide) h2 ?_
  rw [h3, Core.signed_xor, own_pow2q]
  simp only [own_zv, ea, eb] at h
  exact h
theorem own_mulge {a b V : UInt64} (ha : Core.DFin a) (hb : Core.DFin b) (hV : Core.val64 V ≠ .nan) (h : own_zv V * (Core.one64 : Int) ≤ own_zv a * own_zv b) : own_zv V ≤ own_zv (FP.dmul a b) := by
  obtain ⟨s, c, q, ea⟩ := ha
  obtain ⟨t, d, r, eb⟩ := hb
  have fa := Core.val64_fits a
  have fb := Core.val64_fits b
  rw [ea] at fa; rw [eb] at fb
  obtain ⟨h1, h2, h3⟩ := Core.product_units fa fb
  show _ ≤ Core.zval Core.b64 (Core.val64 (Core.dmul a b))
  rw [Core.val64_dmul, ea, eb, h1]
  refine Core.zval_round_ge Core.good_b64 (Core.val64_fits V) hV (e0 := 2 * Core.b64.qmin) (by decide) h2 ?_
  rw [h3, Core.signed_xor, own_pow2q]
  simp only [own_zv, ea, eb] at h
  exact h
theorem own_divdat {a b : UInt64} (ha : Core.DFin a) (hb : Core.DFin b) (hz : own_zm b ≠ 0) : ∃ (s t : Bool) (c d : Nat) (q r : Int), Core.val64 a = .fin s c q ∧ Core.val64 b = .fin t d r ∧ 0 < d ∧ Core.b64.qmin ≤ q ∧ Core.b64.qmin ≤ r ∧ Core.val64 (FP.ddiv a b) = Core.roundRatio Core.b64 (s != t) c d (q - r) := by
  obtain ⟨s, c, q, ea⟩ := ha
  obtain ⟨t, d, r, eb⟩ := hb
  have fa := Core.val64_fits a
  have fb := Core.val64_fits b
  rw [ea] at fa; rw [eb] at fb
  have hd : d ≠ 0 := fun q => hz (by unfold own_zm; rw [eb, q]; show Core.inUnits 0 _ _ = 0; unfold Core.inUnits; exact Nat.zero_mul _)
  refine ⟨s, t, c, d, q, r, ea, eb, Nat.pos_of_ne_zero hd, fa.2.1, fb.2.1, ?_⟩
  show Core.val64 (Core.ddiv a b) = _
  rw [Core.val64_ddiv, ea, eb]
  show (if d = 0 then _ else _) = _
  rw [if_neg hd]
theorem own_divunits {c d : Nat} {q r : Int} (hq : Core.b64.qmin ≤ q) (hr : Core.b64.qmin ≤ r) : 2 * Core.b64.qmin - r ≤ Core.b64.qmin ∧ 2 * Core.b64.qmin - r ≤ q - r ∧ Core.inUnits c (q - r) (2 * Core.b64.qmin - r) = Core.inUnits c q Core.b64.qmin * Core.one64 ∧ ∀ m : Nat, m * 2 ^ (Core.b64.qmin - (2 * Core.b64.qmin - r)).toNat * d = m * Core.inUnits d r Core.b64.qmin := by
  have hqm : Core.b64.qmin = -1074 := Core.qmin_b64
  refine ⟨by omega, by omega, ?_, fun m => ?_⟩
  · unfold Core.inUnits
    rw [show (q - r - (2 * Core.b64.qmin - r)).toNat = (q - Core.b64.qmin).toNat + (-Core.b64.qmin).toNat by omega, Nat.pow_add, Core.pow_qmin64, Nat.mul_assoc]
  · unfold Core.inUnits
    rw [show (Core.b64.qmin - (2 * Core.b64.qmin - r)).toNat = (r - Core.b64.qmin).toNat by omega, Nat.mul_assoc, Nat.mul_comm d]
theorem own_divle {a b V : UInt64} (ha : Core.DFin a) (hb : Core.DFin b) (hz : own_zm b ≠ 0) (hV : Core.val64 V ≠ .nan) (h : own_zm a * Core.one64 ≤ own_zm V * own_zm b) : own_zm (FP.ddiv a b) ≤ own_zm V := by
  obtain ⟨s, t, c, d, q, r, ea, eb, hd, hq, hr, e⟩ := own_divdat ha hb hz
  obtain ⟨u1, u2, u3, u4⟩ := own_divunits (c := c) (d := d) hq hr
  unfold own_zm
  rw [e]
  refine Core.zmag_roundRatio_le Core.good_b64 hd (Core.val64_fits V) hV u1 u2 ?_
  rw [u3, u4]
  simp only [own_zm, ea, eb] at h
  exact h
theorem own_divge {a b V : UInt64} (ha : Core.DFin a) (hb : Core.DFin b) (hz : own_zm b ≠ 0) (h : own_zm V * own_zm b ≤ own_zm a * Core.one64) : own_zm V ≤ own_zm (FP.ddiv a b) := by
  obtain ⟨s, t, c, d, q, r, ea, eb, hd, hq, hr, e⟩ := own_divdat ha hb hz
  obtain ⟨u1, u2, u3, u4⟩ := own_divunits (c := c) (d := d) hq hr
  unfold own_zm
  rw [e]
  refine Core.zmag_roundRatio_ge Core.good_b64 hd (Core.val64_fits V) u1 u2 ?_
  rw [u3, u4]
  simp only [own_zm, ea, eb] at h
  exact h
theorem own_divsgn {a b : UInt64} (ha : Core.DFin a) (hb : Core.DFin b) (hz : own_zm b ≠ 0) : Core.sgn (Core.val64 (FP.ddiv a b)) = (Core.sgn (Core.val64 a) != Core.sgn (Core.val64 b)) ∧ Core.val64 (FP.ddiv a b) ≠ .nan := by
  obtain ⟨s, t, c, d, q, r, ea, eb, hd, hq, hr, e⟩ := own_divdat ha hb hz
  rw [e, ea, eb]
  exact ⟨Core.sgn_roundRatio _ _ _ _ _, Core.roundRatio_ne_nan _ _ _ _ _⟩
theorem own_fintop {a : UInt64} (hn : Core.val64 a ≠ .nan) (h : own_zm a < Core.b64.tails * 2 ^ (Core.b64.exps - 2)) : Core.DFin a := by
  cases e : Core.val64 a with
  | nan => exact absurd e hn
  | inf s => rw [own_zm, e] at h; exact absurd h (Nat.lt_irrefl _)
  | fin s c q => exact ⟨s, c, q, e⟩
theorem own_finle {a V : UInt64} (hn : Core.val64 a ≠ .nan) (hV : Core.DFin V) (h : own_zm a ≤ own_zm V) : Core.DFin a := own_fintop hn (Nat.lt_of_le_of_lt h hV.zval_lt)
theorem own_zmabs (a : UInt64) : (own_zv a).natAbs = own_zm a := Core.natAbs_signed _ _
theorem own_addne {a b : UInt64} (ha : Core.DFin a) (hb : Core.DFin b) : Core.val64 (FP.dadd a b) ≠ .nan := (Core.notNaN_iff _).mp (Core.dadd_out ha.notNaN hb)
theorem own_subne {a b : UInt64} (ha : Core.DFin a) (hb : Core.DFin b) : Core.val64 (FP.dsub a b) ≠ .nan := (Core.notNaN_iff _).mp (Core.dsub_out ha.notNaN hb)
theorem own_mulne {a b : UInt64} (ha : Core.DFin a) (hb : Core.DFin b) : Core.val64 (FP.dmul a b) ≠ .nan := (Core.notNaN_iff _).mp (Core.dmul_out ha hb)
theorem own_nnof {a : UInt64} (h : Core.val64 a ≠ .nan) : NoNaN64 a := val64_no.mpr h
/-- the double a is i times two to the power (j - 1074) -/
def own_Z (j : Nat) (i : Int) (a : UInt64) : Prop := Core.DFin a ∧ own_zv a = i * ((2 ^ j : Nat) : Int)
theorem own_rep (n : Int) (j : Nat) (hn : n.natAbs < 2 ^ 53) (hj : j ≤ 2045) : ∃ V, own_Z j n V := by
  have hqm : Core.b64.qmin = -1074 := Core.qmin_b64
  have hqx : Core.b64.qmax = 971 := by decide
  obtain ⟨c', q', h1, h2⟩ := Core.round_exact Core.good_b64 (decide (n < 0)) (c := n.natAbs) (q := Core.b64.qmin + j) hn (by omega) (by omega)
  have hv : Core.val64 (Core.of64 (Core.round Core.b64 (.fin (decide (n < 0)) n.natAbs (Core.b64.qmin + j)))) = .fin (decide (n < 0)) c' q' := by
    rw [Core.val64_of64 (Core.round_fits Core.good_b64 _), h1]
  refine ⟨_, ⟨_, _, _, hv⟩, ?_⟩
  unfold own_zv
  rw [hv]
  show Core.signed (decide (n < 0)) (Core.inUnits c' q' Core.b64.qmin) = _
  rw [h2]
  unfold Core.inUnits
  rw [show (Core.b64.qmin + (j : Int) - Core.b64.qmin).toNat = j by omega, Core.signed_mul]
  congr 1
  unfold Core.signed
  by_cases h : n < 0 <;> simp [h] <;> omega
theorem own_Z.nn {j : Nat} {i : Int} {a : UInt64} (h : own_Z j i a) : NoNaN64 a := own_finnn h.1
theorem own_Z.eqv {j : Nat} {i : Int} {a V : UInt64} (hV : own_Z j i V) (hn : Core.val64 a ≠ .nan) (h1 : own_zv a ≤ own_zv V) (h2 : own_zv V ≤ own_zv a) : own_Z j i a := by
  have e : own_zv a = own_zv V := Int.le_antisymm h1 h2
  refine ⟨own_finle hn hV.1 ?_, e.trans hV.2⟩
  rw [← own_zmabs, ← own_zmabs, e]; exact Nat.le_refl _
theorem own_Z.add {j : Nat} {i k : Int} {a b : UInt64} (ha : own_Z j i a) (hb : own_Z j k b) (hn : (i + k).natAbs < 2 ^ 53) (hj : j ≤ 2045 := by decide) : own_Z j (i + k) (FP.dadd a b) := by
  obtain ⟨V, hV⟩ := own_rep (i + k) j hn hj
  have e : own_zv a + own_zv b = own_zv V := by rw [ha.2, hb.2, hV.2, Int.add_mul]
  exact hV.eqv (own_addne ha.1 hb.1) (own_addle ha.1 hb.1 (own_finne hV.1) (Int.le_of_eq e)) (own_addge ha.1 hb.1 (own_finne hV.1) (Int.le_of_eq e.symm))
theorem own_Z.sub {j : Nat} {i k : Int} {a b : UInt64} (ha : own_Z j i a) (hb : own_Z j k b) (hn : (i - k).natAbs < 2 ^ 53) (hj : j ≤ 2045 := by decide) : own_Z j (i - k) (FP.dsub a b) := by
  obtain ⟨V, hV⟩ := own_rep (i - k) j hn hj
  have e : own_zv a - own_zv b = own_zv V := by rw [ha.2, hb.2, hV.2, Int.sub_mul]
  exact hV.eqv (own_subne ha.1 hb.1) (own_suble ha.1 hb.1 (own_finne hV.1) (Int.le_of_eq e)) (own_subge ha.1 hb.1 (own_finne hV.1) (Int.le_of_eq e.symm))
theorem own_Z.mul {j j' J : Nat} {i k : Int} {a b : UInt64} (ha : own_Z j i a) (hb : own_Z j' k b) (hn : (i * k).natAbs < 2 ^ 53) (hJ : J + 1074 = j + j' := by decide) (hj : J ≤ 2045 := by decide) : own_Z J (i * k) (FP.dmul a b) := by
  obtain ⟨V, hV⟩ := own_rep (i * k) J hn hj
  have e : own_zv a * own_zv b = own_zv V * (Core.one64 : Int) := by
    rw [ha.2, hb.2, hV.2, own_one, Int.mul_assoc (i * k), ← Int.natCast_mul, ← Nat.pow_add, hJ, Nat.pow_add, Int.natCast_mul]
    simp only [Int.mul_assoc, Int.mul_left_comm, Int.mul_comm]
  exact hV.eqv (own_mulne ha.1 hb.1) (own_mulle ha.1 hb.1 (own_finne hV.1) (Int.le_of_eq e)) (own_mulge ha.1 hb.1 (own_finne hV.1) (Int.le_of_eq e.symm))
theorem own_zmZ {j : Nat} {i : Int} {a : UInt64} (h : own_Z j i a) : own_zm a = i.natAbs * 2 ^ j := by
  rw [← own_zmabs, h.2, Int.natAbs_mul, Int.natAbs_natCast]
theorem own_Z.div {j j' J : Nat} {i m : Int} {a b : UInt64} (ha : own_Z j (i * m) a) (hb : own_Z j' m b) (hm : m ≠ 0) (hn : i.natAbs < 2 ^ 53) (hJ : J + j' = j + 1074 := by decide) (hj : J ≤ 2045 := by decide) : own_Z J i (FP.ddiv a b) := by
  obtain ⟨V, hV⟩ := own_rep i J hn hj
  have hb0 : own_zm b ≠ 0 := by
    rw [own_zmZ hb]
    exact Nat.mul_ne_zero (by omega) (Nat.ne_of_gt (Nat.two_pow_pos _))
  have e : own_zm a * Core.one64 = own_zm V * own_zm b := by
    rw [own_zmZ ha, own_zmZ hb, own_zmZ hV, own_one, Int.natAbs_mul, Nat.mul_assoc, ← Nat.pow_add, ← hJ, Nat.pow_add]
    simp only [Nat.mul_assoc, Nat.mul_left_comm, Nat.mul_comm]
  obtain ⟨hs, hne⟩ := own_divsgn ha.1 hb.1 hb0
  have em : own_zm (FP.ddiv a b) = own_zm V := Nat.le_antisymm (own_divle ha.1 hb.1 hb0 (own_finne hV.1) (Nat.le_of_eq e)) (own_divge ha.1 hb.1 hb0 (Nat.le_of_eq e.symm))
  refine ⟨own_finle hne hV.1 (Nat.le_of_eq em), ?_⟩
  have ev : own_zv (FP.ddiv a b) * own_zv b = own_zv a * (Core.one64 : Int) := by
    show Core.signed _ _ * Core.signed _ _ = Core.signed _ _ * _
    rw [← Core.signed_xor, hs, ← Core.signed_mul]
    have e2 : Core.zmag Core.b64 (Core.val64 (FP.ddiv a b)) * Core.zmag Core.b64 (Core.val64 b) = Core.zmag Core.b64 (Core.val64 a) * Core.one64 := by
      rw [show Core.zmag Core.b64 (Core.val64 (FP.ddiv a b)) = own_zm V from em]; exact e.symm
    rw [e2]
    cases Core.sgn (Core.val64 a) <;> cases Core.sgn (Core.val64 b) <;> rfl
  rw [ha.2, hb.2, own_one] at ev
  have hp : ((2 ^ j' : Nat) : Int) ≠ 0 := by have := Nat.two_pow_pos j'; omega
  refine Int.eq_of_mul_eq_mul_right (Int.mul_ne_zero hm hp) (ev.trans ?_)
  rw [Int.mul_assoc (i * m), ← Int.natCast_mul, ← Nat.pow_add, ← hJ, Nat.pow_add, Int.natCast_mul]
  simp only [Int.mul_assoc, Int.mul_left_comm, Int.mul_comm]
theorem own_Z.neg {j : Nat} {i : Int} {a : UInt64} (h : own_Z j i a) : own_Z j (-i) (FP.dneg a) := by
  refine ⟨?_, ?_⟩
  · obtain ⟨s, c, q, e⟩ := own_negfin h.1
    exact ⟨s, c, q, by rw [FP.val64_dneg]; exact e⟩
  · unfold own_zv
    rw [FP.val64_dneg, Core.zval_negate]
    have := h.2; unfold own_zv at this; rw [this, Int.neg_mul]
theorem own_Z.of_int {i : Int} {a : UInt64} (h : Core.DInt i a) : own_Z 1074 i a := by
  refine ⟨?_, Core.DInt_zval h⟩
  unfold Core.DInt at h
  cases e : Core.val64 a with
  | nan => rw [e] at h; exact h.elim
  | inf s => rw [e] at h; exact h.elim
  | fin s c q => exact ⟨s, c, q, e⟩
theorem own_Z.i2d (x : Int32) : own_Z 1074 x.toInt (FP.i2d x) := own_Z.of_int (Core.i2d_int x)
theorem own_Z.l2d {x : Int64} (h : x.toInt.natAbs ≤ 2 ^ 53) : own_Z 1074 x.toInt (FP.l2d x) := own_Z.of_int (Core.l2d_int h)
theorem own_Z.shift {j k : Nat} {i : Int} {a : UInt64} (h : own_Z (j + k) i a) : own_Z j (i * ((2 ^ k : Nat) : Int)) a := by
  refine ⟨h.1, h.2.trans ?_⟩
  rw [Nat.add_comm, Nat.pow_add, Int.natCast_mul, Int.mul_assoc]
theorem own_Z.cmp {j : Nat} {i k : Int} {a b : UInt64} (ha : own_Z j i a) (hb : own_Z j k b) : FP.dcmp a b = some (compare i k) := by
  have h := Core.dcmp_zval (own_finne ha.1) (own_finne hb.1)
  have h1 := ha.2; have h2 := hb.2
  unfold own_zv at h1 h2
  rw [h1, h2, Core.compare_mul_pos _ _ _ (by have := Nat.two_pow_pos j; omega)] at h
  exact h
theorem own_Z.cmpE {j : Nat} {i k : Int} {a b : UInt64} (ha : own_Z j i a) (hb : own_Z j k b) (h : i = k) (o : CmpOp) : cmpValue (FP.dcmp a b) o = 0 := by
  rw [ha.cmp hb, (Core.compare_eq_iff _ _).mpr h]; cases o <;> rfl
theorem own_Z.cmpL {j : Nat} {i k : Int} {a b : UInt64} (ha : own_Z j i a) (hb : own_Z j k b) (h : i < k) (o : CmpOp) : cmpValue (FP.dcmp a b) o = -1 := by
  rw [ha.cmp hb, (Core.compare_lt_iff _ _).mpr h]; cases o <;> rfl
theorem own_Z.cmpG {j : Nat} {i k : Int} {a b : UInt64} (ha : own_Z j i a) (hb : own_Z j k b) (h : k < i) (o : CmpOp) : cmpValue (FP.dcmp a b) o = 1 := by
  rw [ha.cmp hb, (Core.compare_gt_iff _ _).mpr h]; cases o <;> rfl
theorem own_Z.eq {j : Nat} {i k : Int} {a : UInt64} (ha : own_Z j i a) (h : i = k) : own_Z j k a := h ▸ ha
theorem own_mulb {a b : Int} {A B : Nat} (ha : a.natAbs ≤ A) (hb : b.natAbs ≤ B) : (a * b).natAbs ≤ A * B := by
  rw [Int.natAbs_mul]; exact Nat.mul_le_mul ha hb
theorem own_Z0 : own_Z 1074 0 0 := by
  refine ⟨⟨false, 0, Core.b64.qmin, by decide +kernel⟩, by decide +kernel⟩
theorem own_Z1 : own_Z 1074 1 4607182418800017408 := own_Z.of_int Core.dint_one
end OwnFl
section OwnFl2
open Jvm.FP Jvm.Free.Fl
theorem own_Z.sgn {j : Nat} {i : Int} {a : UInt64} (h : own_Z j i a) (hi : i ≠ 0) : Core.sgn (Core.val64 a) = decide (i < 0) := by
  have hz := h.2
  have hp := Nat.two_pow_pos j
  have hm : 0 < own_zm a := by rw [own_zmZ h]; exact Nat.mul_pos (by omega) hp
  have hs : decide (Core.signed (Core.sgn (Core.val64 a)) (own_zm a) < 0) = Core.sgn (Core.val64 a) := Core.signed_lt_zero _ hm
  rw [← hs]
  have : Core.signed (Core.sgn (Core.val64 a)) (own_zm a) = i * ((2 ^ j : Nat) : Int) := hz
  rw [this]
  congr 1
  refine propext ⟨fun q => ?_, fun q => ?_⟩
  · exact Int.lt_of_not_ge fun r => absurd (Int.mul_nonneg r (Int.natCast_nonneg (2 ^ j))) (by omega)
  · exact Int.mul_neg_of_neg_of_pos q (by omega)
theorem own_divcongr {a b a' b' : UInt64} (ha : Core.DFin a) (hb : Core.DFin b) (ha' : Core.DFin a') (hb' : Core.DFin b') (hz : own_zm b ≠ 0) (hz' : own_zm b' ≠ 0)
    (hs : (Core.sgn (Core.val64 a) != Core.sgn (Core.val64 b)) = (Core.sgn (Core.val64 a') != Core.sgn (Core.val64 b'))) (h : own_zm a * own_zm b' = own_zm a' * own_zm b) : FP.ddiv a b = FP.ddiv a' b' := by
  obtain ⟨s, t, c, d, q, r, ea, eb, hd, hq, hr, e⟩ := own_divdat ha hb hz
  obtain ⟨s', t', c', d', q', r', ea', eb', hd', hq', hr', e'⟩ := own_divdat ha' hb' hz'
  have hn := (own_divsgn ha hb hz).2
  refine Core.val64_inj hn ?_
  show Core.val64 (FP.ddiv a b) = Core.val64 (FP.ddiv a' b')
  rw [e, e']
  simp only [ea, eb, ea', eb'] at hs
  have hs2 : (s != t) = (s' != t') := hs
  rw [hs2]
  refine Core.roundRatio_congr hd hd' ?_
  have h2 : Core.inUnits c q Core.b64.qmin * Core.inUnits d' r' Core.b64.qmin = Core.inUnits c' q' Core.b64.qmin * Core.inUnits d r Core.b64.qmin := by
    have := h; simp only [own_zm, ea, eb, ea', eb'] at this; exact this
  unfold Core.inUnits at h2
  have h3 : c * d' * 2 ^ ((q - Core.b64.qmin).toNat + (r' - Core.b64.qmin).toNat) = c' * d * 2 ^ ((q' - Core.b64.qmin).toNat + (r - Core.b64.qmin).toNat) := by
    rw [Nat.pow_add, Nat.pow_add]
    simp only [Nat.mul_assoc, Nat.mul_left_comm, Nat.mul_comm] at h2 ⊢
    exact h2
  rcases Int.le_total (q' + r) (q + r') with hle | hle
  · rw [show (q' - r' - (q - r)).toNat = 0 by omega, Nat.pow_zero, Nat.mul_one]
    have h4 : 2 ^ ((q - Core.b64.qmin).toNat + (r' - Core.b64.qmin).toNat) = 2 ^ (q - r - (q' - r')).toNat * 2 ^ ((q' - Core.b64.qmin).toNat + (r - Core.b64.qmin).toNat) := by rw [← Nat.pow_add]; congr 1; omega
    rw [h4, ← Nat.mul_assoc] at h3
    exact Nat.eq_of_mul_eq_mul_right (Nat.two_pow_pos _) h3
  · rw [show (q - r - (q' - r')).toNat = 0 by omega, Nat.pow_zero, Nat.mul_one]
    have h4 : 2 ^ ((q' - Core.b64.qmin).toNat + (r - Core.b64.qmin).toNat) = 2 ^ (q' - r' - (q - r)).toNat * 2 ^ ((q - Core.b64.qmin).toNat + (r' - Core.b64.qmin).toNat) := by rw [← Nat.pow_add]; congr 1; omega
    rw [h4, ← Nat.mul_assoc] at h3
    exact Nat.eq_of_mul_eq_mul_right (Nat.two_pow_pos _) h3
theorem own_Z.zm {j : Nat} {i : Int} {a : UInt64} (h : own_Z j i a) (hi : i ≠ 0) : own_zm a ≠ 0 := by
  rw [own_zmZ h]; exact Nat.mul_ne_zero (by omega) (Nat.ne_of_gt (Nat.two_pow_pos _))
theorem own_Z.divnn {j k : Nat} {i m : Int} {a b : UInt64} (ha : own_Z j i a) (hb : own_Z k m b) (hm : m ≠ 0) : NoNaN64 (FP.ddiv a b) := own_nnof (own_divsgn ha.1 hb.1 (hb.zm hm)).2
/-- two quotients of one worth: the same double -/
theorem own_Z.divsame {j k j' k' : Nat} {i m i' m' : Int} {a b a' b' : UInt64} (ha : own_Z j i a) (hb : own_Z k m b) (ha' : own_Z j' i' a') (hb' : own_Z k' m' b') (pi : 0 < i) (pm : 0 < m) (pi' : 0 < i') (pm' : 0 < m')
    (h : i.natAbs * 2 ^ j * (m'.natAbs * 2 ^ k') = i'.natAbs * 2 ^ j' * (m.natAbs * 2 ^ k)) : FP.ddiv a b = FP.ddiv a' b' := by
  refine own_divcongr ha.1 hb.1 ha'.1 hb'.1 (hb.zm (by omega)) (hb'.zm (by omega)) ?_ ?_
  · rw [ha.sgn (by omega), hb.sgn (by omega), ha'.sgn (by omega), hb'.sgn (by omega)]
    rw [decide_eq_false (by omega : ¬ i < 0), decide_eq_false (by omega : ¬ m < 0), decide_eq_false (by omega : ¬ i' < 0), decide_eq_false (by omega : ¬ m' < 0)]
  · rw [own_zmZ ha, own_zmZ hb, own_zmZ ha', own_zmZ hb']; exact h
end OwnFl2
section OwnFl3
open Jvm.FP Jvm.Free.Fl
theorem own_nat {a b c d : Nat} (h : (a : Int) * (b : Int) ≤ (c : Int) * (d : Int)) : a * b ≤ c * d := by
  have q : ((a * b : Nat) : Int) ≤ ((c * d : Nat) : Int) := by rw [Int.natCast_mul, Int.natCast_mul]; exact h
  exact Int.ofNat_le.mp q
theorem own_sgF (c : Nat) : Core.signed false c = (c : Int) := rfl
theorem own_sgT (c : Nat) : Core.signed true c = -(c : Int) := rfl
theorem own_zvs (a : UInt64) : own_zv a = Core.signed (Core.sgn (Core.val64 a)) (own_zm a) := rfl
theorem own_onepos : (0 : Int) < (Core.one64 : Int) := by have := Core.one64_pos; omega
theorem own_divleP {a b V : UInt64} (ha : Core.DFin a) (hb : Core.DFin b) (hp : 0 < own_zv b) (hV : Core.val64 V ≠ .nan) (h : own_zv a * (Core.one64 : Int) ≤ own_zv V * own_zv b) : own_zv (FP.ddiv a b) ≤ own_zv V := by
  have hz : own_zm b ≠ 0 := fun q => by rw [own_zvs, q] at hp; cases hs : Core.sgn (Core.val64 b) <;> rw [hs] at hp <;> simp [own_sgF, own_sgT] at hp
  obtain ⟨hs, hn⟩ := own_divsgn ha hb hz
  have o1 := own_onepos
  rw [own_zvs (FP.ddiv a b), hs]
  rw [own_zvs a, own_zvs b, own_zvs V] at h
  rw [own_zvs b] at hp
  rw [own_zvs V]
  have L := own_divle (V := V) ha hb hz hV
  have G := own_divge (V := V) ha hb hz
  cases sa : Core.sgn (Core.val64 a) <;> cases sb : Core.sgn (Core.val64 b) <;> cases sv : Core.sgn (Core.val64 V) <;> simp only [sa, sb, sv, own_sgF, own_sgT] at h hp ⊢
  · exact Int.ofNat_le.mpr (L (own_nat h))
  · have h1 : (0 : Int) ≤ (own_zm a : Int) * (Core.one64 : Int) := Int.mul_nonneg (Int.natCast_nonneg _) (Int.natCast_nonneg _)
    have h2 : (0 : Int) ≤ (own_zm V : Int) * (own_zm b : Int) := Int.mul_nonneg (Int.natCast_nonneg _) (Int.natCast_nonneg _)
    rw [Int.neg_mul] at h
    have h3 : (own_zm V : Int) * (own_zm b : Int) = 0 := by omega
    have h4 : own_zm V = 0 := by
      rcases Int.mul_eq_zero.mp h3 with q | q
      · omega
      · exact absurd q (by omega)
    have := L (own_nat (by omega))
    show ((own_zm (FP.ddiv a b) : Nat) : Int) ≤ -_
    omega
  · omega
  · omega
  · show -((own_zm (FP.ddiv a b) : Nat) : Int) ≤ _
    omega
  · rw [Int.neg_mul, Int.neg_mul] at h
    have := G (own_nat (by omega))
    show -((own_zm (FP.ddiv a b) : Nat) : Int) ≤ -_
    omega
  · omega
  · omega
theorem own_divgeP {a b V : UInt64} (ha : Core.DFin a) (hb : Core.DFin b) (hp : 0 < own_zv b) (hV : Core.val64 V ≠ .nan) (h : own_zv V * own_zv b ≤ own_zv a * (Core.one64 : Int)) : own_zv V ≤ own_zv (FP.ddiv a b) := by
  have hz : own_zm b ≠ 0 := fun q => by rw [own_zvs, q] at hp; cases hs : Core.sgn (Core.val64 b) <;> rw [hs] at hp <;> simp [own_sgF, own_sgT] at hp
  obtain ⟨hs, hn⟩ := own_divsgn ha hb hz
  have o1 := own_onepos
  rw [own_zvs (FP.ddiv a b), hs]
  rw [own_zvs a, own_zvs b, own_zvs V] at h
  rw [own_zvs b] at hp
  rw [own_zvs V]
  have L := own_divle (V := V) ha hb hz hV
  have G := own_divge (V := V) ha hb hz
  cases sa : Core.sgn (Core.val64 a) <;> cases sb : Core.sgn (Core.val64 b) <;> cases sv : Core.sgn (Core.val64 V) <;> simp only [sa, sb, sv, own_sgF, own_sgT] at h hp ⊢
  · exact Int.ofNat_le.mpr (G (own_nat h))
  · show -_ ≤ ((own_zm (FP.ddiv a b) : Nat) : Int)
    omega
  · omega
  · omega
  · have h1 : (0 : Int) ≤ (own_zm a : Int) * (Core.one64 : Int) := Int.mul_nonneg (Int.natCast_nonneg _) (Int.natCast_nonneg _)
    have h2 : (0 : Int) ≤ (own_zm V : Int) * (own_zm b : Int) := Int.mul_nonneg (Int.natCast_nonneg _) (Int.natCast_nonneg _)
    rw [Int.neg_mul] at h
    have h3 : (own_zm V : Int) * (own_zm b : Int) = 0 := by omega
    have h4 : own_zm V = 0 := by
      rcases Int.mul_eq_zero.mp h3 with q | q
      · omega
      · exact absurd q (by omega)
    have := L (own_nat (by omega))
    show _ ≤ -((own_zm (FP.ddiv a b) : Nat) : Int)
    omega
  · rw [Int.neg_mul, Int.neg_mul] at h
    have := L (own_nat (by omega))
    show -_ ≤ -((own_zm (FP.ddiv a b) : Nat) : Int)
    omega
  · omega
  · omega
theorem own_zmneg (a : UInt64) : own_zm (FP.dneg a) = own_zm a := by
  unfold own_zm; rw [FP.val64_dneg]; cases Core.val64 a <;> rfl
theorem own_sgneg {a : UInt64} (h : Core.DFin a) : Core.sgn (Core.val64 (FP.dneg a)) = !Core.sgn (Core.val64 a) := by
  obtain ⟨s, c, q, e⟩ := h
  rw [FP.val64_dneg, e]; rfl
theorem own_negF {a : UInt64} (h : Core.DFin a) : Core.DFin (FP.dneg a) := by
  obtain ⟨s, c, q, e⟩ := own_negfin h
  exact ⟨s, c, q, by rw [FP.val64_dneg]; exact e⟩
theorem own_divneg {a b : UInt64} (ha : Core.DFin a) (hb : Core.DFin b) (hz : own_zm b ≠ 0) : FP.ddiv a b = FP.ddiv (FP.dneg a) (FP.dneg b) :=
  own_divcongr ha hb (own_negF ha) (own_negF hb) hz (by rw [own_zmneg]; exact hz) (by rw [own_sgneg ha, own_sgneg hb]; cases Core.sgn (Core.val64 a) <;> cases Core.sgn (Core.val64 b) <;> rfl) (by rw [own_zmneg, own_zmneg])
theorem own_cmpv {a b : UInt64} (ha : Core.val64 a ≠ .nan) (hb : Core.val64 b ≠ .nan) (o : CmpOp) : (own_zv a < own_zv b → cmpValue (FP.dcmp a b) o = -1) ∧ (own_zv a = own_zv b → cmpValue (FP.dcmp a b) o = 0) ∧ (own_zv b < own_zv a → cmpValue (FP.dcmp a b) o = 1) := by
  have h : FP.dcmp a b = some (compare (own_zv a) (own_zv b)) := Core.dcmp_zval ha hb
  rw [h]
  refine ⟨fun q => ?_, fun q => ?_, fun q => ?_⟩
  · rw [(Core.compare_lt_iff _ _).mpr q]; cases o <;> rfl
  · rw [(Core.compare_eq_iff _ _).mpr q]; cases o <;> rfl
  · rw [(Core.compare_gt_iff _ _).mpr q]; cases o <;> rfl
end OwnFl3
section OwnBb
open Jvm.FP Jvm.Free.Fl
def own_bt (n : Nat) : UInt64 := FP.ddiv (FP.i2d (Int32.ofInt ((n : Int) - 2183))) (4620693217682128896 : UInt64)
def own_bb (t : UInt64) : UInt64 := (FP.dmul (FP.dmul (FP.dmul (FP.dmul (4498657090234903196 : UInt64) (FP.dadd t (4643512921809643110 : UInt64))) (FP.dadd t (4643512921809643110 : UInt64))) (FP.dadd t (4643512921809643110 : UInt64))) (FP.dadd t (4643512921809643110 : UInt64)))
def own_ck1 (t r : UInt64) : Bool := decide (Jvm.Free.Fl.NoNaN64 (FP.dadd t (4643512921809643110 : UInt64)) ∧ Jvm.Free.Fl.NoNaN64 (FP.dmul (4498657090234903196 : UInt64) (FP.dadd t (4643512921809643110 : UInt64))) ∧ Jvm.Free.Fl.NoNaN64 (FP.dmul (FP.dmul (4498657090234903196 : UInt64) (FP.dadd t (4643512921809643110 : UInt64))) (FP.dadd t (4643512921809643110 : UInt64))) ∧ Jvm.Free.Fl.NoNaN64 (FP.dmul (FP.dmul (FP.dmul (4498657090234903196 : UInt64) (FP.dadd t (4643512921809643110 : UInt64))) (FP.dadd t (4643512921809643110 : UInt64))) (FP.dadd t (4643512921809643110 : UInt64))) ∧ Jvm.Free.Fl.NoNaN64 (FP.dmul (FP.dmul (FP.dmul (FP.dmul (4498657090234903196 : UInt64) (FP.dadd t (4643512921809643110 : UInt64))) (FP.dadd t (4643512921809643110 : UInt64))) (FP.dadd t (4643512921809643110 : UInt64))) (FP.dadd t (4643512921809643110 : UInt64))) ∧ cmpValue (FP.dcmp r (0 : UInt64)) .l = (1 : Int32) ∧ Jvm.Free.Fl.NoNaN64 (FP.dadd t (4643512921809643110 : UInt64)) ∧ Jvm.Free.Fl.NoNaN64 (FP.dmul (FP.dadd t (4643512921809643110 : UInt64)) (FP.dadd t (4643512921809643110 : UInt64))) ∧ Jvm.Free.Fl.NoNaN64 (FP.dmul (FP.dmul (FP.dadd t (4643512921809643110 : UInt64)) (FP.dadd t (4643512921809643110 : UInt64))) (FP.dmul (FP.dadd t (4643512921809643110 : UInt64)) (FP.dadd t (4643512921809643110 : UInt64)))) ∧ Jvm.Free.Fl.NoNaN64 (FP.dmul (4498657090234903196 : UInt64) (FP.dmul (FP.dmul (FP.dadd t (4643512921809643110 : UInt64)) (FP.dadd t (4643512921809643110 : UInt64))) (FP.dmul (FP.dadd t (4643512921809643110 : UInt64)) (FP.dadd t (4643512921809643110 : UInt64))))) ∧ Jvm.Free.Fl.NoNaN64 (FP.dsub r (FP.dmul (4498657090234903196 : UInt64) (FP.dmul (FP.dmul (FP.dadd t (4643512921809643110 : UInt64)) (FP.dadd t (4643512921809643110 : UInt64))) (FP.dmul (FP.dadd t (4643512921809643110 : UInt64)) (FP.dadd t (4643512921809643110 : UInt64)))))) ∧ Jvm.Free.Fl.NoNaN64 (FP.dmul (FP.dmul (4498657090234903196 : UInt64) (FP.dmul (FP.dmul (FP.dadd t (4643512921809643110 : UInt64)) (FP.dadd t (4643512921809643110 : UInt64))) (FP.dmul (FP.dadd t (4643512921809643110 : UInt64)) (FP.dadd t (4643512921809643110 : UInt64))))) (4387073039832405526 : UInt64)) ∧ cmpValue (FP.dcmp (FP.dmul (4498657090234903196 : UInt64) (FP.dmul (FP.dmul (FP.dadd t (4643512921809643110 : UInt64)) (FP.dadd t (4643512921809643110 : UInt64))) (FP.dmul (FP.dadd t (4643512921809643110 : UInt64)) (FP.dadd t (4643512921809643110 : UInt64))))) (0 : UInt64)) .l = (1 : Int32) ∧ ¬ ((0 : Int32) < cmpValue (FP.dcmp (FP.dsub r (FP.dmul (4498657090234903196 : UInt64) (FP.dmul (FP.dmul (FP.dadd t (4643512921809643110 : UInt64)) (FP.dadd t (4643512921809643110 : UInt64))) (FP.dmul (FP.dadd t (4643512921809643110 : UInt64)) (FP.dadd t (4643512921809643110 : UInt64)))))) (FP.dmul (FP.dmul (4498657090234903196 : UInt64) (FP.dmul (FP.dmul (FP.dadd t (4643512921809643110 : UInt64)) (FP.dadd t (4643512921809643110 : UInt64))) (FP.dmul (FP.dadd t (4643512921809643110 : UInt64)) (FP.dadd t (4643512921809643110 : UInt64))))) (4387073039832405526 : UInt64))) .g) ∧ ¬ ((0 : Int32) < cmpValue (FP.dcmp (FP.dneg (FP.dsub r (FP.dmul (4498657090234903196 : UInt64) (FP.dmul (FP.dmul (FP.dadd t (4643512921809643110 : UInt64)) (FP.dadd t (4643512921809643110 : UInt64))) (FP.dmul (FP.dadd t (4643512921809643110 : UInt64)) (FP.dadd t (4643512921809643110 : UInt64))))))) (FP.dmul (FP.dmul (4498657090234903196 : UInt64) (FP.dmul (FP.dmul (FP.dadd t (4643512921809643110 : UInt64)) (FP.dadd t (4643512921809643110 : UInt64))) (FP.dmul (FP.dadd t (4643512921809643110 : UInt64)) (FP.dadd t (4643512921809643110 : UInt64))))) (4387073039832405526 : UInt64))) .g))
def own_ck (n : Nat) : Bool := own_ck1 (own_bt n) (own_bb (own_bt n)) && decide (¬ ((0 : Int32) < cmpValue (FP.dcmp (own_bb (own_bt n)) (own_bb (own_bt (n + 1)))) .g))
def own_all (lo : Nat) : Nat → Bool
  | 0 => true
  | n + 1 => own_ck (lo + n) && own_all lo n
theorem own_all_e {lo k : Nat} (h : own_all lo k = true) : ∀ i, i < k → own_ck (lo + i) = true := by
  induction k with
  | zero => exact fun i hi => absurd hi (Nat.not_lt_zero i)
  | succ k ih =>
    rw [own_all, Bool.and_eq_true] at h
    intro i hi
    rcases Nat.lt_or_eq_of_le (Nat.le_of_lt_succ hi) with q | q
    · exact ih h.2 i q
    · rw [q]; exact h.1
theorem own_ch0 : own_all 0 250 = true := by decide +kernel
theorem own_ch250 : own_all 250 250 = true := by decide +kernel
theorem own_ch500 : own_all 500 250 = true := by decide +kernel
theorem own_ch750 : own_all 750 250 = true := by decide +kernel
theorem own_ch1000 : own_all 1000 250 = true := by decide +kernel
theorem own_ch1250 : own_all 1250 250 = true := by decide +kernel
theorem own_ch1500 : own_all 1500 250 = true := by decide +kernel
theorem own_ch1750 : own_all 1750 250 = true := by decide +kernel
theorem own_ch2000 : own_all 2000 250 = true := by decide +kernel
theorem own_ch2250 : own_all 2250 250 = true := by decide +kernel
theorem own_ch2500 : own_all 2500 250 = true := by decide +kernel
theorem own_ch2750 : own_all 2750 250 = true := by decide +kernel
theorem own_ch3000 : own_all 3000 250 = true := by decide +kernel
theorem own_ch3250 : own_all 3250 250 = true := by decide +kernel
theorem own_ch3500 : own_all 3500 250 = true := by decide +kernel
theorem own_ch3750 : own_all 3750 250 = true := by decide +kernel
theorem own_ch4000 : own_all 4000 250 = true := by decide +kernel
theorem own_ch4250 : own_all 4250 117 = true := by decide +kernel
theorem own_cks (n : Nat) (h : n < 4367) : own_ck n = true := by
  by_cases h0 : n < 250
  · exact (show 0 + (n - 0) = n by omega) ▸ own_all_e own_ch0 (n - 0) (by omega)
  by_cases h250 : n < 500
  · exact (show 250 + (n - 250) = n by omega) ▸ own_all_e own_ch250 (n - 250) (by omega)
  by_cases h500 : n < 750
  · exact (show 500 + (n - 500) = n by omega) ▸ own_all_e own_ch500 (n - 500) (by omega)
  by_cases h750 : n < 1000
  · exact (show 750 + (n - 750) = n by omega) ▸ own_all_e own_ch750 (n - 750) (by omega)
  by_cases h1000 : n < 1250
  · exact (show 1000 + (n - 1000) = n by omega) ▸ own_all_e own_ch1000 (n - 1000) (by omega)
  by_cases h1250 : n < 1500
  · exact (show 1250 + (n - 1250) = n by omega) ▸ own_all_e own_ch1250 (n - 1250) (by omega)
  by_cases h1500 : n < 1750
  · exact (show 1500 + (n - 1500) = n by omega) ▸ own_all_e own_ch1500 (n - 1500) (by omega)
  by_cases h1750 : n < 2000
  · exact (show 1750 + (n - 1750) = n by omega) ▸ own_all_e own_ch1750 (n - 1750) (by omega)
  by_cases h2000 : n < 2250
  · exact (show 2000 + (n - 2000) = n by omega) ▸ own_all_e own_ch2000 (n - 2000) (by omega)
  by_cases h2250 : n < 2500
  · exact (show 2250 + (n - 2250) = n by omega) ▸ own_all_e own_ch2250 (n - 2250) (by omega)
  by_cases h2500 : n < 2750
  · exact (show 2500 + (n - 2500) = n by omega) ▸ own_all_e own_ch2500 (n - 2500) (by omega)
  by_cases h2750 : n < 3000
  · exact (show 2750 + (n - 2750) = n by omega) ▸ own_all_e own_ch2750 (n - 2750) (by omega)
  by_cases h3000 : n < 3250
  · exact (show 3000 + (n - 3000) = n by omega) ▸ own_all_e own_ch3000 (n - 3000) (by omega)
  by_cases h3250 : n < 3500
  · exact (show 3250 + (n - 3250) = n by omega) ▸ own_all_e own_ch3250 (n - 3250) (by omega)
  by_cases h3500 : n < 3750
  · exact (show 3500 + (n - 3500) = n by omega) ▸ own_all_e own_ch3500 (n - 3500) (by omega)
  by_cases h3750 : n < 4000
  · exact (show 3750 + (n - 3750) = n by omega) ▸ own_all_e own_ch3750 (n - 3750) (by omega)
  by_cases h4000 : n < 4250
  · exact (show 4000 + (n - 4000) = n by omega) ▸ own_all_e own_ch4000 (n - 4000) (by omega)
  by_cases h4250 : n < 4367
  · exact (show 4250 + (n - 4250) = n by omega) ▸ own_all_e own_ch4250 (n - 4250) (by omega)
  exact absurd h (by omega)
theorem own_ix {x : Int32} (h : -2183 ≤ x.toInt ∧ x.toInt ≤ 2183) : ∃ n : Nat, n < 4367 ∧ x = Int32.ofInt ((n : Int) - 2183) ∧ x.toInt = (n : Int) - 2183 := by
  have e : (((x.toInt + 2183).toNat : Nat) : Int) = x.toInt + 2183 := Int.toNat_of_nonneg (by omega)
  refine ⟨(x.toInt + 2183).toNat, by omega, ?_, by omega⟩
  rw [e, Int.add_sub_cancel, Int32.ofInt_toInt]
theorem own_rem {y x : Int32} (h : y % (2184 : Int32) = x) : -2183 ≤ x.toInt ∧ x.toInt ≤ 2183 := by
  have q := c_irem y 2184 2184 rfl
  rw [h] at q
  rcases Int.le_total 0 y.toInt with k | k
  · rw [q.1 k]; omega
  · rcases Int.lt_or_eq_of_le k with k | k
    · rw [q.2 k]; omega
    · rw [q.1 (by omega), k]; decide
theorem own_e8 : own_Z 1077 1 (4620693217682128896 : UInt64) := ⟨⟨false, 4503599627370496, -49, by decide +kernel⟩, by decide +kernel⟩
theorem own_tz {x : Int32} {t : UInt64} (h : -2183 ≤ x.toInt ∧ x.toInt ≤ 2183) (ht : (FP.ddiv (FP.i2d x) (4620693217682128896 : UInt64)) = t) : own_Z 1071 x.toInt t :=
  ht ▸ own_Z.div (own_Z.eq (own_Z.i2d x) (Int.mul_one _).symm) own_e8 (by decide) (by omega)
theorem own_cke {t r : UInt64} (h : own_ck1 t r = true) : (Jvm.Free.Fl.NoNaN64 (FP.dadd t (4643512921809643110 : UInt64)) ∧ Jvm.Free.Fl.NoNaN64 (FP.dmul (4498657090234903196 : UInt64) (FP.dadd t (4643512921809643110 : UInt64))) ∧ Jvm.Free.Fl.NoNaN64 (FP.dmul (FP.dmul (4498657090234903196 : UInt64) (FP.dadd t (4643512921809643110 : UInt64))) (FP.dadd t (4643512921809643110 : UInt64))) ∧ Jvm.Free.Fl.NoNaN64 (FP.dmul (FP.dmul (FP.dmul (4498657090234903196 : UInt64) (FP.dadd t (4643512921809643110 : UInt64))) (FP.dadd t (4643512921809643110 : UInt64))) (FP.dadd t (4643512921809643110 : UInt64))) ∧ Jvm.Free.Fl.NoNaN64 (FP.dmul (FP.dmul (FP.dmul (FP.dmul (4498657090234903196 : UInt64) (FP.dadd t (4643512921809643110 : UInt64))) (FP.dadd t (4643512921809643110 : UInt64))) (FP.dadd t (4643512921809643110 : UInt64))) (FP.dadd t (4643512921809643110 : UInt64)))) ∧ cmpValue (FP.dcmp r (0 : UInt64)) .l = (1 : Int32) ∧ Jvm.Free.Fl.NoNaN64 (FP.dadd t (4643512921809643110 : UInt64)) ∧ Jvm.Free.Fl.NoNaN64 (FP.dmul (FP.dadd t (4643512921809643110 : UInt64)) (FP.dadd t (4643512921809643110 : UInt64))) ∧ Jvm.Free.Fl.NoNaN64 (FP.dmul (FP.dmul (FP.dadd t (4643512921809643110 : UInt64)) (FP.dadd t (4643512921809643110 : UInt64))) (FP.dmul (FP.dadd t (4643512921809643110 : UInt64)) (FP.dadd t (4643512921809643110 : UInt64)))) ∧ Jvm.Free.Fl.NoNaN64 (FP.dmul (4498657090234903196 : UInt64) (FP.dmul (FP.dmul (FP.dadd t (4643512921809643110 : UInt64)) (FP.dadd t (4643512921809643110 : UInt64))) (FP.dmul (FP.dadd t (4643512921809643110 : UInt64)) (FP.dadd t (4643512921809643110 : UInt64))))) ∧ Jvm.Free.Fl.NoNaN64 (FP.dsub r (FP.dmul (4498657090234903196 : UInt64) (FP.dmul (FP.dmul (FP.dadd t (4643512921809643110 : UInt64)) (FP.dadd t (4643512921809643110 : UInt64))) (FP.dmul (FP.dadd t (4643512921809643110 : UInt64)) (FP.dadd t (4643512921809643110 : UInt64)))))) ∧ Jvm.Free.Fl.NoNaN64 (FP.dmul (FP.dmul (4498657090234903196 : UInt64) (FP.dmul (FP.dmul (FP.dadd t (4643512921809643110 : UInt64)) (FP.dadd t (4643512921809643110 : UInt64))) (FP.dmul (FP.dadd t (4643512921809643110 : UInt64)) (FP.dadd t (4643512921809643110 : UInt64))))) (4387073039832405526 : UInt64)) ∧ cmpValue (FP.dcmp (FP.dmul (4498657090234903196 : UInt64) (FP.dmul (FP.dmul (FP.dadd t (4643512921809643110 : UInt64)) (FP.dadd t (4643512921809643110 : UInt64))) (FP.dmul (FP.dadd t (4643512921809643110 : UInt64)) (FP.dadd t (4643512921809643110 : UInt64))))) (0 : UInt64)) .l = (1 : Int32) ∧ ¬ ((0 : Int32) < cmpValue (FP.dcmp (FP.dsub r (FP.dmul (4498657090234903196 : UInt64) (FP.dmul (FP.dmul (FP.dadd t (4643512921809643110 : UInt64)) (FP.dadd t (4643512921809643110 : UInt64))) (FP.dmul (FP.dadd t (4643512921809643110 : UInt64)) (FP.dadd t (4643512921809643110 : UInt64)))))) (FP.dmul (FP.dmul (4498657090234903196 : UInt64) (FP.dmul (FP.dmul (FP.dadd t (4643512921809643110 : UInt64)) (FP.dadd t (4643512921809643110 : UInt64))) (FP.dmul (FP.dadd t (4643512921809643110 : UInt64)) (FP.dadd t (4643512921809643110 : UInt64))))) (4387073039832405526 : UInt64))) .g) ∧ ¬ ((0 : Int32) < cmpValue (FP.dcmp (FP.dneg (FP.dsub r (FP.dmul (4498657090234903196 : UInt64) (FP.dmul (FP.dmul (FP.dadd t (4643512921809643110 : UInt64)) (FP.dadd t (4643512921809643110 : UInt64))) (FP.dmul (FP.dadd t (4643512921809643110 : UInt64)) (FP.dadd t (4643512921809643110 : UInt64))))))) (FP.dmul (FP.dmul (4498657090234903196 : UInt64) (FP.dmul (FP.dmul (FP.dadd t (4643512921809643110 : UInt64)) (FP.dadd t (4643512921809643110 : UInt64))) (FP.dmul (FP.dadd t (4643512921809643110 : UInt64)) (FP.dadd t (4643512921809643110 : UInt64))))) (4387073039832405526 : UInt64))) .g) := by
  have q := of_decide_eq_true h
  exact ⟨⟨q.1, q.2.1, q.2.2.1, q.2.2.2.1, q.2.2.2.2.1⟩, q.2.2.2.2.2.1, q.2.2.2.2.2.2⟩
theorem own_ok {x : Int32} {t : UInt64} (h : -2183 ≤ x.toInt ∧ x.toInt ≤ 2183) (ht : (FP.ddiv (FP.i2d x) (4620693217682128896 : UInt64)) = t) : (Jvm.Free.Fl.NoNaN64 (FP.dadd t (4643512921809643110 : UInt64)) ∧ Jvm.Free.Fl.NoNaN64 (FP.dmul (4498657090234903196 : UInt64) (FP.dadd t (4643512921809643110 : UInt64))) ∧ Jvm.Free.Fl.NoNaN64 (FP.dmul (FP.dmul (4498657090234903196 : UInt64) (FP.dadd t (4643512921809643110 : UInt64))) (FP.dadd t (4643512921809643110 : UInt64))) ∧ Jvm.Free.Fl.NoNaN64 (FP.dmul (FP.dmul (FP.dmul (4498657090234903196 : UInt64) (FP.dadd t (4643512921809643110 : UInt64))) (FP.dadd t (4643512921809643110 : UInt64))) (FP.dadd t (4643512921809643110 : UInt64))) ∧ Jvm.Free.Fl.NoNaN64 (FP.dmul (FP.dmul (FP.dmul (FP.dmul (4498657090234903196 : UInt64) (FP.dadd t (4643512921809643110 : UInt64))) (FP.dadd t (4643512921809643110 : UInt64))) (FP.dadd t (4643512921809643110 : UInt64))) (FP.dadd t (4643512921809643110 : UInt64)))) ∧ cmpValue (FP.dcmp (FP.dmul (FP.dmul (FP.dmul (FP.dmul (4498657090234903196 : UInt64) (FP.dadd t (4643512921809643110 : UInt64))) (FP.dadd t (4643512921809643110 : UInt64))) (FP.dadd t (4643512921809643110 : UInt64))) (FP.dadd t (4643512921809643110 : UInt64))) (0 : UInt64)) .l = (1 : Int32) ∧ Jvm.Free.Fl.NoNaN64 (FP.dadd t (4643512921809643110 : UInt64)) ∧ Jvm.Free.Fl.NoNaN64 (FP.dmul (FP.dadd t (4643512921809643110 : UInt64)) (FP.dadd t (4643512921809643110 : UInt64))) ∧ Jvm.Free.Fl.NoNaN64 (FP.dmul (FP.dmul (FP.dadd t (4643512921809643110 : UInt64)) (FP.dadd t (4643512921809643110 : UInt64))) (FP.dmul (FP.dadd t (4643512921809643110 : UInt64)) (FP.dadd t (4643512921809643110 : UInt64)))) ∧ Jvm.Free.Fl.NoNaN64 (FP.dmul (4498657090234903196 : UInt64) (FP.dmul (FP.dmul (FP.dadd t (4643512921809643110 : UInt64)) (FP.dadd t (4643512921809643110 : UInt64))) (FP.dmul (FP.dadd t (4643512921809643110 : UInt64)) (FP.dadd t (4643512921809643110 : UInt64))))) ∧ Jvm.Free.Fl.NoNaN64 (FP.dsub (FP.dmul (FP.dmul (FP.dmul (FP.dmul (4498657090234903196 : UInt64) (FP.dadd t (4643512921809643110 : UInt64))) (FP.dadd t (4643512921809643110 : UInt64))) (FP.dadd t (4643512921809643110 : UInt64))) (FP.dadd t (4643512921809643110 : UInt64))) (FP.dmul (4498657090234903196 : UInt64) (FP.dmul (FP.dmul (FP.dadd t (4643512921809643110 : UInt64)) (FP.dadd t (4643512921809643110 : UInt64))) (FP.dmul (FP.dadd t (4643512921809643110 : UInt64)) (FP.dadd t (4643512921809643110 : UInt64)))))) ∧ Jvm.Free.Fl.NoNaN64 (FP.dmul (FP.dmul (4498657090234903196 : UInt64) (FP.dmul (FP.dmul (FP.dadd t (4643512921809643110 : UInt64)) (FP.dadd t (4643512921809643110 : UInt64))) (FP.dmul (FP.dadd t (4643512921809643110 : UInt64)) (FP.dadd t (4643512921809643110 : UInt64))))) (4387073039832405526 : UInt64)) ∧ cmpValue (FP.dcmp (FP.dmul (4498657090234903196 : UInt64) (FP.dmul (FP.dmul (FP.dadd t (4643512921809643110 : UInt64)) (FP.dadd t (4643512921809643110 : UInt64))) (FP.dmul (FP.dadd t (4643512921809643110 : UInt64)) (FP.dadd t (4643512921809643110 : UInt64))))) (0 : UInt64)) .l = (1 : Int32) ∧ ¬ ((0 : Int32) < cmpValue (FP.dcmp (FP.dsub (FP.dmul (FP.dmul (FP.dmul (FP.dmul (4498657090234903196 : UInt64) (FP.dadd t (4643512921809643110 : UInt64))) (FP.dadd t (4643512921809643110 : UInt64))) (FP.dadd t (4643512921809643110 : UInt64))) (FP.dadd t (4643512921809643110 : UInt64))) (FP.dmul (4498657090234903196 : UInt64) (FP.dmul (FP.dmul (FP.dadd t (4643512921809643110 : UInt64)) (FP.dadd t (4643512921809643110 : UInt64))) (FP.dmul (FP.dadd t (4643512921809643110 : UInt64)) (FP.dadd t (4643512921809643110 : UInt64)))))) (FP.dmul (FP.dmul (4498657090234903196 : UInt64) (FP.dmul (FP.dmul (FP.dadd t (4643512921809643110 : UInt64)) (FP.dadd t (4643512921809643110 : UInt64))) (FP.dmul (FP.dadd t (4643512921809643110 : UInt64)) (FP.dadd t (4643512921809643110 : UInt64))))) (4387073039832405526 : UInt64))) .g) ∧ ¬ ((0 : Int32) < cmpValue (FP.dcmp (FP.dneg (FP.dsub (FP.dmul (FP.dmul (FP.dmul (FP.dmul (4498657090234903196 : UInt64) (FP.dadd t (4643512921809643110 : UInt64))) (FP.dadd t (4643512921809643110 : UInt64))) (FP.dadd t (4643512921809643110 : UInt64))) (FP.dadd t (4643512921809643110 : UInt64))) (FP.dmul (4498657090234903196 : UInt64) (FP.dmul (FP.dmul (FP.dadd t (4643512921809643110 : UInt64)) (FP.dadd t (4643512921809643110 : UInt64))) (FP.dmul (FP.dadd t (4643512921809643110 : UInt64)) (FP.dadd t (4643512921809643110 : UInt64))))))) (FP.dmul (FP.dmul (4498657090234903196 : UInt64) (FP.dmul (FP.dmul (FP.dadd t (4643512921809643110 : UInt64)) (FP.dadd t (4643512921809643110 : UInt64))) (FP.dmul (FP.dadd t (4643512921809643110 : UInt64)) (FP.dadd t (4643512921809643110 : UInt64))))) (4387073039832405526 : UInt64))) .g) := by
  obtain ⟨n, hn, e, _⟩ := own_ix h
  have q := own_cks n hn
  rw [own_ck, Bool.and_eq_true] at q
  have w : own_bt n = t := by rw [own_bt, ← e]; exact ht
  rw [w] at q
  exact own_cke q.1
theorem own_okr {t r : UInt64} (g : (Jvm.Free.Fl.NoNaN64 (FP.dadd t (4643512921809643110 : UInt64)) ∧ Jvm.Free.Fl.NoNaN64 (FP.dmul (4498657090234903196 : UInt64) (FP.dadd t (4643512921809643110 : UInt64))) ∧ Jvm.Free.Fl.NoNaN64 (FP.dmul (FP.dmul (4498657090234903196 : UInt64) (FP.dadd t (4643512921809643110 : UInt64))) (FP.dadd t (4643512921809643110 : UInt64))) ∧ Jvm.Free.Fl.NoNaN64 (FP.dmul (FP.dmul (FP.dmul (4498657090234903196 : UInt64) (FP.dadd t (4643512921809643110 : UInt64))) (FP.dadd t (4643512921809643110 : UInt64))) (FP.dadd t (4643512921809643110 : UInt64))) ∧ Jvm.Free.Fl.NoNaN64 (FP.dmul (FP.dmul (FP.dmul (FP.dmul (4498657090234903196 : UInt64) (FP.dadd t (4643512921809643110 : UInt64))) (FP.dadd t (4643512921809643110 : UInt64))) (FP.dadd t (4643512921809643110 : UInt64))) (FP.dadd t (4643512921809643110 : UInt64)))) ∧ cmpValue (FP.dcmp (FP.dmul (FP.dmul (FP.dmul (FP.dmul (4498657090234903196 : UInt64) (FP.dadd t (4643512921809643110 : UInt64))) (FP.dadd t (4643512921809643110 : UInt64))) (FP.dadd t (4643512921809643110 : UInt64))) (FP.dadd t (4643512921809643110 : UInt64))) (0 : UInt64)) .l = (1 : Int32) ∧ Jvm.Free.Fl.NoNaN64 (FP.dadd t (4643512921809643110 : UInt64)) ∧ Jvm.Free.Fl.NoNaN64 (FP.dmul (FP.dadd t (4643512921809643110 : UInt64)) (FP.dadd t (4643512921809643110 : UInt64))) ∧ Jvm.Free.Fl.NoNaN64 (FP.dmul (FP.dmul (FP.dadd t (4643512921809643110 : UInt64)) (FP.dadd t (4643512921809643110 : UInt64))) (FP.dmul (FP.dadd t (4643512921809643110 : UInt64)) (FP.dadd t (4643512921809643110 : UInt64)))) ∧ Jvm.Free.Fl.NoNaN64 (FP.dmul (4498657090234903196 : UInt64) (FP.dmul (FP.dmul (FP.dadd t (4643512921809643110 : UInt64)) (FP.dadd t (4643512921809643110 : UInt64))) (FP.dmul (FP.dadd t (4643512921809643110 : UInt64)) (FP.dadd t (4643512921809643110 : UInt64))))) ∧ Jvm.Free.Fl.NoNaN64 (FP.dsub (FP.dmul (FP.dmul (FP.dmul (FP.dmul (4498657090234903196 : UInt64) (FP.dadd t (4643512921809643110 : UInt64))) (FP.dadd t (4643512921809643110 : UInt64))) (FP.dadd t (4643512921809643110 : UInt64))) (FP.dadd t (4643512921809643110 : UInt64))) (FP.dmul (4498657090234903196 : UInt64) (FP.dmul (FP.dmul (FP.dadd t (4643512921809643110 : UInt64)) (FP.dadd t (4643512921809643110 : UInt64))) (FP.dmul (FP.dadd t (4643512921809643110 : UInt64)) (FP.dadd t (4643512921809643110 : UInt64)))))) ∧ Jvm.Free.Fl.NoNaN64 (FP.dmul (FP.dmul (4498657090234903196 : UInt64) (FP.dmul (FP.dmul (FP.dadd t (4643512921809643110 : UInt64)) (FP.dadd t (4643512921809643110 : UInt64))) (FP.dmul (FP.dadd t (4643512921809643110 : UInt64)) (FP.dadd t (4643512921809643110 : UInt64))))) (4387073039832405526 : UInt64)) ∧ cmpValue (FP.dcmp (FP.dmul (4498657090234903196 : UInt64) (FP.dmul (FP.dmul (FP.dadd t (4643512921809643110 : UInt64)) (FP.dadd t (4643512921809643110 : UInt64))) (FP.dmul (FP.dadd t (4643512921809643110 : UInt64)) (FP.dadd t (4643512921809643110 : UInt64))))) (0 : UInt64)) .l = (1 : Int32) ∧ ¬ ((0 : Int32) < cmpValue (FP.dcmp (FP.dsub (FP.dmul (FP.dmul (FP.dmul (FP.dmul (4498657090234903196 : UInt64) (FP.dadd t (4643512921809643110 : UInt64))) (FP.dadd t (4643512921809643110 : UInt64))) (FP.dadd t (4643512921809643110 : UInt64))) (FP.dadd t (4643512921809643110 : UInt64))) (FP.dmul (4498657090234903196 : UInt64) (FP.dmul (FP.dmul (FP.dadd t (4643512921809643110 : UInt64)) (FP.dadd t (4643512921809643110 : UInt64))) (FP.dmul (FP.dadd t (4643512921809643110 : UInt64)) (FP.dadd t (4643512921809643110 : UInt64)))))) (FP.dmul (FP.dmul (4498657090234903196 : UInt64) (FP.dmul (FP.dmul (FP.dadd t (4643512921809643110 : UInt64)) (FP.dadd t (4643512921809643110 : UInt64))) (FP.dmul (FP.dadd t (4643512921809643110 : UInt64)) (FP.dadd t (4643512921809643110 : UInt64))))) (4387073039832405526 : UInt64))) .g) ∧ ¬ ((0 : Int32) < cmpValue (FP.dcmp (FP.dneg (FP.dsub (FP.dmul (FP.dmul (FP.dmul (FP.dmul (4498657090234903196 : UInt64) (FP.dadd t (4643512921809643110 : UInt64))) (FP.dadd t (4643512921809643110 : UInt64))) (FP.dadd t (4643512921809643110 : UInt64))) (FP.dadd t (4643512921809643110 : UInt64))) (FP.dmul (4498657090234903196 : UInt64) (FP.dmul (FP.dmul (FP.dadd t (4643512921809643110 : UInt64)) (FP.dadd t (4643512921809643110 : UInt64))) (FP.dmul (FP.dadd t (4643512921809643110 : UInt64)) (FP.dadd t (4643512921809643110 : UInt64))))))) (FP.dmul (FP.dmul (4498657090234903196 : UInt64) (FP.dmul (FP.dmul (FP.dadd t (4643512921809643110 : UInt64)) (FP.dadd t (4643512921809643110 : UInt64))) (FP.dmul (FP.dadd t (4643512921809643110 : UInt64)) (FP.dadd t (4643512921809643110 : UInt64))))) (4387073039832405526 : UInt64))) .g)) (hr : (FP.dmul (FP.dmul (FP.dmul (FP.dmul (4498657090234903196 : UInt64) (FP.dadd t (4643512921809643110 : UInt64))) (FP.dadd t (4643512921809643110 : UInt64))) (FP.dadd t (4643512921809643110 : UInt64))) (FP.dadd t (4643512921809643110 : UInt64))) = r) : cmpValue (FP.dcmp r (0 : UInt64)) .l = (1 : Int32) ∧ Jvm.Free.Fl.NoNaN64 (FP.dadd t (4643512921809643110 : UInt64)) ∧ Jvm.Free.Fl.NoNaN64 (FP.dmul (FP.dadd t (4643512921809643110 : UInt64)) (FP.dadd t (4643512921809643110 : UInt64))) ∧ Jvm.Free.Fl.NoNaN64 (FP.dmul (FP.dmul (FP.dadd t (4643512921809643110 : UInt64)) (FP.dadd t (4643512921809643110 : UInt64))) (FP.dmul (FP.dadd t (4643512921809643110 : UInt64)) (FP.dadd t (4643512921809643110 : UInt64)))) ∧ Jvm.Free.Fl.NoNaN64 (FP.dmul (4498657090234903196 : UInt64) (FP.dmul (FP.dmul (FP.dadd t (4643512921809643110 : UInt64)) (FP.dadd t (4643512921809643110 : UInt64))) (FP.dmul (FP.dadd t (4643512921809643110 : UInt64)) (FP.dadd t (4643512921809643110 : UInt64))))) ∧ Jvm.Free.Fl.NoNaN64 (FP.dsub r (FP.dmul (4498657090234903196 : UInt64) (FP.dmul (FP.dmul (FP.dadd t (4643512921809643110 : UInt64)) (FP.dadd t (4643512921809643110 : UInt64))) (FP.dmul (FP.dadd t (4643512921809643110 : UInt64)) (FP.dadd t (4643512921809643110 : UInt64)))))) ∧ Jvm.Free.Fl.NoNaN64 (FP.dmul (FP.dmul (4498657090234903196 : UInt64) (FP.dmul (FP.dmul (FP.dadd t (4643512921809643110 : UInt64)) (FP.dadd t (4643512921809643110 : UInt64))) (FP.dmul (FP.dadd t (4643512921809643110 : UInt64)) (FP.dadd t (4643512921809643110 : UInt64))))) (4387073039832405526 : UInt64)) ∧ cmpValue (FP.dcmp (FP.dmul (4498657090234903196 : UInt64) (FP.dmul (FP.dmul (FP.dadd t (4643512921809643110 : UInt64)) (FP.dadd t (4643512921809643110 : UInt64))) (FP.dmul (FP.dadd t (4643512921809643110 : UInt64)) (FP.dadd t (4643512921809643110 : UInt64))))) (0 : UInt64)) .l = (1 : Int32) ∧ ¬ ((0 : Int32) < cmpValue (FP.dcmp (FP.dsub r (FP.dmul (4498657090234903196 : UInt64) (FP.dmul (FP.dmul (FP.dadd t (4643512921809643110 : UInt64)) (FP.dadd t (4643512921809643110 : UInt64))) (FP.dmul (FP.dadd t (4643512921809643110 : UInt64)) (FP.dadd t (4643512921809643110 : UInt64)))))) (FP.dmul (FP.dmul (4498657090234903196 : UInt64) (FP.dmul (FP.dmul (FP.dadd t (4643512921809643110 : UInt64)) (FP.dadd t (4643512921809643110 : UInt64))) (FP.dmul (FP.dadd t (4643512921809643110 : UInt64)) (FP.dadd t (4643512921809643110 : UInt64))))) (4387073039832405526 : UInt64))) .g) ∧ ¬ ((0 : Int32) < cmpValue (FP.dcmp (FP.dneg (FP.dsub r (FP.dmul (4498657090234903196 : UInt64) (FP.dmul (FP.dmul (FP.dadd t (4643512921809643110 : UInt64)) (FP.dadd t (4643512921809643110 : UInt64))) (FP.dmul (FP.dadd t (4643512921809643110 : UInt64)) (FP.dadd t (4643512921809643110 : UInt64))))))) (FP.dmul (FP.dmul (4498657090234903196 : UInt64) (FP.dmul (FP.dmul (FP.dadd t (4643512921809643110 : UInt64)) (FP.dadd t (4643512921809643110 : UInt64))) (FP.dmul (FP.dadd t (4643512921809643110 : UInt64)) (FP.dadd t (4643512921809643110 : UInt64))))) (4387073039832405526 : UInt64))) .g) := hr ▸ g.2
theorem own_rnn (n : Nat) (h : n < 4367) : Core.val64 (own_bb (own_bt n)) ≠ .nan := by
  have q := own_cks n h
  rw [own_ck, Bool.and_eq_true] at q
  exact val64_no.mp (own_cke q.1).1.2.2.2.2
theorem own_adj (n : Nat) (h : n + 1 < 4367) : own_zv (own_bb (own_bt n)) ≤ own_zv (own_bb (own_bt (n + 1))) := by
  have q := own_cks n (by omega)
  rw [own_ck, Bool.and_eq_true] at q
  have k := of_decide_eq_true q.2
  have v := (own_cmpv (own_rnn n (by omega)) (own_rnn (n + 1) h) .g).2.2
  rcases Int.lt_or_le (own_zv (own_bb (own_bt (n + 1)))) (own_zv (own_bb (own_bt n))) with w | w
  · exact absurd (by rw [v w]; decide) k
  · exact w
theorem own_lift (n d : Nat) (h : n + d < 4367) : own_zv (own_bb (own_bt n)) ≤ own_zv (own_bb (own_bt (n + d))) := by
  induction d with
  | zero => exact Int.le_refl _
  | succ d ih => exact Int.le_trans (ih (by omega)) (own_adj (n + d) (by omega))
theorem own_mono {x y : Int32} {t u r v : UInt64} (h : -2183 ≤ x.toInt ∧ x.toInt ≤ 2183) (h' : -2183 ≤ y.toInt ∧ y.toInt ≤ 2183) (ht : (FP.ddiv (FP.i2d x) (4620693217682128896 : UInt64)) = t) (hu : (FP.ddiv (FP.i2d y) (4620693217682128896 : UInt64)) = u)
    (hr : (FP.dmul (FP.dmul (FP.dmul (FP.dmul (4498657090234903196 : UInt64) (FP.dadd t (4643512921809643110 : UInt64))) (FP.dadd t (4643512921809643110 : UInt64))) (FP.dadd t (4643512921809643110 : UInt64))) (FP.dadd t (4643512921809643110 : UInt64))) = r) (hv : (FP.dmul (FP.dmul (FP.dmul (FP.dmul (4498657090234903196 : UInt64) (FP.dadd u (4643512921809643110 : UInt64))) (FP.dadd u (4643512921809643110 : UInt64))) (FP.dadd u (4643512921809643110 : UInt64))) (FP.dadd u (4643512921809643110 : UInt64))) = v) (hl : cmpValue (FP.dcmp t u) .g < (0 : Int32)) : ¬ ((0 : Int32) < cmpValue (FP.dcmp r v) .g) := by
  have a := own_tz h ht; have b := own_tz h' hu
  have lt : x.toInt < y.toInt := by
    rcases Int.lt_or_le x.toInt y.toInt with w | w
    · exact w
    · rcases Int.lt_or_eq_of_le w with w | w
      · rw [a.cmpG b w] at hl; exact absurd hl (by decide)
      · rw [a.cmpE b w.symm] at hl; exact absurd hl (by decide)
  obtain ⟨n, hn, e, en⟩ := own_ix h
  obtain ⟨n', hn', e', en'⟩ := own_ix h'
  obtain ⟨d, hd⟩ : ∃ d, n' = n + d := ⟨n' - n, by omega⟩
  have w : own_bt n = t := by rw [own_bt, ← e]; exact ht
  have w' : own_bt n' = u := by rw [own_bt, ← e']; exact hu
  have k1 : own_bb (own_bt n) = r := by rw [w]; exact hr
  have k2 : own_bb (own_bt n') = v := by rw [w']; exact hv
  have l := own_lift n d (by omega)
  rw [← hd, k1, k2] at l
  have n1 := own_rnn n hn; have n2 := own_rnn n' hn'
  rw [k1] at n1; rw [k2] at n2
  have q := own_cmpv n1 n2 .g
  rcases Int.lt_or_eq_of_le l with z | z
  · rw [q.1 z]; decide
  · rw [q.2.1 z]; decide
theorem own_sam {x y : Int32} {t u r v : UInt64} (h : -2183 ≤ x.toInt ∧ x.toInt ≤ 2183) (h' : -2183 ≤ y.toInt ∧ y.toInt ≤ 2183) (ht : (FP.ddiv (FP.i2d x) (4620693217682128896 : UInt64)) = t) (hu : (FP.ddiv (FP.i2d y) (4620693217682128896 : UInt64)) = u)
    (hr : (FP.dmul (FP.dmul (FP.dmul (FP.dmul (4498657090234903196 : UInt64) (FP.dadd t (4643512921809643110 : UInt64))) (FP.dadd t (4643512921809643110 : UInt64))) (FP.dadd t (4643512921809643110 : UInt64))) (FP.dadd t (4643512921809643110 : UInt64))) = r) (hv : (FP.dmul (FP.dmul (FP.dmul (FP.dmul (4498657090234903196 : UInt64) (FP.dadd u (4643512921809643110 : UInt64))) (FP.dadd u (4643512921809643110 : UInt64))) (FP.dadd u (4643512921809643110 : UInt64))) (FP.dadd u (4643512921809643110 : UInt64))) = v) (hl : cmpValue (FP.dcmp t u) .l = (0 : Int32)) : cmpValue (FP.dcmp r v) .l = (0 : Int32) := by
  have a := own_tz h ht; have b := own_tz h' hu
  have eq : x.toInt = y.toInt := by
    rcases Int.lt_or_le x.toInt y.toInt with w | w
    · rw [a.cmpL b w] at hl; exact absurd hl (by decide)
    · rcases Int.lt_or_eq_of_le w with w | w
      · rw [a.cmpG b w] at hl; exact absurd hl (by decide)
      · exact w.symm
  have exy : x = y := Int32.toInt_inj.mp eq
  subst exy
  have tu : t = u := ht.symm.trans hu
  subst tu
  have rv : r = v := hr.symm.trans hv
  subst rv
  obtain ⟨n, hn, e, _⟩ := own_ix h
  have w : own_bt n = t := by rw [own_bt, ← e]; exact ht
  have n1 := own_rnn n hn
  rw [w] at n1
  have n2 : Core.val64 r ≠ .nan := hr ▸ n1
  exact (own_cmpv n2 n2 .l).2.1 rfl
end OwnBb
theorem own_d1_0 : decode prog_77_method_2_code 0 = .ok (.dload_n 0, 1) := by decide +kernel
theorem own_d1_1 : decode prog_77_method_2_code 1 = .ok (.ldc2_w 9, 3) := by decide +kernel
theorem own_d1_4 : decode prog_77_method_2_code 4 = .ok (.dadd, 1) := by decide +kernel
theorem own_d1_5 : decode prog_77_method_2_code 5 = .ok (.dstore_n 2, 1) := by decide +kernel
theorem own_d1_6 : decode prog_77_method_2_code 6 = .ok (.ldc2_w 13, 3) := by decide +kernel
theorem own_d1_9 : decode prog_77_method_2_code 9 = .ok (.dload_n 2, 1) := by decide +kernel
theorem own_d1_10 : decode prog_77_method_2_code 10 = .ok (.dmul, 1) := by decide +kernel
theorem own_d1_11 : decode prog_77_method_2_code 11 = .ok (.dload_n 2, 1) := by decide +kernel
theorem own_d1_12 : decode prog_77_method_2_code 12 = .ok (.dmul, 1) := by decide +kernel
theorem own_d1_13 : decode prog_77_method_2_code 13 = .ok (.dload_n 2, 1) := by decide +kernel
theorem own_d1_14 : decode prog_77_method_2_code 14 = .ok (.dmul, 1) := by decide +kernel
theorem own_d1_15 : decode prog_77_method_2_code 15 = .ok (.dload_n 2, 1) := by decide +kernel
theorem own_d1_16 : decode prog_77_method_2_code 16 = .ok (.dmul, 1) := by decide +kernel
theorem own_d1_17 : decode prog_77_method_2_code 17 = .ok (.dreturn, 1) := by decide +kernel
set_option maxHeartbeats 4000000 in
theorem own_ef1 (m : MethodId) (x0 : UInt64) : entryFrame m #[(.double x0)] 4 = mkF m 0 #[.val (.double x0), .second, .unset, .unset] [] := by first | (simp [entryFrame, mkF, argsToLocals, Value.category]; done) | rfl
theorem own_pn0 : plainName "com/example/helioslope/helioslope/longwave/Longwave" = true := by first | (simp [plainName, overriddenIn]; done) | decide +kernel
def own_Q1 (Z : State) (a0 : Array Value) (d0 : UInt64) (h0 : Heap) (n0 : Nat) (v : Option Value) (h : Heap) (L : List Loc) : Prop := v = some (.double (FP.dmul (FP.dmul (FP.dmul (FP.dmul (4498657090234903196 : UInt64) (FP.dadd d0 (4643512921809643110 : UInt64))) (FP.dadd d0 (4643512921809643110 : UInt64))) (FP.dadd d0 (4643512921809643110 : UInt64))) (FP.dadd d0 (4643512921809643110 : UInt64)))) ∧ Fr n0 L ∧ h = h0
set_option maxRecDepth 65536 in
set_option maxHeartbeats 40000000 in
theorem own_rm1 (l : Launch) (Z : State) (a0 : Array Value) (hw : ∀ d ∈ tables_1, d.before a0 Z = true) (ws : List Jvm.Cond) (d0 : UInt64) (h0 : Heap) (n0 : Nat) (Z0 : n0 ≤ h0.size) (pb0 : Jvm.Free.Fl.NoNaN64 (FP.dadd d0 (4643512921809643110 : UInt64))) (pb1 : Jvm.Free.Fl.NoNaN64 (FP.dmul (4498657090234903196 : UInt64) (FP.dadd d0 (4643512921809643110 : UInt64)))) (pb2 : Jvm.Free.Fl.NoNaN64 (FP.dmul (FP.dmul (4498657090234903196 : UInt64) (FP.dadd d0 (4643512921809643110 : UInt64))) (FP.dadd d0 (4643512921809643110 : UInt64)))) (pb3 : Jvm.Free.Fl.NoNaN64 (FP.dmul (FP.dmul (FP.dmul (4498657090234903196 : UInt64) (FP.dadd d0 (4643512921809643110 : UInt64))) (FP.dadd d0 (4643512921809643110 : UInt64))) (FP.dadd d0 (4643512921809643110 : UInt64)))) (pb4 : Jvm.Free.Fl.NoNaN64 (FP.dmul (FP.dmul (FP.dmul (FP.dmul (4498657090234903196 : UInt64) (FP.dadd d0 (4643512921809643110 : UInt64))) (FP.dadd d0 (4643512921809643110 : UInt64))) (FP.dadd d0 (4643512921809643110 : UInt64))) (FP.dadd d0 (4643512921809643110 : UInt64)))) :
    MetFree l (⟨"com/example/helioslope/helioslope/longwave/Longwave", "blackbody", "(D)D"⟩ : MethodName) (head1 (Jvm.Cond.code (⟨"com/example/helioslope/helioslope/longwave/Longwave", "blackbody", "(D)D"⟩ : MethodName) prog_77_method_2_code 4 (some .double) :: ws) ({ frames := 0, cells := 0, slots := 0, locals := 0 } : Room)) (fun a U => a = #[(.double d0)] ∧ Z.Warmed39 U.vm ∧ U.heap = h0) (fun _ _ _ _ _ => True) (fun _ U o U' => ∃ v L, o = .returned v ∧ own_Q1 Z a0 d0 h0 n0 v U'.heap L ∧ FrameEnd U o U' L ({ frames := 0, cells := 0, slots := 0, locals := 0 } : Room).cells ({ frames := 0, cells := 0, slots := 0, locals := 0 } : Room).slots) := by
  refine own_body (Q := fun v h L => own_Q1 Z a0 d0 h0 n0 v h L) (plainFor_of_name own_pn0) ?_
  intro p e s m below meth c s₁ hx hby hml hZ hown hnm hret hlk X0 e0
  replace hml : c.maxLocals = 4 := hml
  have N0 := Fr.nil n0
  have K0 : Keep h0 h0 [] := Keep.refl _ _
  refine own_st (fun t k => castTop (own_ef1 m d0) k) ?_
  show own_Run p e below s _ _ _ (s₁.setTop (mkF m 0 #[.val (.double d0), .second, .unset, .unset] []))
  refine own_st (fun t k => XS.dloadN X0.here hx rfl (hb hby own_d1_0) rfl k) ?_
  show own_Run p e below s _ _ _ (s₁.setTop (mkF m 1 #[.val (.double d0), .second, .unset, .unset] [(.double d0)]))
  refine own_st (X0.ldc2DoubleC hx hown (mvT hZ (hw _ (List.mem_of_getElem? (i := 5) rfl))) (g := (mkF m 1 #[.val (.double d0), .second, .unset, .unset] [(.double d0)])) rfl (hb hby own_d1_1)) ?_
  show own_Run p e below s _ _ _ (s₁.setTop (mkF m 4 #[.val (.double d0), .second, .unset, .unset] [(.double (4643512921809643110 : UInt64)), (.double d0)]))
  refine own_st (fun t k => XS.daddS X0.here hx rfl (hb hby own_d1_4) rfl (pb0) (v := (FP.dadd d0 (4643512921809643110 : UInt64))) (rfl) k) ?_
  show own_Run p e below s _ _ _ (s₁.setTop (mkF m 5 #[.val (.double d0), .second, .unset, .unset] [(.double (FP.dadd d0 (4643512921809643110 : UInt64)))]))
  refine own_st (fun t k => XS.dstoreN X0.here hx rfl (hb hby own_d1_5) rfl (l' := #[.val (.double d0), .second, .val (.double (FP.dadd d0 (4643512921809643110 : UInt64))), .second]) rfl k) ?_
  show own_Run p e below s _ _ _ (s₁.setTop (mkF m 6 #[.val (.double d0), .second, .val (.double (FP.dadd d0 (4643512921809643110 : UInt64))), .second] []))
  refine own_st (X0.ldc2DoubleC hx hown (mvT hZ (hw _ (List.mem_of_getElem? (i := 6) rfl))) (g := (mkF m 6 #[.val (.double d0), .second, .val (.double (FP.dadd d0 (4643512921809643110 : UInt64))), .second] [])) rfl (hb hby own_d1_6)) ?_
  show own_Run p e below s _ _ _ (s₁.setTop (mkF m 9 #[.val (.double d0), .second, .val (.double (FP.dadd d0 (4643512921809643110 : UInt64))), .second] [(.double (4498657090234903196 : UInt64))]))
  refine own_st (fun t k => XS.dloadN X0.here hx rfl (hb hby own_d1_9) rfl k) ?_
  show own_Run p e below s _ _ _ (s₁.setTop (mkF m 10 #[.val (.double d0), .second, .val (.double (FP.dadd d0 (4643512921809643110 : UInt64))), .second] [(.double (FP.dadd d0 (4643512921809643110 : UInt64))), (.double (4498657090234903196 : UInt64))]))
  refine own_st (fun t k => XS.dmulS X0.here hx rfl (hb hby own_d1_10) rfl (pb1) (v := (FP.dmul (4498657090234903196 : UInt64) (FP.dadd d0 (4643512921809643110 : UInt64)))) (rfl) k) ?_
  show own_Run p e below s _ _ _ (s₁.setTop (mkF m 11 #[.val (.double d0), .second, .val (.double (FP.dadd d0 (4643512921809643110 : UInt64))), .second] [(.double (FP.dmul (4498657090234903196 : UInt64) (FP.dadd d0 (4643512921809643110 : UInt64))))]))
  refine own_st (fun t k => XS.dloadN X0.here hx rfl (hb hby own_d1_11) rfl k) ?_
  show own_Run p e below s _ _ _ (s₁.setTop (mkF m 12 #[.val (.double d0), .second, .val (.double (FP.dadd d0 (4643512921809643110 : UInt64))), .second] [(.double (FP.dadd d0 (4643512921809643110 : UInt64))), (.double (FP.dmul (4498657090234903196 : UInt64) (FP.dadd d0 (4643512921809643110 : UInt64))))]))
  refine own_st (fun t k => XS.dmulS X0.here hx rfl (hb hby own_d1_12) rfl (pb2) (v := (FP.dmul (FP.dmul (4498657090234903196 : UInt64) (FP.dadd d0 (4643512921809643110 : UInt64))) (FP.dadd d0 (4643512921809643110 : UInt64)))) (rfl) k) ?_
  show own_Run p e below s _ _ _ (s₁.setTop (mkF m 13 #[.val (.double d0), .second, .val (.double (FP.dadd d0 (4643512921809643110 : UInt64))), .second] [(.double (FP.dmul (FP.dmul (4498657090234903196 : UInt64) (FP.dadd d0 (4643512921809643110 : UInt64))) (FP.dadd d0 (4643512921809643110 : UInt64))))]))
  refine own_st (fun t k => XS.dloadN X0.here hx rfl (hb hby own_d1_13) rfl k) ?_
  show own_Run p e below s _ _ _ (s₁.setTop (mkF m 14 #[.val (.double d0), .second, .val (.double (FP.dadd d0 (4643512921809643110 : UInt64))), .second] [(.double (FP.dadd d0 (4643512921809643110 : UInt64))), (.double (FP.dmul (FP.dmul (4498657090234903196 : UInt64) (FP.dadd d0 (4643512921809643110 : UInt64))) (FP.dadd d0 (4643512921809643110 : UInt64))))]))
  refine own_st (fun t k => XS.dmulS X0.here hx rfl (hb hby own_d1_14) rfl (pb3) (v := (FP.dmul (FP.dmul (FP.dmul (4498657090234903196 : UInt64) (FP.dadd d0 (4643512921809643110 : UInt64))) (FP.dadd d0 (4643512921809643110 : UInt64))) (FP.dadd d0 (4643512921809643110 : UInt64)))) (rfl) k) ?_
  show own_Run p e below s _ _ _ (s₁.setTop (mkF m 15 #[.val (.double d0), .second, .val (.double (FP.dadd d0 (4643512921809643110 : UInt64))), .second] [(.double (FP.dmul (FP.dmul (FP.dmul (4498657090234903196 : UInt64) (FP.dadd d0 (4643512921809643110 : UInt64))) (FP.dadd d0 (4643512921809643110 : UInt64))) (FP.dadd d0 (4643512921809643110 : UInt64))))]))
  refine own_st (fun t k => XS.dloadN X0.here hx rfl (hb hby own_d1_15) rfl k) ?_
  show own_Run p e below s _ _ _ (s₁.setTop (mkF m 16 #[.val (.double d0), .second, .val (.double (FP.dadd d0 (4643512921809643110 : UInt64))), .second] [(.double (FP.dadd d0 (4643512921809643110 : UInt64))), (.double (FP.dmul (FP.dmul (FP.dmul (4498657090234903196 : UInt64) (FP.dadd d0 (4643512921809643110 : UInt64))) (FP.dadd d0 (4643512921809643110 : UInt64))) (FP.dadd d0 (4643512921809643110 : UInt64))))]))
  refine own_st (fun t k => XS.dmulS X0.here hx rfl (hb hby own_d1_16) rfl (pb4) (v := (FP.dmul (FP.dmul (FP.dmul (FP.dmul (4498657090234903196 : UInt64) (FP.dadd d0 (4643512921809643110 : UInt64))) (FP.dadd d0 (4643512921809643110 : UInt64))) (FP.dadd d0 (4643512921809643110 : UInt64))) (FP.dadd d0 (4643512921809643110 : UInt64)))) (rfl) k) ?_
  show own_Run p e below s _ _ _ (s₁.setTop (mkF m 17 #[.val (.double d0), .second, .val (.double (FP.dadd d0 (4643512921809643110 : UInt64))), .second] [(.double (FP.dmul (FP.dmul (FP.dmul (FP.dmul (4498657090234903196 : UInt64) (FP.dadd d0 (4643512921809643110 : UInt64))) (FP.dadd d0 (4643512921809643110 : UInt64))) (FP.dadd d0 (4643512921809643110 : UInt64))) (FP.dadd d0 (4643512921809643110 : UInt64))))]))
  exact own_ret X0 hx hlk (t := .double) hret rfl (Or.inr (Or.inr (Or.inl ⟨rfl, rfl, _, rfl⟩))) (hb hby own_d1_17) (by decide) (by decide) ⟨rfl, N0, e0⟩
theorem own_d2_0 : decode method_2_code 0 = .ok (.dload_n 0, 1) := by decide +kernel
theorem own_d2_1 : decode method_2_code 1 = .ok (.ldc2_w 7, 3) := by decide +kernel
theorem own_d2_4 : decode method_2_code 4 = .ok (.dadd, 1) := by decide +kernel
theorem own_d2_5 : decode method_2_code 5 = .ok (.dstore 4, 2) := by decide +kernel
theorem own_d2_7 : decode method_2_code 7 = .ok (.dload 4, 2) := by decide +kernel
theorem own_d2_9 : decode method_2_code 9 = .ok (.dload 4, 2) := by decide +kernel
theorem own_d2_11 : decode method_2_code 11 = .ok (.dmul, 1) := by decide +kernel
theorem own_d2_12 : decode method_2_code 12 = .ok (.dstore 6, 2) := by decide +kernel
theorem own_d2_14 : decode method_2_code 14 = .ok (.ldc2_w 9, 3) := by decide +kernel
theorem own_d2_17 : decode method_2_code 17 = .ok (.dload 6, 2) := by decide +kernel
theorem own_d2_19 : decode method_2_code 19 = .ok (.dload 6, 2) := by decide +kernel
theorem own_d2_21 : decode method_2_code 21 = .ok (.dmul, 1) := by decide +kernel
theorem own_d2_22 : decode method_2_code 22 = .ok (.dmul, 1) := by decide +kernel
theorem own_d2_23 : decode method_2_code 23 = .ok (.dstore 8, 2) := by decide +kernel
theorem own_d2_25 : decode method_2_code 25 = .ok (.dload_n 2, 1) := by decide +kernel
theorem own_d2_26 : decode method_2_code 26 = .ok (.dload 8, 2) := by decide +kernel
theorem own_d2_28 : decode method_2_code 28 = .ok (.dsub, 1) := by decide +kernel
theorem own_d2_29 : decode method_2_code 29 = .ok (.dstore 10, 2) := by decide +kernel
theorem own_d2_31 : decode method_2_code 31 = .ok (.dload 8, 2) := by decide +kernel
theorem own_d2_33 : decode method_2_code 33 = .ok (.ldc2_w 11, 3) := by decide +kernel
theorem own_d2_36 : decode method_2_code 36 = .ok (.dmul, 1) := by decide +kernel
theorem own_d2_37 : decode method_2_code 37 = .ok (.dstore 12, 2) := by decide +kernel
theorem own_d2_39 : decode method_2_code 39 = .ok (.dload 8, 2) := by decide +kernel
theorem own_d2_41 : decode method_2_code 41 = .ok (.dconst 0, 1) := by decide +kernel
theorem own_d2_42 : decode method_2_code 42 = .ok (.dcmp .l, 1) := by decide +kernel
theorem own_d2_43 : decode method_2_code 43 = .ok (.ifCond .le 24, 3) := by decide +kernel
theorem own_d2_46 : decode method_2_code 46 = .ok (.dload 10, 2) := by decide +kernel
theorem own_d2_48 : decode method_2_code 48 = .ok (.dload 12, 2) := by decide +kernel
theorem own_d2_50 : decode method_2_code 50 = .ok (.dcmp .g, 1) := by decide +kernel
theorem own_d2_51 : decode method_2_code 51 = .ok (.ifCond .gt 16, 3) := by decide +kernel
theorem own_d2_54 : decode method_2_code 54 = .ok (.dload 10, 2) := by decide +kernel
theorem own_d2_56 : decode method_2_code 56 = .ok (.dneg, 1) := by decide +kernel
theorem own_d2_57 : decode method_2_code 57 = .ok (.dload 12, 2) := by decide +kernel
theorem own_d2_59 : decode method_2_code 59 = .ok (.dcmp .g, 1) := by decide +kernel
theorem own_d2_60 : decode method_2_code 60 = .ok (.ifCond .gt 7, 3) := by decide +kernel
theorem own_d2_63 : decode method_2_code 63 = .ok (.iconst 1, 1) := by decide +kernel
theorem own_d2_64 : decode method_2_code 64 = .ok (.goto 4, 3) := by decide +kernel
theorem own_d2_68 : decode method_2_code 68 = .ok (.ireturn, 1) := by decide +kernel
set_option maxHeartbeats 4000000 in
theorem own_ef2 (m : MethodId) (x0 : UInt64) (x1 : UInt64) : entryFrame m #[(.double x0), (.double x1)] 14 = mkF m 0 #[.val (.double x0), .second, .val (.double x1), .second, .unset, .unset, .unset, .unset, .unset, .unset, .unset, .unset, .unset, .unset] [] := by first | (simp [entryFrame, mkF, argsToLocals, Value.category]; done) | rfl
theorem own_pn1 : plainName "com/example/helioslope/helioslope/longwave/LongwaveBlackbodyPinLaw" = true := by first | (simp [plainName, overriddenIn]; done) | decide +kernel
def own_Q2 (Z : State) (a0 : Array Value) (d0 : UInt64) (d1 : UInt64) (h0 : Heap) (n0 : Nat) (v : Option Value) (h : Heap) (L : List Loc) : Prop := v = some (.int (1 : Int32)) ∧ Fr n0 L ∧ h = h0
set_option maxRecDepth 65536 in
set_option maxHeartbeats 40000000 in
theorem own_rm2 (l : Launch) (Z : State) (a0 : Array Value) (hw : ∀ d ∈ tables_1, d.before a0 Z = true) (ws : List Jvm.Cond) (d0 : UInt64) (d1 : UInt64) (h0 : Heap) (n0 : Nat) (Z0 : n0 ≤ h0.size) (pq0 : Jvm.Free.Fl.NoNaN64 (FP.dadd d0 (4643512921809643110 : UInt64))) (pq1 : Jvm.Free.Fl.NoNaN64 (FP.dmul (FP.dadd d0 (4643512921809643110 : UInt64)) (FP.dadd d0 (4643512921809643110 : UInt64)))) (pq2 : Jvm.Free.Fl.NoNaN64 (FP.dmul (FP.dmul (FP.dadd d0 (4643512921809643110 : UInt64)) (FP.dadd d0 (4643512921809643110 : UInt64))) (FP.dmul (FP.dadd d0 (4643512921809643110 : UInt64)) (FP.dadd d0 (4643512921809643110 : UInt64))))) (pq3 : Jvm.Free.Fl.NoNaN64 (FP.dmul (4498657090234903196 : UInt64) (FP.dmul (FP.dmul (FP.dadd d0 (4643512921809643110 : UInt64)) (FP.dadd d0 (4643512921809643110 : UInt64))) (FP.dmul (FP.dadd d0 (4643512921809643110 : UInt64)) (FP.dadd d0 (4643512921809643110 : UInt64)))))) (pq4 : Jvm.Free.Fl.NoNaN64 (FP.dsub d1 (FP.dmul (4498657090234903196 : UInt64) (FP.dmul (FP.dmul (FP.dadd d0 (4643512921809643110 : UInt64)) (FP.dadd d0 (4643512921809643110 : UInt64))) (FP.dmul (FP.dadd d0 (4643512921809643110 : UInt64)) (FP.dadd d0 (4643512921809643110 : UInt64))))))) (pq5 : Jvm.Free.Fl.NoNaN64 (FP.dmul (FP.dmul (4498657090234903196 : UInt64) (FP.dmul (FP.dmul (FP.dadd d0 (4643512921809643110 : UInt64)) (FP.dadd d0 (4643512921809643110 : UInt64))) (FP.dmul (FP.dadd d0 (4643512921809643110 : UInt64)) (FP.dadd d0 (4643512921809643110 : UInt64))))) (4387073039832405526 : UInt64))) (pq6 : cmpValue (FP.dcmp (FP.dmul (4498657090234903196 : UInt64) (FP.dmul (FP.dmul (FP.dadd d0 (4643512921809643110 : UInt64)) (FP.dadd d0 (4643512921809643110 : UInt64))) (FP.dmul (FP.dadd d0 (4643512921809643110 : UInt64)) (FP.dadd d0 (4643512921809643110 : UInt64))))) (0 : UInt64)) .l = (1 : Int32)) (pq7 : ¬ ((0 : Int32) < cmpValue (FP.dcmp (FP.dsub d1 (FP.dmul (4498657090234903196 : UInt64) (FP.dmul (FP.dmul (FP.dadd d0 (4643512921809643110 : UInt64)) (FP.dadd d0 (4643512921809643110 : UInt64))) (FP.dmul (FP.dadd d0 (4643512921809643110 : UInt64)) (FP.dadd d0 (4643512921809643110 : UInt64)))))) (FP.dmul (FP.dmul (4498657090234903196 : UInt64) (FP.dmul (FP.dmul (FP.dadd d0 (4643512921809643110 : UInt64)) (FP.dadd d0 (4643512921809643110 : UInt64))) (FP.dmul (FP.dadd d0 (4643512921809643110 : UInt64)) (FP.dadd d0 (4643512921809643110 : UInt64))))) (4387073039832405526 : UInt64))) .g)) (pq8 : ¬ ((0 : Int32) < cmpValue (FP.dcmp (FP.dneg (FP.dsub d1 (FP.dmul (4498657090234903196 : UInt64) (FP.dmul (FP.dmul (FP.dadd d0 (4643512921809643110 : UInt64)) (FP.dadd d0 (4643512921809643110 : UInt64))) (FP.dmul (FP.dadd d0 (4643512921809643110 : UInt64)) (FP.dadd d0 (4643512921809643110 : UInt64))))))) (FP.dmul (FP.dmul (4498657090234903196 : UInt64) (FP.dmul (FP.dmul (FP.dadd d0 (4643512921809643110 : UInt64)) (FP.dadd d0 (4643512921809643110 : UInt64))) (FP.dmul (FP.dadd d0 (4643512921809643110 : UInt64)) (FP.dadd d0 (4643512921809643110 : UInt64))))) (4387073039832405526 : UInt64))) .g)) :
    MetFree l (⟨"com/example/helioslope/helioslope/longwave/LongwaveBlackbodyPinLaw", "near", "(DD)Z"⟩ : MethodName) (head1 (Jvm.Cond.code (⟨"com/example/helioslope/helioslope/longwave/LongwaveBlackbodyPinLaw", "near", "(DD)Z"⟩ : MethodName) method_2_code 14 (some .boolean) :: ws) ({ frames := 0, cells := 0, slots := 0, locals := 0 } : Room)) (fun a U => a = #[(.double d0), (.double d1)] ∧ Z.Warmed39 U.vm ∧ U.heap = h0) (fun _ _ _ _ _ => True) (fun _ U o U' => ∃ v L, o = .returned v ∧ own_Q2 Z a0 d0 d1 h0 n0 v U'.heap L ∧ FrameEnd U o U' L ({ frames := 0, cells := 0, slots := 0, locals := 0 } : Room).cells ({ frames := 0, cells := 0, slots := 0, locals := 0 } : Room).slots) := by
  refine own_body (Q := fun v h L => own_Q2 Z a0 d0 d1 h0 n0 v h L) (plainFor_of_name own_pn1) ?_
  intro p e s m below meth c s₁ hx hby hml hZ hown hnm hret hlk X0 e0
  replace hml : c.maxLocals = 14 := hml
  have N0 := Fr.nil n0
  have K0 : Keep h0 h0 [] := Keep.refl _ _
  refine own_st (fun t k => castTop (own_ef2 m d0 d1) k) ?_
  show own_Run p e below s _ _ _ (s₁.setTop (mkF m 0 #[.val (.double d0), .second, .val (.double d1), .second, .unset, .unset, .unset, .unset, .unset, .unset, .unset, .unset, .unset, .unset] []))
  refine own_st (fun t k => XS.dloadN X0.here hx rfl (hb hby own_d2_0) rfl k) ?_
  show own_Run p e below s _ _ _ (s₁.setTop (mkF m 1 #[.val (.double d0), .second, .val (.double d1), .second, .unset, .unset, .unset, .unset, .unset, .unset, .unset, .unset, .unset, .unset] [(.double d0)]))
  refine own_st (X0.ldc2DoubleC hx hown (mvT hZ (hw _ (List.mem_of_getElem? (i := 12) rfl))) (g := (mkF m 1 #[.val (.double d0), .second, .val (.double d1), .second, .unset, .unset, .unset, .unset, .unset, .unset, .unset, .unset, .unset, .unset] [(.double d0)])) rfl (hb hby own_d2_1)) ?_
  show own_Run p e below s _ _ _ (s₁.setTop (mkF m 4 #[.val (.double d0), .second, .val (.double d1), .second, .unset, .unset, .unset, .unset, .unset, .unset, .unset, .unset, .unset, .unset] [(.double (4643512921809643110 : UInt64)), (.double d0)]))
  refine own_st (fun t k => XS.daddS X0.here hx rfl (hb hby own_d2_4) rfl (pq0) (v := (FP.dadd d0 (4643512921809643110 : UInt64))) (rfl) k) ?_
  show own_Run p e below s _ _ _ (s₁.setTop (mkF m 5 #[.val (.double d0), .second, .val (.double d1), .second, .unset, .unset, .unset, .unset, .unset, .unset, .unset, .unset, .unset, .unset] [(.double (FP.dadd d0 (4643512921809643110 : UInt64)))]))
  refine own_st (fun t k => XS.dstore X0.here hx rfl (hb hby own_d2_5) rfl (l' := #[.val (.double d0), .second, .val (.double d1), .second, .val (.double (FP.dadd d0 (4643512921809643110 : UInt64))), .second, .unset, .unset, .unset, .unset, .unset, .unset, .unset, .unset]) rfl k) ?_
  show own_Run p e below s _ _ _ (s₁.setTop (mkF m 7 #[.val (.double d0), .second, .val (.double d1), .second, .val (.double (FP.dadd d0 (4643512921809643110 : UInt64))), .second, .unset, .unset, .unset, .unset, .unset, .unset, .unset, .unset] []))
  refine own_st (fun t k => XS.dload X0.here hx rfl (hb hby own_d2_7) rfl k) ?_
  show own_Run p e below s _ _ _ (s₁.setTop (mkF m 9 #[.val (.double d0), .second, .val (.double d1), .second, .val (.double (FP.dadd d0 (4643512921809643110 : UInt64))), .second, .unset, .unset, .unset, .unset, .unset, .unset, .unset, .unset] [(.double (FP.dadd d0 (4643512921809643110 : UInt64)))]))
  refine own_st (fun t k => XS.dload X0.here hx rfl (hb hby own_d2_9) rfl k) ?_
  show own_Run p e below s _ _ _ (s₁.setTop (mkF m 11 #[.val (.double d0), .second, .val (.double d1), .second, .val (.double (FP.dadd d0 (4643512921809643110 : UInt64))), .second, .unset, .unset, .unset, .unset, .unset, .unset, .unset, .unset] [(.double (FP.dadd d0 (4643512921809643110 : UInt64))), (.double (FP.dadd d0 (4643512921809643110 : UInt64)))]))
  refine own_st (fun t k => XS.dmulS X0.here hx rfl (hb hby own_d2_11) rfl (pq1) (v := (FP.dmul (FP.dadd d0 (4643512921809643110 : UInt64)) (FP.dadd d0 (4643512921809643110 : UInt64)))) (rfl) k) ?_
  show own_Run p e below s _ _ _ (s₁.setTop (mkF m 12 #[.val (.double d0), .second, .val (.double d1), .second, .val (.double (FP.dadd d0 (4643512921809643110 : UInt64))), .second, .unset, .unset, .unset, .unset, .unset, .unset, .unset, .unset] [(.double (FP.dmul (FP.dadd d0 (4643512921809643110 : UInt64)) (FP.dadd d0 (4643512921809643110 : UInt64))))]))
  refine own_st (fun t k => XS.dstore X0.here hx rfl (hb hby own_d2_12) rfl (l' := #[.val (.double d0), .second, .val (.double d1), .second, .val (.double (FP.dadd d0 (4643512921809643110 : UInt64))), .second, .val (.double (FP.dmul (FP.dadd d0 (4643512921809643110 : UInt64)) (FP.dadd d0 (4643512921809643110 : UInt64)))), .second, .unset, .unset, .unset, .unset, .unset, .unset]) rfl k) ?_
  show own_Run p e below s _ _ _ (s₁.setTop (mkF m 14 #[.val (.double d0), .second, .val (.double d1), .second, .val (.double (FP.dadd d0 (4643512921809643110 : UInt64))), .second, .val (.double (FP.dmul (FP.dadd d0 (4643512921809643110 : UInt64)) (FP.dadd d0 (4643512921809643110 : UInt64)))), .second, .unset, .unset, .unset, .unset, .unset, .unset] []))
  refine own_st (X0.ldc2DoubleC hx hown (mvT hZ (hw _ (List.mem_of_getElem? (i := 13) rfl))) (g := (mkF m 14 #[.val (.double d0), .second, .val (.double d1), .second, .val (.double (FP.dadd d0 (4643512921809643110 : UInt64))), .second, .val (.double (FP.dmul (FP.dadd d0 (4643512921809643110 : UInt64)) (FP.dadd d0 (4643512921809643110 : UInt64)))), .second, .unset, .unset, .unset, .unset, .unset, .unset] [])) rfl (hb hby own_d2_14)) ?_
  show own_Run p e below s _ _ _ (s₁.setTop (mkF m 17 #[.val (.double d0), .second, .val (.double d1), .second, .val (.double (FP.dadd d0 (4643512921809643110 : UInt64))), .second, .val (.double (FP.dmul (FP.dadd d0 (4643512921809643110 : UInt64)) (FP.dadd d0 (4643512921809643110 : UInt64)))), .second, .unset, .unset, .unset, .unset, .unset, .unset] [(.double (4498657090234903196 : UInt64))]))
  refine own_st (fun t k => XS.dload X0.here hx rfl (hb hby own_d2_17) rfl k) ?_
  show own_Run p e below s _ _ _ (s₁.setTop (mkF m 19 #[.val (.double d0), .second, .val (.double d1), .second, .val (.double (FP.dadd d0 (4643512921809643110 : UInt64))), .second, .val (.double (FP.dmul (FP.dadd d0 (4643512921809643110 : UInt64)) (FP.dadd d0 (4643512921809643110 : UInt64)))), .second, .unset, .unset, .unset, .unset, .unset, .unset] [(.double (FP.dmul (FP.dadd d0 (4643512921809643110 : UInt64)) (FP.dadd d0 (4643512921809643110 : UInt64)))), (.double (4498657090234903196 : UInt64))]))
  refine own_st (fun t k => XS.dload X0.here hx rfl (hb hby own_d2_19) rfl k) ?_
  show own_Run p e below s _ _ _ (s₁.setTop (mkF m 21 #[.val (.double d0), .second, .val (.double d1), .second, .val (.double (FP.dadd d0 (4643512921809643110 : UInt64))), .second, .val (.double (FP.dmul (FP.dadd d0 (4643512921809643110 : UInt64)) (FP.dadd d0 (4643512921809643110 : UInt64)))), .second, .unset, .unset, .unset, .unset, .unset, .unset] [(.double (FP.dmul (FP.dadd d0 (4643512921809643110 : UInt64)) (FP.dadd d0 (4643512921809643110 : UInt64)))), (.double (FP.dmul (FP.dadd d0 (4643512921809643110 : UInt64)) (FP.dadd d0 (4643512921809643110 : UInt64)))), (.double (4498657090234903196 : UInt64))]))
  refine own_st (fun t k => XS.dmulS X0.here hx rfl (hb hby own_d2_21) rfl (pq2) (v := (FP.dmul (FP.dmul (FP.dadd d0 (4643512921809643110 : UInt64)) (FP.dadd d0 (4643512921809643110 : UInt64))) (FP.dmul (FP.dadd d0 (4643512921809643110 : UInt64)) (FP.dadd d0 (4643512921809643110 : UInt64))))) (rfl) k) ?_
  show own_Run p e below s _ _ _ (s₁.setTop (mkF m 22 #[.val (.double d0), .second, .val (.double d1), .second, .val (.double (FP.dadd d0 (4643512921809643110 : UInt64))), .second, .val (.double (FP.dmul (FP.dadd d0 (4643512921809643110 : UInt64)) (FP.dadd d0 (4643512921809643110 : UInt64)))), .second, .unset, .unset, .unset, .unset, .unset, .unset] [(.double (FP.dmul (FP.dmul (FP.dadd d0 (4643512921809643110 : UInt64)) (FP.dadd d0 (4643512921809643110 : UInt64))) (FP.dmul (FP.dadd d0 (4643512921809643110 : UInt64)) (FP.dadd d0 (4643512921809643110 : UInt64))))), (.double (4498657090234903196 : UInt64))]))
  refine own_st (fun t k => XS.dmulS X0.here hx rfl (hb hby own_d2_22) rfl (pq3) (v := (FP.dmul (4498657090234903196 : UInt64) (FP.dmul (FP.dmul (FP.dadd d0 (4643512921809643110 : UInt64)) (FP.dadd d0 (4643512921809643110 : UInt64))) (FP.dmul (FP.dadd d0 (4643512921809643110 : UInt64)) (FP.dadd d0 (4643512921809643110 : UInt64)))))) (rfl) k) ?_
  show own_Run p e below s _ _ _ (s₁.setTop (mkF m 23 #[.val (.double d0), .second, .val (.double d1), .second, .val (.double (FP.dadd d0 (4643512921809643110 : UInt64))), .second, .val (.double (FP.dmul (FP.dadd d0 (4643512921809643110 : UInt64)) (FP.dadd d0 (4643512921809643110 : UInt64)))), .second, .unset, .unset, .unset, .unset, .unset, .unset] [(.double (FP.dmul (4498657090234903196 : UInt64) (FP.dmul (FP.dmul (FP.dadd d0 (4643512921809643110 : UInt64)) (FP.dadd d0 (4643512921809643110 : UInt64))) (FP.dmul (FP.dadd d0 (4643512921809643110 : UInt64)) (FP.dadd d0 (4643512921809643110 : UInt64))))))]))
  refine own_st (fun t k => XS.dstore X0.here hx rfl (hb hby own_d2_23) rfl (l' := #[.val (.double d0), .second, .val (.double d1), .second, .val (.double (FP.dadd d0 (4643512921809643110 : UInt64))), .second, .val (.double (FP.dmul (FP.dadd d0 (4643512921809643110 : UInt64)) (FP.dadd d0 (4643512921809643110 : UInt64)))), .second, .val (.double (FP.dmul (4498657090234903196 : UInt64) (FP.dmul (FP.dmul (FP.dadd d0 (4643512921809643110 : UInt64)) (FP.dadd d0 (4643512921809643110 : UInt64))) (FP.dmul (FP.dadd d0 (4643512921809643110 : UInt64)) (FP.dadd d0 (4643512921809643110 : UInt64)))))), .second, .unset, .unset, .unset, .unset]) rfl k) ?_
  show own_Run p e below s _ _ _ (s₁.setTop (mkF m 25 #[.val (.double d0), .second, .val (.double d1), .second, .val (.double (FP.dadd d0 (4643512921809643110 : UInt64))), .second, .val (.double (FP.dmul (FP.dadd d0 (4643512921809643110 : UInt64)) (FP.dadd d0 (4643512921809643110 : UInt64)))), .second, .val (.double (FP.dmul (4498657090234903196 : UInt64) (FP.dmul (FP.dmul (FP.dadd d0 (4643512921809643110 : UInt64)) (FP.dadd d0 (4643512921809643110 : UInt64))) (FP.dmul (FP.dadd d0 (4643512921809643110 : UInt64)) (FP.dadd d0 (4643512921809643110 : UInt64)))))), .second, .unset, .unset, .unset, .unset] []))
  refine own_st (fun t k => XS.dloadN X0.here hx rfl (hb hby own_d2_25) rfl k) ?_
  show own_Run p e below s _ _ _ (s₁.setTop (mkF m 26 #[.val (.double d0), .second, .val (.double d1), .second, .val (.double (FP.dadd d0 (4643512921809643110 : UInt64))), .second, .val (.double (FP.dmul (FP.dadd d0 (4643512921809643110 : UInt64)) (FP.dadd d0 (4643512921809643110 : UInt64)))), .second, .val (.double (FP.dmul (4498657090234903196 : UInt64) (FP.dmul (FP.dmul (FP.dadd d0 (4643512921809643110 : UInt64)) (FP.dadd d0 (4643512921809643110 : UInt64))) (FP.dmul (FP.dadd d0 (4643512921809643110 : UInt64)) (FP.dadd d0 (4643512921809643110 : UInt64)))))), .second, .unset, .unset, .unset, .unset] [(.double d1)]))
  refine own_st (fun t k => XS.dload X0.here hx rfl (hb hby own_d2_26) rfl k) ?_
  show own_Run p e below s _ _ _ (s₁.setTop (mkF m 28 #[.val (.double d0), .second, .val (.double d1), .second, .val (.double (FP.dadd d0 (4643512921809643110 : UInt64))), .second, .val (.double (FP.dmul (FP.dadd d0 (4643512921809643110 : UInt64)) (FP.dadd d0 (4643512921809643110 : UInt64)))), .second, .val (.double (FP.dmul (4498657090234903196 : UInt64) (FP.dmul (FP.dmul (FP.dadd d0 (4643512921809643110 : UInt64)) (FP.dadd d0 (4643512921809643110 : UInt64))) (FP.dmul (FP.dadd d0 (4643512921809643110 : UInt64)) (FP.dadd d0 (4643512921809643110 : UInt64)))))), .second, .unset, .unset, .unset, .unset] [(.double (FP.dmul (4498657090234903196 : UInt64) (FP.dmul (FP.dmul (FP.dadd d0 (4643512921809643110 : UInt64)) (FP.dadd d0 (4643512921809643110 : UInt64))) (FP.dmul (FP.dadd d0 (4643512921809643110 : UInt64)) (FP.dadd d0 (4643512921809643110 : UInt64)))))), (.double d1)]))
  refine own_st (fun t k => XS.dsubS X0.here hx rfl (hb hby own_d2_28) rfl (pq4) (v := (FP.dsub d1 (FP.dmul (4498657090234903196 : UInt64) (FP.dmul (FP.dmul (FP.dadd d0 (4643512921809643110 : UInt64)) (FP.dadd d0 (4643512921809643110 : UInt64))) (FP.dmul (FP.dadd d0 (4643512921809643110 : UInt64)) (FP.dadd d0 (4643512921809643110 : UInt64))))))) (rfl) k) ?_
  show own_Run p e below s _ _ _ (s₁.setTop (mkF m 29 #[.val (.double d0), .second, .val (.double d1), .second, .val (.double (FP.dadd d0 (4643512921809643110 : UInt64))), .second, .val (.double (FP.dmul (FP.dadd d0 (4643512921809643110 : UInt64)) (FP.dadd d0 (4643512921809643110 : UInt64)))), .second, .val (.double (FP.dmul (4498657090234903196 : UInt64) (FP.dmul (FP.dmul (FP.dadd d0 (4643512921809643110 : UInt64)) (FP.dadd d0 (4643512921809643110 : UInt64))) (FP.dmul (FP.dadd d0 (4643512921809643110 : UInt64)) (FP.dadd d0 (4643512921809643110 : UInt64)))))), .second, .unset, .unset, .unset, .unset] [(.double (FP.dsub d1 (FP.dmul (4498657090234903196 : UInt64) (FP.dmul (FP.dmul (FP.dadd d0 (4643512921809643110 : UInt64)) (FP.dadd d0 (4643512921809643110 : UInt64))) (FP.dmul (FP.dadd d0 (4643512921809643110 : UInt64)) (FP.dadd d0 (4643512921809643110 : UInt64)))))))]))
  refine own_st (fun t k => XS.dstore X0.here hx rfl (hb hby own_d2_29) rfl (l' := #[.val (.double d0), .second, .val (.double d1), .second, .val (.double (FP.dadd d0 (4643512921809643110 : UInt64))), .second, .val (.double (FP.dmul (FP.dadd d0 (4643512921809643110 : UInt64)) (FP.dadd d0 (4643512921809643110 : UInt64)))), .second, .val (.double (FP.dmul (4498657090234903196 : UInt64) (FP.dmul (FP.dmul (FP.dadd d0 (4643512921809643110 : UInt64)) (FP.dadd d0 (4643512921809643110 : UInt64))) (FP.dmul (FP.dadd d0 (4643512921809643110 : UInt64)) (FP.dadd d0 (4643512921809643110 : UInt64)))))), .second, .val (.double (FP.dsub d1 (FP.dmul (4498657090234903196 : UInt64) (FP.dmul (FP.dmul (FP.dadd d0 (4643512921809643110 : UInt64)) (FP.dadd d0 (4643512921809643110 : UInt64))) (FP.dmul (FP.dadd d0 (4643512921809643110 : UInt64)) (FP.dadd d0 (4643512921809643110 : UInt64))))))), .second, .unset, .unset]) rfl k) ?_
  show own_Run p e below s _ _ _ (s₁.setTop (mkF m 31 #[.val (.double d0), .second, .val (.double d1), .second, .val (.double (FP.dadd d0 (4643512921809643110 : UInt64))), .second, .val (.double (FP.dmul (FP.dadd d0 (4643512921809643110 : UInt64)) (FP.dadd d0 (4643512921809643110 : UInt64)))), .second, .val (.double (FP.dmul (4498657090234903196 : UInt64) (FP.dmul (FP.dmul (FP.dadd d0 (4643512921809643110 : UInt64)) (FP.dadd d0 (4643512921809643110 : UInt64))) (FP.dmul (FP.dadd d0 (4643512921809643110 : UInt64)) (FP.dadd d0 (4643512921809643110 : UInt64)))))), .second, .val (.double (FP.dsub d1 (FP.dmul (4498657090234903196 : UInt64) (FP.dmul (FP.dmul (FP.dadd d0 (4643512921809643110 : UInt64)) (FP.dadd d0 (4643512921809643110 : UInt64))) (FP.dmul (FP.dadd d0 (4643512921809643110 : UInt64)) (FP.dadd d0 (4643512921809643110 : UInt64))))))), .second, .unset, .unset] []))
  refine own_st (fun t k => XS.dload X0.here hx rfl (hb hby own_d2_31) rfl k) ?_
  show own_Run p e below s _ _ _ (s₁.setTop (mkF m 33 #[.val (.double d0), .second, .val (.double d1), .second, .val (.double (FP.dadd d0 (4643512921809643110 : UInt64))), .second, .val (.double (FP.dmul (FP.dadd d0 (4643512921809643110 : UInt64)) (FP.dadd d0 (4643512921809643110 : UInt64)))), .second, .val (.double (FP.dmul (4498657090234903196 : UInt64) (FP.dmul (FP.dmul (FP.dadd d0 (4643512921809643110 : UInt64)) (FP.dadd d0 (4643512921809643110 : UInt64))) (FP.dmul (FP.dadd d0 (4643512921809643110 : UInt64)) (FP.dadd d0 (4643512921809643110 : UInt64)))))), .second, .val (.double (FP.dsub d1 (FP.dmul (4498657090234903196 : UInt64) (FP.dmul (FP.dmul (FP.dadd d0 (4643512921809643110 : UInt64)) (FP.dadd d0 (4643512921809643110 : UInt64))) (FP.dmul (FP.dadd d0 (4643512921809643110 : UInt64)) (FP.dadd d0 (4643512921809643110 : UInt64))))))), .second, .unset, .unset] [(.double (FP.dmul (4498657090234903196 : UInt64) (FP.dmul (FP.dmul (FP.dadd d0 (4643512921809643110 : UInt64)) (FP.dadd d0 (4643512921809643110 : UInt64))) (FP.dmul (FP.dadd d0 (4643512921809643110 : UInt64)) (FP.dadd d0 (4643512921809643110 : UInt64))))))]))
  refine own_st (X0.ldc2DoubleC hx hown (mvT hZ (hw _ (List.mem_of_getElem? (i := 14) rfl))) (g := (mkF m 33 #[.val (.double d0), .second, .val (.double d1), .second, .val (.double (FP.dadd d0 (4643512921809643110 : UInt64))), .second, .val (.double (FP.dmul (FP.dadd d0 (4643512921809643110 : UInt64)) (FP.dadd d0 (4643512921809643110 : UInt64)))), .second, .val (.double (FP.dmul (4498657090234903196 : UInt64) (FP.dmul (FP.dmul (FP.dadd d0 (4643512921809643110 : UInt64)) (FP.dadd d0 (4643512921809643110 : UInt64))) (FP.dmul (FP.dadd d0 (4643512921809643110 : UInt64)) (FP.dadd d0 (4643512921809643110 : UInt64)))))), .second, .val (.double (FP.dsub d1 (FP.dmul (4498657090234903196 : UInt64) (FP.dmul (FP.dmul (FP.dadd d0 (4643512921809643110 : UInt64)) (FP.dadd d0 (4643512921809643110 : UInt64))) (FP.dmul (FP.dadd d0 (4643512921809643110 : UInt64)) (FP.dadd d0 (4643512921809643110 : UInt64))))))), .second, .unset, .unset] [(.double (FP.dmul (4498657090234903196 : UInt64) (FP.dmul (FP.dmul (FP.dadd d0 (4643512921809643110 : UInt64)) (FP.dadd d0 (4643512921809643110 : UInt64))) (FP.dmul (FP.dadd d0 (4643512921809643110 : UInt64)) (FP.dadd d0 (4643512921809643110 : UInt64))))))])) rfl (hb hby own_d2_33)) ?_
  show own_Run p e below s _ _ _ (s₁.setTop (mkF m 36 #[.val (.double d0), .second, .val (.double d1), .second, .val (.double (FP.dadd d0 (4643512921809643110 : UInt64))), .second, .val (.double (FP.dmul (FP.dadd d0 (4643512921809643110 : UInt64)) (FP.dadd d0 (4643512921809643110 : UInt64)))), .second, .val (.double (FP.dmul (4498657090234903196 : UInt64) (FP.dmul (FP.dmul (FP.dadd d0 (4643512921809643110 : UInt64)) (FP.dadd d0 (4643512921809643110 : UInt64))) (FP.dmul (FP.dadd d0 (4643512921809643110 : UInt64)) (FP.dadd d0 (4643512921809643110 : UInt64)))))), .second, .val (.double (FP.dsub d1 (FP.dmul (4498657090234903196 : UInt64) (FP.dmul (FP.dmul (FP.dadd d0 (4643512921809643110 : UInt64)) (FP.dadd d0 (4643512921809643110 : UInt64))) (FP.dmul (FP.dadd d0 (4643512921809643110 : UInt64)) (FP.dadd d0 (4643512921809643110 : UInt64))))))), .second, .unset, .unset] [(.double (4387073039832405526 : UInt64)), (.double (FP.dmul (4498657090234903196 : UInt64) (FP.dmul (FP.dmul (FP.dadd d0 (4643512921809643110 : UInt64)) (FP.dadd d0 (4643512921809643110 : UInt64))) (FP.dmul (FP.dadd d0 (4643512921809643110 : UInt64)) (FP.dadd d0 (4643512921809643110 : UInt64))))))]))
  refine own_st (fun t k => XS.dmulS X0.here hx rfl (hb hby own_d2_36) rfl (pq5) (v := (FP.dmul (FP.dmul (4498657090234903196 : UInt64) (FP.dmul (FP.dmul (FP.dadd d0 (4643512921809643110 : UInt64)) (FP.dadd d0 (4643512921809643110 : UInt64))) (FP.dmul (FP.dadd d0 (4643512921809643110 : UInt64)) (FP.dadd d0 (4643512921809643110 : UInt64))))) (4387073039832405526 : UInt64))) (rfl) k) ?_
  show own_Run p e below s _ _ _ (s₁.setTop (mkF m 37 #[.val (.double d0), .second, .val (.double d1), .second, .val (.double (FP.dadd d0 (4643512921809643110 : UInt64))), .second, .val (.double (FP.dmul (FP.dadd d0 (4643512921809643110 : UInt64)) (FP.dadd d0 (4643512921809643110 : UInt64)))), .second, .val (.double (FP.dmul (4498657090234903196 : UInt64) (FP.dmul (FP.dmul (FP.dadd d0 (4643512921809643110 : UInt64)) (FP.dadd d0 (4643512921809643110 : UInt64))) (FP.dmul (FP.dadd d0 (4643512921809643110 : UInt64)) (FP.dadd d0 (4643512921809643110 : UInt64)))))), .second, .val (.double (FP.dsub d1 (FP.dmul (4498657090234903196 : UInt64) (FP.dmul (FP.dmul (FP.dadd d0 (4643512921809643110 : UInt64)) (FP.dadd d0 (4643512921809643110 : UInt64))) (FP.dmul (FP.dadd d0 (4643512921809643110 : UInt64)) (FP.dadd d0 (4643512921809643110 : UInt64))))))), .second, .unset, .unset] [(.double (FP.dmul (FP.dmul (4498657090234903196 : UInt64) (FP.dmul (FP.dmul (FP.dadd d0 (4643512921809643110 : UInt64)) (FP.dadd d0 (4643512921809643110 : UInt64))) (FP.dmul (FP.dadd d0 (4643512921809643110 : UInt64)) (FP.dadd d0 (4643512921809643110 : UInt64))))) (4387073039832405526 : UInt64)))]))
  refine own_st (fun t k => XS.dstore X0.here hx rfl (hb hby own_d2_37) rfl (l' := #[.val (.double d0), .second, .val (.double d1), .second, .val (.double (FP.dadd d0 (4643512921809643110 : UInt64))), .second, .val (.double (FP.dmul (FP.dadd d0 (4643512921809643110 : UInt64)) (FP.dadd d0 (4643512921809643110 : UInt64)))), .second, .val (.double (FP.dmul (4498657090234903196 : UInt64) (FP.dmul (FP.dmul (FP.dadd d0 (4643512921809643110 : UInt64)) (FP.dadd d0 (4643512921809643110 : UInt64))) (FP.dmul (FP.dadd d0 (4643512921809643110 : UInt64)) (FP.dadd d0 (4643512921809643110 : UInt64)))))), .second, .val (.double (FP.dsub d1 (FP.dmul (4498657090234903196 : UInt64) (FP.dmul (FP.dmul (FP.dadd d0 (4643512921809643110 : UInt64)) (FP.dadd d0 (4643512921809643110 : UInt64))) (FP.dmul (FP.dadd d0 (4643512921809643110 : UInt64)) (FP.dadd d0 (4643512921809643110 : UInt64))))))), .second, .val (.double (FP.dmul (FP.dmul (4498657090234903196 : UInt64) (FP.dmul (FP.dmul (FP.dadd d0 (4643512921809643110 : UInt64)) (FP.dadd d0 (4643512921809643110 : UInt64))) (FP.dmul (FP.dadd d0 (4643512921809643110 : UInt64)) (FP.dadd d0 (4643512921809643110 : UInt64))))) (4387073039832405526 : UInt64))), .second]) rfl k) ?_
  show own_Run p e below s _ _ _ (s₁.setTop (mkF m 39 #[.val (.double d0), .second, .val (.double d1), .second, .val (.double (FP.dadd d0 (4643512921809643110 : UInt64))), .second, .val (.double (FP.dmul (FP.dadd d0 (4643512921809643110 : UInt64)) (FP.dadd d0 (4643512921809643110 : UInt64)))), .second, .val (.double (FP.dmul (4498657090234903196 : UInt64) (FP.dmul (FP.dmul (FP.dadd d0 (4643512921809643110 : UInt64)) (FP.dadd d0 (4643512921809643110 : UInt64))) (FP.dmul (FP.dadd d0 (4643512921809643110 : UInt64)) (FP.dadd d0 (4643512921809643110 : UInt64)))))), .second, .val (.double (FP.dsub d1 (FP.dmul (4498657090234903196 : UInt64) (FP.dmul (FP.dmul (FP.dadd d0 (4643512921809643110 : UInt64)) (FP.dadd d0 (4643512921809643110 : UInt64))) (FP.dmul (FP.dadd d0 (4643512921809643110 : UInt64)) (FP.dadd d0 (4643512921809643110 : UInt64))))))), .second, .val (.double (FP.dmul (FP.dmul (4498657090234903196 : UInt64) (FP.dmul (FP.dmul (FP.dadd d0 (4643512921809643110 : UInt64)) (FP.dadd d0 (4643512921809643110 : UInt64))) (FP.dmul (FP.dadd d0 (4643512921809643110 : UInt64)) (FP.dadd d0 (4643512921809643110 : UInt64))))) (4387073039832405526 : UInt64))), .second] []))
  refine own_st (fun t k => XS.dload X0.here hx rfl (hb hby own_d2_39) rfl k) ?_
  show own_Run p e below s _ _ _ (s₁.setTop (mkF m 41 #[.val (.double d0), .second, .val (.double d1), .second, .val (.double (FP.dadd d0 (4643512921809643110 : UInt64))), .second, .val (.double (FP.dmul (FP.dadd d0 (4643512921809643110 : UInt64)) (FP.dadd d0 (4643512921809643110 : UInt64)))), .second, .val (.double (FP.dmul (4498657090234903196 : UInt64) (FP.dmul (FP.dmul (FP.dadd d0 (4643512921809643110 : UInt64)) (FP.dadd d0 (4643512921809643110 : UInt64))) (FP.dmul (FP.dadd d0 (4643512921809643110 : UInt64)) (FP.dadd d0 (4643512921809643110 : UInt64)))))), .second, .val (.double (FP.dsub d1 (FP.dmul (4498657090234903196 : UInt64) (FP.dmul (FP.dmul (FP.dadd d0 (4643512921809643110 : UInt64)) (FP.dadd d0 (4643512921809643110 : UInt64))) (FP.dmul (FP.dadd d0 (4643512921809643110 : UInt64)) (FP.dadd d0 (4643512921809643110 : UInt64))))))), .second, .val (.double (FP.dmul (FP.dmul (4498657090234903196 : UInt64) (FP.dmul (FP.dmul (FP.dadd d0 (4643512921809643110 : UInt64)) (FP.dadd d0 (4643512921809643110 : UInt64))) (FP.dmul (FP.dadd d0 (4643512921809643110 : UInt64)) (FP.dadd d0 (4643512921809643110 : UInt64))))) (4387073039832405526 : UInt64))), .second] [(.double (FP.dmul (4498657090234903196 : UInt64) (FP.dmul (FP.dmul (FP.dadd d0 (4643512921809643110 : UInt64)) (FP.dadd d0 (4643512921809643110 : UInt64))) (FP.dmul (FP.dadd d0 (4643512921809643110 : UInt64)) (FP.dadd d0 (4643512921809643110 : UInt64))))))]))
  refine own_st (fun t k => XS.dconst0 X0.here hx rfl (hb hby own_d2_41) (v := 0) rfl k) ?_
  show own_Run p e below s _ _ _ (s₁.setTop (mkF m 42 #[.val (.double d0), .second, .val (.double d1), .second, .val (.double (FP.dadd d0 (4643512921809643110 : UInt64))), .second, .val (.double (FP.dmul (FP.dadd d0 (4643512921809643110 : UInt64)) (FP.dadd d0 (4643512921809643110 : UInt64)))), .second, .val (.double (FP.dmul (4498657090234903196 : UInt64) (FP.dmul (FP.dmul (FP.dadd d0 (4643512921809643110 : UInt64)) (FP.dadd d0 (4643512921809643110 : UInt64))) (FP.dmul (FP.dadd d0 (4643512921809643110 : UInt64)) (FP.dadd d0 (4643512921809643110 : UInt64)))))), .second, .val (.double (FP.dsub d1 (FP.dmul (4498657090234903196 : UInt64) (FP.dmul (FP.dmul (FP.dadd d0 (4643512921809643110 : UInt64)) (FP.dadd d0 (4643512921809643110 : UInt64))) (FP.dmul (FP.dadd d0 (4643512921809643110 : UInt64)) (FP.dadd d0 (4643512921809643110 : UInt64))))))), .second, .val (.double (FP.dmul (FP.dmul (4498657090234903196 : UInt64) (FP.dmul (FP.dmul (FP.dadd d0 (4643512921809643110 : UInt64)) (FP.dadd d0 (4643512921809643110 : UInt64))) (FP.dmul (FP.dadd d0 (4643512921809643110 : UInt64)) (FP.dadd d0 (4643512921809643110 : UInt64))))) (4387073039832405526 : UInt64))), .second] [(.double (0 : UInt64)), (.double (FP.dmul (4498657090234903196 : UInt64) (FP.dmul (FP.dmul (FP.dadd d0 (4643512921809643110 : UInt64)) (FP.dadd d0 (4643512921809643110 : UInt64))) (FP.dmul (FP.dadd d0 (4643512921809643110 : UInt64)) (FP.dadd d0 (4643512921809643110 : UInt64))))))]))
  refine own_st (fun t k => XS.dcmpS X0.here hx rfl (hb hby own_d2_42) rfl (v := (1 : Int32)) (pq6) k) ?_
  show own_Run p e below s _ _ _ (s₁.setTop (mkF m 43 #[.val (.double d0), .second, .val (.double d1), .second, .val (.double (FP.dadd d0 (4643512921809643110 : UInt64))), .second, .val (.double (FP.dmul (FP.dadd d0 (4643512921809643110 : UInt64)) (FP.dadd d0 (4643512921809643110 : UInt64)))), .second, .val (.double (FP.dmul (4498657090234903196 : UInt64) (FP.dmul (FP.dmul (FP.dadd d0 (4643512921809643110 : UInt64)) (FP.dadd d0 (4643512921809643110 : UInt64))) (FP.dmul (FP.dadd d0 (4643512921809643110 : UInt64)) (FP.dadd d0 (4643512921809643110 : UInt64)))))), .second, .val (.double (FP.dsub d1 (FP.dmul (4498657090234903196 : UInt64) (FP.dmul (FP.dmul (FP.dadd d0 (4643512921809643110 : UInt64)) (FP.dadd d0 (4643512921809643110 : UInt64))) (FP.dmul (FP.dadd d0 (4643512921809643110 : UInt64)) (FP.dadd d0 (4643512921809643110 : UInt64))))))), .second, .val (.double (FP.dmul (FP.dmul (4498657090234903196 : UInt64) (FP.dmul (FP.dmul (FP.dadd d0 (4643512921809643110 : UInt64)) (FP.dadd d0 (4643512921809643110 : UInt64))) (FP.dmul (FP.dadd d0 (4643512921809643110 : UInt64)) (FP.dadd d0 (4643512921809643110 : UInt64))))) (4387073039832405526 : UInt64))), .second] [(.int (1 : Int32))]))
  refine own_st (fun t k => XS.ifNo X0.here hx rfl (hb hby own_d2_43) rfl ((if0 _ _).trans (tlt (by decide : (0 : Int32) < (1 : Int32))).2.2.2) k) ?_
  show own_Run p e below s _ _ _ (s₁.setTop (mkF m 46 #[.val (.double d0), .second, .val (.double d1), .second, .val (.double (FP.dadd d0 (4643512921809643110 : UInt64))), .second, .val (.double (FP.dmul (FP.dadd d0 (4643512921809643110 : UInt64)) (FP.dadd d0 (4643512921809643110 : UInt64)))), .second, .val (.double (FP.dmul (4498657090234903196 : UInt64) (FP.dmul (FP.dmul (FP.dadd d0 (4643512921809643110 : UInt64)) (FP.dadd d0 (4643512921809643110 : UInt64))) (FP.dmul (FP.dadd d0 (4643512921809643110 : UInt64)) (FP.dadd d0 (4643512921809643110 : UInt64)))))), .second, .val (.double (FP.dsub d1 (FP.dmul (4498657090234903196 : UInt64) (FP.dmul (FP.dmul (FP.dadd d0 (4643512921809643110 : UInt64)) (FP.dadd d0 (4643512921809643110 : UInt64))) (FP.dmul (FP.dadd d0 (4643512921809643110 : UInt64)) (FP.dadd d0 (4643512921809643110 : UInt64))))))), .second, .val (.double (FP.dmul (FP.dmul (4498657090234903196 : UInt64) (FP.dmul (FP.dmul (FP.dadd d0 (4643512921809643110 : UInt64)) (FP.dadd d0 (4643512921809643110 : UInt64))) (FP.dmul (FP.dadd d0 (4643512921809643110 : UInt64)) (FP.dadd d0 (4643512921809643110 : UInt64))))) (4387073039832405526 : UInt64))), .second] []))
  refine own_st (fun t k => XS.dload X0.here hx rfl (hb hby own_d2_46) rfl k) ?_
  show own_Run p e below s _ _ _ (s₁.setTop (mkF m 48 #[.val (.double d0), .second, .val (.double d1), .second, .val (.double (FP.dadd d0 (4643512921809643110 : UInt64))), .second, .val (.double (FP.dmul (FP.dadd d0 (4643512921809643110 : UInt64)) (FP.dadd d0 (4643512921809643110 : UInt64)))), .second, .val (.double (FP.dmul (4498657090234903196 : UInt64) (FP.dmul (FP.dmul (FP.dadd d0 (4643512921809643110 : UInt64)) (FP.dadd d0 (4643512921809643110 : UInt64))) (FP.dmul (FP.dadd d0 (4643512921809643110 : UInt64)) (FP.dadd d0 (4643512921809643110 : UInt64)))))), .second, .val (.double (FP.dsub d1 (FP.dmul (4498657090234903196 : UInt64) (FP.dmul (FP.dmul (FP.dadd d0 (4643512921809643110 : UInt64)) (FP.dadd d0 (4643512921809643110 : UInt64))) (FP.dmul (FP.dadd d0 (4643512921809643110 : UInt64)) (FP.dadd d0 (4643512921809643110 : UInt64))))))), .second, .val (.double (FP.dmul (FP.dmul (4498657090234903196 : UInt64) (FP.dmul (FP.dmul (FP.dadd d0 (4643512921809643110 : UInt64)) (FP.dadd d0 (4643512921809643110 : UInt64))) (FP.dmul (FP.dadd d0 (4643512921809643110 : UInt64)) (FP.dadd d0 (4643512921809643110 : UInt64))))) (4387073039832405526 : UInt64))), .second] [(.double (FP.dsub d1 (FP.dmul (4498657090234903196 : UInt64) (FP.dmul (FP.dmul (FP.dadd d0 (4643512921809643110 : UInt64)) (FP.dadd d0 (4643512921809643110 : UInt64))) (FP.dmul (FP.dadd d0 (4643512921809643110 : UInt64)) (FP.dadd d0 (4643512921809643110 : UInt64)))))))]))
  refine own_st (fun t k => XS.dload X0.here hx rfl (hb hby own_d2_48) rfl k) ?_
  show own_Run p e below s _ _ _ (s₁.setTop (mkF m 50 #[.val (.double d0), .second, .val (.double d1), .second, .val (.double (FP.dadd d0 (4643512921809643110 : UInt64))), .second, .val (.double (FP.dmul (FP.dadd d0 (4643512921809643110 : UInt64)) (FP.dadd d0 (4643512921809643110 : UInt64)))), .second, .val (.double (FP.dmul (4498657090234903196 : UInt64) (FP.dmul (FP.dmul (FP.dadd d0 (4643512921809643110 : UInt64)) (FP.dadd d0 (4643512921809643110 : UInt64))) (FP.dmul (FP.dadd d0 (4643512921809643110 : UInt64)) (FP.dadd d0 (4643512921809643110 : UInt64)))))), .second, .val (.double (FP.dsub d1 (FP.dmul (4498657090234903196 : UInt64) (FP.dmul (FP.dmul (FP.dadd d0 (4643512921809643110 : UInt64)) (FP.dadd d0 (4643512921809643110 : UInt64))) (FP.dmul (FP.dadd d0 (4643512921809643110 : UInt64)) (FP.dadd d0 (4643512921809643110 : UInt64))))))), .second, .val (.double (FP.dmul (FP.dmul (4498657090234903196 : UInt64) (FP.dmul (FP.dmul (FP.dadd d0 (4643512921809643110 : UInt64)) (FP.dadd d0 (4643512921809643110 : UInt64))) (FP.dmul (FP.dadd d0 (4643512921809643110 : UInt64)) (FP.dadd d0 (4643512921809643110 : UInt64))))) (4387073039832405526 : UInt64))), .second] [(.double (FP.dmul (FP.dmul (4498657090234903196 : UInt64) (FP.dmul (FP.dmul (FP.dadd d0 (4643512921809643110 : UInt64)) (FP.dadd d0 (4643512921809643110 : UInt64))) (FP.dmul (FP.dadd d0 (4643512921809643110 : UInt64)) (FP.dadd d0 (4643512921809643110 : UInt64))))) (4387073039832405526 : UInt64))), (.double (FP.dsub d1 (FP.dmul (4498657090234903196 : UInt64) (FP.dmul (FP.dmul (FP.dadd d0 (4643512921809643110 : UInt64)) (FP.dadd d0 (4643512921809643110 : UInt64))) (FP.dmul (FP.dadd d0 (4643512921809643110 : UInt64)) (FP.dadd d0 (4643512921809643110 : UInt64)))))))]))
  refine own_st (fun t k => XS.dcmpS X0.here hx rfl (hb hby own_d2_50) rfl (v := (cmpValue (FP.dcmp (FP.dsub d1 (FP.dmul (4498657090234903196 : UInt64) (FP.dmul (FP.dmul (FP.dadd d0 (4643512921809643110 : UInt64)) (FP.dadd d0 (4643512921809643110 : UInt64))) (FP.dmul (FP.dadd d0 (4643512921809643110 : UInt64)) (FP.dadd d0 (4643512921809643110 : UInt64)))))) (FP.dmul (FP.dmul (4498657090234903196 : UInt64) (FP.dmul (FP.dmul (FP.dadd d0 (4643512921809643110 : UInt64)) (FP.dadd d0 (4643512921809643110 : UInt64))) (FP.dmul (FP.dadd d0 (4643512921809643110 : UInt64)) (FP.dadd d0 (4643512921809643110 : UInt64))))) (4387073039832405526 : UInt64))) .g)) (rfl) k) ?_
  show own_Run p e below s _ _ _ (s₁.setTop (mkF m 51 #[.val (.double d0), .second, .val (.double d1), .second, .val (.double (FP.dadd d0 (4643512921809643110 : UInt64))), .second, .val (.double (FP.dmul (FP.dadd d0 (4643512921809643110 : UInt64)) (FP.dadd d0 (4643512921809643110 : UInt64)))), .second, .val (.double (FP.dmul (4498657090234903196 : UInt64) (FP.dmul (FP.dmul (FP.dadd d0 (4643512921809643110 : UInt64)) (FP.dadd d0 (4643512921809643110 : UInt64))) (FP.dmul (FP.dadd d0 (4643512921809643110 : UInt64)) (FP.dadd d0 (4643512921809643110 : UInt64)))))), .second, .val (.double (FP.dsub d1 (FP.dmul (4498657090234903196 : UInt64) (FP.dmul (FP.dmul (FP.dadd d0 (4643512921809643110 : UInt64)) (FP.dadd d0 (4643512921809643110 : UInt64))) (FP.dmul (FP.dadd d0 (4643512921809643110 : UInt64)) (FP.dadd d0 (4643512921809643110 : UInt64))))))), .second, .val (.double (FP.dmul (FP.dmul (4498657090234903196 : UInt64) (FP.dmul (FP.dmul (FP.dadd d0 (4643512921809643110 : UInt64)) (FP.dadd d0 (4643512921809643110 : UInt64))) (FP.dmul (FP.dadd d0 (4643512921809643110 : UInt64)) (FP.dadd d0 (4643512921809643110 : UInt64))))) (4387073039832405526 : UInt64))), .second] [(.int (cmpValue (FP.dcmp (FP.dsub d1 (FP.dmul (4498657090234903196 : UInt64) (FP.dmul (FP.dmul (FP.dadd d0 (4643512921809643110 : UInt64)) (FP.dadd d0 (4643512921809643110 : UInt64))) (FP.dmul (FP.dadd d0 (4643512921809643110 : UInt64)) (FP.dadd d0 (4643512921809643110 : UInt64)))))) (FP.dmul (FP.dmul (4498657090234903196 : UInt64) (FP.dmul (FP.dmul (FP.dadd d0 (4643512921809643110 : UInt64)) (FP.dadd d0 (4643512921809643110 : UInt64))) (FP.dmul (FP.dadd d0 (4643512921809643110 : UInt64)) (FP.dadd d0 (4643512921809643110 : UInt64))))) (4387073039832405526 : UInt64))) .g))]))
  refine own_st (fun t k => XS.ifNo X0.here hx rfl (hb hby own_d2_51) rfl ((if0 _ _).trans (flt (pq7 : ¬ ((0 : Int32) < (cmpValue (FP.dcmp (FP.dsub d1 (FP.dmul (4498657090234903196 : UInt64) (FP.dmul (FP.dmul (FP.dadd d0 (4643512921809643110 : UInt64)) (FP.dadd d0 (4643512921809643110 : UInt64))) (FP.dmul (FP.dadd d0 (4643512921809643110 : UInt64)) (FP.dadd d0 (4643512921809643110 : UInt64)))))) (FP.dmul (FP.dmul (4498657090234903196 : UInt64) (FP.dmul (FP.dmul (FP.dadd d0 (4643512921809643110 : UInt64)) (FP.dadd d0 (4643512921809643110 : UInt64))) (FP.dmul (FP.dadd d0 (4643512921809643110 : UInt64)) (FP.dadd d0 (4643512921809643110 : UInt64))))) (4387073039832405526 : UInt64))) .g)))).2.2.1) k) ?_
  show own_Run p e below s _ _ _ (s₁.setTop (mkF m 54 #[.val (.double d0), .second, .val (.double d1), .second, .val (.double (FP.dadd d0 (4643512921809643110 : UInt64))), .second, .val (.double (FP.dmul (FP.dadd d0 (4643512921809643110 : UInt64)) (FP.dadd d0 (4643512921809643110 : UInt64)))), .second, .val (.double (FP.dmul (4498657090234903196 : UInt64) (FP.dmul (FP.dmul (FP.dadd d0 (4643512921809643110 : UInt64)) (FP.dadd d0 (4643512921809643110 : UInt64))) (FP.dmul (FP.dadd d0 (4643512921809643110 : UInt64)) (FP.dadd d0 (4643512921809643110 : UInt64)))))), .second, .val (.double (FP.dsub d1 (FP.dmul (4498657090234903196 : UInt64) (FP.dmul (FP.dmul (FP.dadd d0 (4643512921809643110 : UInt64)) (FP.dadd d0 (4643512921809643110 : UInt64))) (FP.dmul (FP.dadd d0 (4643512921809643110 : UInt64)) (FP.dadd d0 (4643512921809643110 : UInt64))))))), .second, .val (.double (FP.dmul (FP.dmul (4498657090234903196 : UInt64) (FP.dmul (FP.dmul (FP.dadd d0 (4643512921809643110 : UInt64)) (FP.dadd d0 (4643512921809643110 : UInt64))) (FP.dmul (FP.dadd d0 (4643512921809643110 : UInt64)) (FP.dadd d0 (4643512921809643110 : UInt64))))) (4387073039832405526 : UInt64))), .second] []))
  refine own_st (fun t k => XS.dload X0.here hx rfl (hb hby own_d2_54) rfl k) ?_
  show own_Run p e below s _ _ _ (s₁.setTop (mkF m 56 #[.val (.double d0), .second, .val (.double d1), .second, .val (.double (FP.dadd d0 (4643512921809643110 : UInt64))), .second, .val (.double (FP.dmul (FP.dadd d0 (4643512921809643110 : UInt64)) (FP.dadd d0 (4643512921809643110 : UInt64)))), .second, .val (.double (FP.dmul (4498657090234903196 : UInt64) (FP.dmul (FP.dmul (FP.dadd d0 (4643512921809643110 : UInt64)) (FP.dadd d0 (4643512921809643110 : UInt64))) (FP.dmul (FP.dadd d0 (4643512921809643110 : UInt64)) (FP.dadd d0 (4643512921809643110 : UInt64)))))), .second, .val (.double (FP.dsub d1 (FP.dmul (4498657090234903196 : UInt64) (FP.dmul (FP.dmul (FP.dadd d0 (4643512921809643110 : UInt64)) (FP.dadd d0 (4643512921809643110 : UInt64))) (FP.dmul (FP.dadd d0 (4643512921809643110 : UInt64)) (FP.dadd d0 (4643512921809643110 : UInt64))))))), .second, .val (.double (FP.dmul (FP.dmul (4498657090234903196 : UInt64) (FP.dmul (FP.dmul (FP.dadd d0 (4643512921809643110 : UInt64)) (FP.dadd d0 (4643512921809643110 : UInt64))) (FP.dmul (FP.dadd d0 (4643512921809643110 : UInt64)) (FP.dadd d0 (4643512921809643110 : UInt64))))) (4387073039832405526 : UInt64))), .second] [(.double (FP.dsub d1 (FP.dmul (4498657090234903196 : UInt64) (FP.dmul (FP.dmul (FP.dadd d0 (4643512921809643110 : UInt64)) (FP.dadd d0 (4643512921809643110 : UInt64))) (FP.dmul (FP.dadd d0 (4643512921809643110 : UInt64)) (FP.dadd d0 (4643512921809643110 : UInt64)))))))]))
  refine own_st (fun t k => XS.dnegS X0.here hx rfl (hb hby own_d2_56) rfl (v := (FP.dneg (FP.dsub d1 (FP.dmul (4498657090234903196 : UInt64) (FP.dmul (FP.dmul (FP.dadd d0 (4643512921809643110 : UInt64)) (FP.dadd d0 (4643512921809643110 : UInt64))) (FP.dmul (FP.dadd d0 (4643512921809643110 : UInt64)) (FP.dadd d0 (4643512921809643110 : UInt64)))))))) (rfl) k) ?_
  show own_Run p e below s _ _ _ (s₁.setTop (mkF m 57 #[.val (.double d0), .second, .val (.double d1), .second, .val (.double (FP.dadd d0 (4643512921809643110 : UInt64))), .second, .val (.double (FP.dmul (FP.dadd d0 (4643512921809643110 : UInt64)) (FP.dadd d0 (4643512921809643110 : UInt64)))), .second, .val (.double (FP.dmul (4498657090234903196 : UInt64) (FP.dmul (FP.dmul (FP.dadd d0 (4643512921809643110 : UInt64)) (FP.dadd d0 (4643512921809643110 : UInt64))) (FP.dmul (FP.dadd d0 (4643512921809643110 : UInt64)) (FP.dadd d0 (4643512921809643110 : UInt64)))))), .second, .val (.double (FP.dsub d1 (FP.dmul (4498657090234903196 : UInt64) (FP.dmul (FP.dmul (FP.dadd d0 (4643512921809643110 : UInt64)) (FP.dadd d0 (4643512921809643110 : UInt64))) (FP.dmul (FP.dadd d0 (4643512921809643110 : UInt64)) (FP.dadd d0 (4643512921809643110 : UInt64))))))), .second, .val (.double (FP.dmul (FP.dmul (4498657090234903196 : UInt64) (FP.dmul (FP.dmul (FP.dadd d0 (4643512921809643110 : UInt64)) (FP.dadd d0 (4643512921809643110 : UInt64))) (FP.dmul (FP.dadd d0 (4643512921809643110 : UInt64)) (FP.dadd d0 (4643512921809643110 : UInt64))))) (4387073039832405526 : UInt64))), .second] [(.double (FP.dneg (FP.dsub d1 (FP.dmul (4498657090234903196 : UInt64) (FP.dmul (FP.dmul (FP.dadd d0 (4643512921809643110 : UInt64)) (FP.dadd d0 (4643512921809643110 : UInt64))) (FP.dmul (FP.dadd d0 (4643512921809643110 : UInt64)) (FP.dadd d0 (4643512921809643110 : UInt64))))))))]))
  refine own_st (fun t k => XS.dload X0.here hx rfl (hb hby own_d2_57) rfl k) ?_
  show own_Run p e below s _ _ _ (s₁.setTop (mkF m 59 #[.val (.double d0), .second, .val (.double d1), .second, .val (.double (FP.dadd d0 (4643512921809643110 : UInt64))), .second, .val (.double (FP.dmul (FP.dadd d0 (4643512921809643110 : UInt64)) (FP.dadd d0 (4643512921809643110 : UInt64)))), .second, .val (.double (FP.dmul (4498657090234903196 : UInt64) (FP.dmul (FP.dmul (FP.dadd d0 (4643512921809643110 : UInt64)) (FP.dadd d0 (4643512921809643110 : UInt64))) (FP.dmul (FP.dadd d0 (4643512921809643110 : UInt64)) (FP.dadd d0 (4643512921809643110 : UInt64)))))), .second, .val (.double (FP.dsub d1 (FP.dmul (4498657090234903196 : UInt64) (FP.dmul (FP.dmul (FP.dadd d0 (4643512921809643110 : UInt64)) (FP.dadd d0 (4643512921809643110 : UInt64))) (FP.dmul (FP.dadd d0 (4643512921809643110 : UInt64)) (FP.dadd d0 (4643512921809643110 : UInt64))))))), .second, .val (.double (FP.dmul (FP.dmul (4498657090234903196 : UInt64) (FP.dmul (FP.dmul (FP.dadd d0 (4643512921809643110 : UInt64)) (FP.dadd d0 (4643512921809643110 : UInt64))) (FP.dmul (FP.dadd d0 (4643512921809643110 : UInt64)) (FP.dadd d0 (4643512921809643110 : UInt64))))) (4387073039832405526 : UInt64))), .second] [(.double (FP.dmul (FP.dmul (4498657090234903196 : UInt64) (FP.dmul (FP.dmul (FP.dadd d0 (4643512921809643110 : UInt64)) (FP.dadd d0 (4643512921809643110 : UInt64))) (FP.dmul (FP.dadd d0 (4643512921809643110 : UInt64)) (FP.dadd d0 (4643512921809643110 : UInt64))))) (4387073039832405526 : UInt64))), (.double (FP.dneg (FP.dsub d1 (FP.dmul (4498657090234903196 : UInt64) (FP.dmul (FP.dmul (FP.dadd d0 (4643512921809643110 : UInt64)) (FP.dadd d0 (4643512921809643110 : UInt64))) (FP.dmul (FP.dadd d0 (4643512921809643110 : UInt64)) (FP.dadd d0 (4643512921809643110 : UInt64))))))))]))
  refine own_st (fun t k => XS.dcmpS X0.here hx rfl (hb hby own_d2_59) rfl (v := (cmpValue (FP.dcmp (FP.dneg (FP.dsub d1 (FP.dmul (4498657090234903196 : UInt64) (FP.dmul (FP.dmul (FP.dadd d0 (4643512921809643110 : UInt64)) (FP.dadd d0 (4643512921809643110 : UInt64))) (FP.dmul (FP.dadd d0 (4643512921809643110 : UInt64)) (FP.dadd d0 (4643512921809643110 : UInt64))))))) (FP.dmul (FP.dmul (4498657090234903196 : UInt64) (FP.dmul (FP.dmul (FP.dadd d0 (4643512921809643110 : UInt64)) (FP.dadd d0 (4643512921809643110 : UInt64))) (FP.dmul (FP.dadd d0 (4643512921809643110 : UInt64)) (FP.dadd d0 (4643512921809643110 : UInt64))))) (4387073039832405526 : UInt64))) .g)) (rfl) k) ?_
  show own_Run p e below s _ _ _ (s₁.setTop (mkF m 60 #[.val (.double d0), .second, .val (.double d1), .second, .val (.double (FP.dadd d0 (4643512921809643110 : UInt64))), .second, .val (.double (FP.dmul (FP.dadd d0 (4643512921809643110 : UInt64)) (FP.dadd d0 (4643512921809643110 : UInt64)))), .second, .val (.double (FP.dmul (4498657090234903196 : UInt64) (FP.dmul (FP.dmul (FP.dadd d0 (4643512921809643110 : UInt64)) (FP.dadd d0 (4643512921809643110 : UInt64))) (FP.dmul (FP.dadd d0 (4643512921809643110 : UInt64)) (FP.dadd d0 (4643512921809643110 : UInt64)))))), .second, .val (.double (FP.dsub d1 (FP.dmul (4498657090234903196 : UInt64) (FP.dmul (FP.dmul (FP.dadd d0 (4643512921809643110 : UInt64)) (FP.dadd d0 (4643512921809643110 : UInt64))) (FP.dmul (FP.dadd d0 (4643512921809643110 : UInt64)) (FP.dadd d0 (4643512921809643110 : UInt64))))))), .second, .val (.double (FP.dmul (FP.dmul (4498657090234903196 : UInt64) (FP.dmul (FP.dmul (FP.dadd d0 (4643512921809643110 : UInt64)) (FP.dadd d0 (4643512921809643110 : UInt64))) (FP.dmul (FP.dadd d0 (4643512921809643110 : UInt64)) (FP.dadd d0 (4643512921809643110 : UInt64))))) (4387073039832405526 : UInt64))), .second] [(.int (cmpValue (FP.dcmp (FP.dneg (FP.dsub d1 (FP.dmul (4498657090234903196 : UInt64) (FP.dmul (FP.dmul (FP.dadd d0 (4643512921809643110 : UInt64)) (FP.dadd d0 (4643512921809643110 : UInt64))) (FP.dmul (FP.dadd d0 (4643512921809643110 : UInt64)) (FP.dadd d0 (4643512921809643110 : UInt64))))))) (FP.dmul (FP.dmul (4498657090234903196 : UInt64) (FP.dmul (FP.dmul (FP.dadd d0 (4643512921809643110 : UInt64)) (FP.dadd d0 (4643512921809643110 : UInt64))) (FP.dmul (FP.dadd d0 (4643512921809643110 : UInt64)) (FP.dadd d0 (4643512921809643110 : UInt64))))) (4387073039832405526 : UInt64))) .g))]))
  refine own_st (fun t k => XS.ifNo X0.here hx rfl (hb hby own_d2_60) rfl ((if0 _ _).trans (flt (pq8 : ¬ ((0 : Int32) < (cmpValue (FP.dcmp (FP.dneg (FP.dsub d1 (FP.dmul (4498657090234903196 : UInt64) (FP.dmul (FP.dmul (FP.dadd d0 (4643512921809643110 : UInt64)) (FP.dadd d0 (4643512921809643110 : UInt64))) (FP.dmul (FP.dadd d0 (4643512921809643110 : UInt64)) (FP.dadd d0 (4643512921809643110 : UInt64))))))) (FP.dmul (FP.dmul (4498657090234903196 : UInt64) (FP.dmul (FP.dmul (FP.dadd d0 (4643512921809643110 : UInt64)) (FP.dadd d0 (4643512921809643110 : UInt64))) (FP.dmul (FP.dadd d0 (4643512921809643110 : UInt64)) (FP.dadd d0 (4643512921809643110 : UInt64))))) (4387073039832405526 : UInt64))) .g)))).2.2.1) k) ?_
  show own_Run p e below s _ _ _ (s₁.setTop (mkF m 63 #[.val (.double d0), .second, .val (.double d1), .second, .val (.double (FP.dadd d0 (4643512921809643110 : UInt64))), .second, .val (.double (FP.dmul (FP.dadd d0 (4643512921809643110 : UInt64)) (FP.dadd d0 (4643512921809643110 : UInt64)))), .second, .val (.double (FP.dmul (4498657090234903196 : UInt64) (FP.dmul (FP.dmul (FP.dadd d0 (4643512921809643110 : UInt64)) (FP.dadd d0 (4643512921809643110 : UInt64))) (FP.dmul (FP.dadd d0 (4643512921809643110 : UInt64)) (FP.dadd d0 (4643512921809643110 : UInt64)))))), .second, .val (.double (FP.dsub d1 (FP.dmul (4498657090234903196 : UInt64) (FP.dmul (FP.dmul (FP.dadd d0 (4643512921809643110 : UInt64)) (FP.dadd d0 (4643512921809643110 : UInt64))) (FP.dmul (FP.dadd d0 (4643512921809643110 : UInt64)) (FP.dadd d0 (4643512921809643110 : UInt64))))))), .second, .val (.double (FP.dmul (FP.dmul (4498657090234903196 : UInt64) (FP.dmul (FP.dmul (FP.dadd d0 (4643512921809643110 : UInt64)) (FP.dadd d0 (4643512921809643110 : UInt64))) (FP.dmul (FP.dadd d0 (4643512921809643110 : UInt64)) (FP.dadd d0 (4643512921809643110 : UInt64))))) (4387073039832405526 : UInt64))), .second] []))
  refine own_st (fun t k => XS.iconst X0.here hx rfl (hb hby own_d2_63) k) ?_
  show own_Run p e below s _ _ _ (s₁.setTop (mkF m 64 #[.val (.double d0), .second, .val (.double d1), .second, .val (.double (FP.dadd d0 (4643512921809643110 : UInt64))), .second, .val (.double (FP.dmul (FP.dadd d0 (4643512921809643110 : UInt64)) (FP.dadd d0 (4643512921809643110 : UInt64)))), .second, .val (.double (FP.dmul (4498657090234903196 : UInt64) (FP.dmul (FP.dmul (FP.dadd d0 (4643512921809643110 : UInt64)) (FP.dadd d0 (4643512921809643110 : UInt64))) (FP.dmul (FP.dadd d0 (4643512921809643110 : UInt64)) (FP.dadd d0 (4643512921809643110 : UInt64)))))), .second, .val (.double (FP.dsub d1 (FP.dmul (4498657090234903196 : UInt64) (FP.dmul (FP.dmul (FP.dadd d0 (4643512921809643110 : UInt64)) (FP.dadd d0 (4643512921809643110 : UInt64))) (FP.dmul (FP.dadd d0 (4643512921809643110 : UInt64)) (FP.dadd d0 (4643512921809643110 : UInt64))))))), .second, .val (.double (FP.dmul (FP.dmul (4498657090234903196 : UInt64) (FP.dmul (FP.dmul (FP.dadd d0 (4643512921809643110 : UInt64)) (FP.dadd d0 (4643512921809643110 : UInt64))) (FP.dmul (FP.dadd d0 (4643512921809643110 : UInt64)) (FP.dadd d0 (4643512921809643110 : UInt64))))) (4387073039832405526 : UInt64))), .second] [(.int (1 : Int32))]))
  refine own_st (fun t k => XS.goto X0.here hx rfl (pc0 := 64) (pc' := 68) rfl (hb hby own_d2_64) (by decide) (by decide) k) ?_
  show own_Run p e below s _ _ _ (s₁.setTop (mkF m 68 #[.val (.double d0), .second, .val (.double d1), .second, .val (.double (FP.dadd d0 (4643512921809643110 : UInt64))), .second, .val (.double (FP.dmul (FP.dadd d0 (4643512921809643110 : UInt64)) (FP.dadd d0 (4643512921809643110 : UInt64)))), .second, .val (.double (FP.dmul (4498657090234903196 : UInt64) (FP.dmul (FP.dmul (FP.dadd d0 (4643512921809643110 : UInt64)) (FP.dadd d0 (4643512921809643110 : UInt64))) (FP.dmul (FP.dadd d0 (4643512921809643110 : UInt64)) (FP.dadd d0 (4643512921809643110 : UInt64)))))), .second, .val (.double (FP.dsub d1 (FP.dmul (4498657090234903196 : UInt64) (FP.dmul (FP.dmul (FP.dadd d0 (4643512921809643110 : UInt64)) (FP.dadd d0 (4643512921809643110 : UInt64))) (FP.dmul (FP.dadd d0 (4643512921809643110 : UInt64)) (FP.dadd d0 (4643512921809643110 : UInt64))))))), .second, .val (.double (FP.dmul (FP.dmul (4498657090234903196 : UInt64) (FP.dmul (FP.dmul (FP.dadd d0 (4643512921809643110 : UInt64)) (FP.dadd d0 (4643512921809643110 : UInt64))) (FP.dmul (FP.dadd d0 (4643512921809643110 : UInt64)) (FP.dadd d0 (4643512921809643110 : UInt64))))) (4387073039832405526 : UInt64))), .second] [(.int (1 : Int32))]))
  exact own_ret X0 hx hlk (t := .boolean) hret rfl (Or.inl ⟨rfl, by simp, _, rfl⟩) (hb hby own_d2_68) (by decide) (by decide) ⟨rfl, N0, e0⟩
theorem own_pd2 : parseMethodDescriptor "(D)D" = some ⟨[.double], some .double⟩ := by decide +kernel
theorem own_pd3 : parseMethodDescriptor "(DD)Z" = some ⟨[.double, .double], some .boolean⟩ := by decide +kernel
set_option maxHeartbeats 4000000 in
theorem own_ef0 (m : MethodId) (x0 : Int32) (x1 : Int32) : entryFrame m #[(.int x0), (.int x1)] maxLocals = mkF m 0 #[.val (.int x0), .val (.int x1), .unset, .unset, .unset, .unset, .unset, .unset, .unset, .unset, .unset, .unset] [] := by first | (simp [entryFrame, mkF, argsToLocals, Value.category, maxLocals]; done) | rfl
def own_Q0 (Z : State) (a0 : Array Value) (i0 : Int32) (i1 : Int32) (h0 : Heap) (n0 : Nat) (v : Option Value) (h : Heap) (L : List Loc) : Prop := v = some (.int 1) ∧ Fr n0 L
set_option maxRecDepth 65536 in
set_option maxHeartbeats 40000000 in
theorem own_rm0 (l : Launch) (Z : State) (a0 : Array Value) (hw : ∀ d ∈ tables_1, d.before a0 Z = true) (ws : List Jvm.Cond) (i0 : Int32) (i1 : Int32) (h0 : Heap) (n0 : Nat) (Z0 : n0 ≤ h0.size) (O0 : Old Z n0 h0) :
    MetFree l x (head1 (Jvm.Cond.code x code maxLocals ret :: ws) room_1) (fun a U => a = #[(.int i0), (.int i1)] ∧ Z.Warmed39 U.vm ∧ U.heap = h0) (fun _ _ _ _ _ => True) (fun _ U o U' => ∃ v L, o = .returned v ∧ own_Q0 Z a0 i0 i1 h0 n0 v U'.heap L ∧ FrameEnd U o U' L room_1.cells room_1.slots) := by
  refine own_body (Q := fun v h L => own_Q0 Z a0 i0 i1 h0 n0 v h L) (plainFor_of_name own_pn1) ?_
  intro p e s m below meth c s₁ hx hby hml hZ hown hnm hret hlk X0 e0
  replace hml : c.maxLocals = 12 := hml
  replace hown : s.vm.findClass "com/example/helioslope/helioslope/longwave/LongwaveBlackbodyPinLaw" = some m.cls := hown
  have N0 := Fr.nil n0
  have K0 : Keep h0 h0 [] := Keep.refl _ _
  refine own_st (fun t k => castTop (own_ef0 m i0 i1) k) ?_
  show own_Run p e below s _ _ _ (s₁.setTop (mkF m 0 #[.val (.int i0), .val (.int i1), .unset, .unset, .unset, .unset, .unset, .unset, .unset, .unset, .unset, .unset] []))
  refine own_st (fun t k => XS.iloadN X0.here hx rfl (hb hby at_0) rfl k) ?_
  show own_Run p e below s _ _ _ (s₁.setTop (mkF m 1 #[.val (.int i0), .val (.int i1), .unset, .unset, .unset, .unset, .unset, .unset, .unset, .unset, .unset, .unset] [(.int i0)]))
  refine own_st (fun t k => XS.sipush X0.here hx rfl (hb hby at_1) k) ?_
  show own_Run p e below s _ _ _ (s₁.setTop (mkF m 4 #[.val (.int i0), .val (.int i1), .unset, .unset, .unset, .unset, .unset, .unset, .unset, .unset, .unset, .unset] [(.int (2184 : Int32)), (.int i0)]))
  refine own_st (fun t k => iremM X0 hx rfl (hb hby at_4) rfl (by decide) k) ?_
  show own_Run p e below s _ _ _ (s₁.setTop (mkF m 5 #[.val (.int i0), .val (.int i1), .unset, .unset, .unset, .unset, .unset, .unset, .unset, .unset, .unset, .unset] [(.int (i0 % (2184 : Int32)))]))
  obtain ⟨xa, h_xa⟩ : ∃ z, ((i0 % (2184 : Int32)) : Int32) = z := ⟨_, rfl⟩
  refine own_topI h_xa ?_
  show own_Run p e below s _ _ _ (s₁.setTop (mkF m 5 #[.val (.int i0), .val (.int i1), .unset, .unset, .unset, .unset, .unset, .unset, .unset, .unset, .unset, .unset] [(.int xa)]))
  have r_xa : -2183 ≤ xa.toInt ∧ xa.toInt ≤ 2183 := own_rem h_xa
  refine own_st (fun t k => XS.i2dS X0.here hx rfl (hb hby at_5) rfl (v := (FP.i2d xa)) (rfl) k) ?_
  show own_Run p e below s _ _ _ (s₁.setTop (mkF m 6 #[.val (.int i0), .val (.int i1), .unset, .unset, .unset, .unset, .unset, .unset, .unset, .unset, .unset, .unset] [(.double (FP.i2d xa))]))
  refine own_st (X0.ldc2DoubleC hx hown (mvT hZ (hw _ (List.mem_of_getElem? (i := 0) rfl))) (g := (mkF m 6 #[.val (.int i0), .val (.int i1), .unset, .unset, .unset, .unset, .unset, .unset, .unset, .unset, .unset, .unset] [(.double (FP.i2d xa))])) rfl (hb hby at_6)) ?_
  show own_Run p e below s _ _ _ (s₁.setTop (mkF m 9 #[.val (.int i0), .val (.int i1), .unset, .unset, .unset, .unset, .unset, .unset, .unset, .unset, .unset, .unset] [(.double (4620693217682128896 : UInt64)), (.double (FP.i2d xa))]))
  refine own_st (fun t k => XS.ddivS X0.here hx rfl (hb hby at_9) rfl ((own_tz r_xa rfl).nn) (v := (FP.ddiv (FP.i2d xa) (4620693217682128896 : UInt64))) (rfl) k) ?_
  show own_Run p e below s _ _ _ (s₁.setTop (mkF m 10 #[.val (.int i0), .val (.int i1), .unset, .unset, .unset, .unset, .unset, .unset, .unset, .unset, .unset, .unset] [(.double (FP.ddiv (FP.i2d xa) (4620693217682128896 : UInt64)))]))
  obtain ⟨ta, h_ta⟩ : ∃ z, ((FP.ddiv (FP.i2d xa) (4620693217682128896 : UInt64)) : UInt64) = z := ⟨_, rfl⟩
  refine own_topD h_ta ?_
  show own_Run p e below s _ _ _ (s₁.setTop (mkF m 10 #[.val (.int i0), .val (.int i1), .unset, .unset, .unset, .unset, .unset, .unset, .unset, .unset, .unset, .unset] [(.double ta)]))
  have z_ta := own_tz r_xa h_ta
  have g_ta := own_ok r_xa h_ta
  refine own_st (fun t k => XS.dstoreN X0.here hx rfl (hb hby at_10) rfl (l' := #[.val (.int i0), .val (.int i1), .val (.double ta), .second, .unset, .unset, .unset, .unset, .unset, .unset, .unset, .unset]) rfl k) ?_
  show own_Run p e below s _ _ _ (s₁.setTop (mkF m 11 #[.val (.int i0), .val (.int i1), .val (.double ta), .second, .unset, .unset, .unset, .unset, .unset, .unset, .unset, .unset] []))
  refine own_st (fun t k => XS.iloadN X0.here hx rfl (hb hby at_11) rfl k) ?_
  show own_Run p e below s _ _ _ (s₁.setTop (mkF m 12 #[.val (.int i0), .val (.int i1), .val (.double ta), .second, .unset, .unset, .unset, .unset, .unset, .unset, .unset, .unset] [(.int i1)]))
  refine own_st (fun t k => XS.sipush X0.here hx rfl (hb hby at_12) k) ?_
  show own_Run p e below s _ _ _ (s₁.setTop (mkF m 15 #[.val (.int i0), .val (.int i1), .val (.double ta), .second, .unset, .unset, .unset, .unset, .unset, .unset, .unset, .unset] [(.int (2184 : Int32)), (.int i1)]))
  refine own_st (fun t k => iremM X0 hx rfl (hb hby at_15) rfl (by decide) k) ?_
  show own_Run p e below s _ _ _ (s₁.setTop (mkF m 16 #[.val (.int i0), .val (.int i1), .val (.double ta), .second, .unset, .unset, .unset, .unset, .unset, .unset, .unset, .unset] [(.int (i1 % (2184 : Int32)))]))
  obtain ⟨xb, h_xb⟩ : ∃ z, ((i1 % (2184 : Int32)) : Int32) = z := ⟨_, rfl⟩
  refine own_topI h_xb ?_
  show own_Run p e below s _ _ _ (s₁.setTop (mkF m 16 #[.val (.int i0), .val (.int i1), .val (.double ta), .second, .unset, .unset, .unset, .unset, .unset, .unset, .unset, .unset] [(.int xb)]))
  have r_xb : -2183 ≤ xb.toInt ∧ xb.toInt ≤ 2183 := own_rem h_xb
  refine own_st (fun t k => XS.i2dS X0.here hx rfl (hb hby at_16) rfl (v := (FP.i2d xb)) (rfl) k) ?_
  show own_Run p e below s _ _ _ (s₁.setTop (mkF m 17 #[.val (.int i0), .val (.int i1), .val (.double ta), .second, .unset, .unset, .unset, .unset, .unset, .unset, .unset, .unset] [(.double (FP.i2d xb))]))
  refine own_st (X0.ldc2DoubleC hx hown (mvT hZ (hw _ (List.mem_of_getElem? (i := 0) rfl))) (g := (mkF m 17 #[.val (.int i0), .val (.int i1), .val (.double ta), .second, .unset, .unset, .unset, .unset, .unset, .unset, .unset, .unset] [(.double (FP.i2d xb))])) rfl (hb hby at_17)) ?_
  show own_Run p e below s _ _ _ (s₁.setTop (mkF m 20 #[.val (.int i0), .val (.int i1), .val (.double ta), .second, .unset, .unset, .unset, .unset, .unset, .unset, .unset, .unset] [(.double (4620693217682128896 : UInt64)), (.double (FP.i2d xb))]))
  refine own_st (fun t k => XS.ddivS X0.here hx rfl (hb hby at_20) rfl ((own_tz r_xb rfl).nn) (v := (FP.ddiv (FP.i2d xb) (4620693217682128896 : UInt64))) (rfl) k) ?_
  show own_Run p e below s _ _ _ (s₁.setTop (mkF m 21 #[.val (.int i0), .val (.int i1), .val (.double ta), .second, .unset, .unset, .unset, .unset, .unset, .unset, .unset, .unset] [(.double (FP.ddiv (FP.i2d xb) (4620693217682128896 : UInt64)))]))
  obtain ⟨tb, h_tb⟩ : ∃ z, ((FP.ddiv (FP.i2d xb) (4620693217682128896 : UInt64)) : UInt64) = z := ⟨_, rfl⟩
  refine own_topD h_tb ?_
  show own_Run p e below s _ _ _ (s₁.setTop (mkF m 21 #[.val (.int i0), .val (.int i1), .val (.double ta), .second, .unset, .unset, .unset, .unset, .unset, .unset, .unset, .unset] [(.double tb)]))
  have z_tb := own_tz r_xb h_tb
  have g_tb := own_ok r_xb h_tb
  refine own_st (fun t k => XS.dstore X0.here hx rfl (hb hby at_21) rfl (l' := #[.val (.int i0), .val (.int i1), .val (.double ta), .second, .val (.double tb), .second, .unset, .unset, .unset, .unset, .unset, .unset]) rfl k) ?_
  show own_Run p e below s _ _ _ (s₁.setTop (mkF m 23 #[.val (.int i0), .val (.int i1), .val (.double ta), .second, .val (.double tb), .second, .unset, .unset, .unset, .unset, .unset, .unset] []))
  refine own_st (fun t k => XS.dloadN X0.here hx rfl (hb hby at_23) rfl k) ?_
  show own_Run p e below s _ _ _ (s₁.setTop (mkF m 24 #[.val (.int i0), .val (.int i1), .val (.double ta), .second, .val (.double tb), .second, .unset, .unset, .unset, .unset, .unset, .unset] [(.double ta)]))
  refine own_callS X0 hx hZ (y := (⟨"com/example/helioslope/helioslope/longwave/Longwave", "blackbody", "(D)D"⟩ : MethodName)) hown (hw _ (List.mem_of_getElem? (i := 1) rfl)) (hw _ (List.mem_of_getElem? (i := 2) rfl)) (hw _ (List.mem_of_getElem? (i := 4) rfl)) (hw _ (List.mem_of_getElem? (i := 3) rfl)) (by decide) e0 (argsL := [(.double ta)]) (rest := []) (W := 0) (own_rm1 l Z a0 hw [] ta h0 n0 (Nat.le_trans Z0 K0.1) (g_ta.1.1) (g_ta.1.2.1) (g_ta.1.2.2.1) (g_ta.1.2.2.2.1) (g_ta.1.2.2.2.2)) (by decide) (by decide) (by rw [hml]; rfl) (lenOf own_pd2 rfl) rfl (by exact Nat.le_of_eq rfl) (hb hby at_24) (by decide) (by decide) ?_
  intro T1 v1 L1 X1 hq1
  obtain ⟨rfl, N1q, hh1⟩ := hq1
  have N1 := Fr.app N0 N1q
  show own_Run p e below s _ _ _ (T1.setTop (mkF m 27 #[.val (.int i0), .val (.int i1), .val (.double ta), .second, .val (.double tb), .second, .unset, .unset, .unset, .unset, .unset, .unset] [(.double (FP.dmul (FP.dmul (FP.dmul (FP.dmul (4498657090234903196 : UInt64) (FP.dadd ta (4643512921809643110 : UInt64))) (FP.dadd ta (4643512921809643110 : UInt64))) (FP.dadd ta (4643512921809643110 : UInt64))) (FP.dadd ta (4643512921809643110 : UInt64))))]))
  obtain ⟨ra, h_ra⟩ : ∃ z, ((FP.dmul (FP.dmul (FP.dmul (FP.dmul (4498657090234903196 : UInt64) (FP.dadd ta (4643512921809643110 : UInt64))) (FP.dadd ta (4643512921809643110 : UInt64))) (FP.dadd ta (4643512921809643110 : UInt64))) (FP.dadd ta (4643512921809643110 : UInt64))) : UInt64) = z := ⟨_, rfl⟩
  refine own_topD h_ra ?_
  show own_Run p e below s _ _ _ (T1.setTop (mkF m 27 #[.val (.int i0), .val (.int i1), .val (.double ta), .second, .val (.double tb), .second, .unset, .unset, .unset, .unset, .unset, .unset] [(.double ra)]))
  have k_ra := own_okr g_ta h_ra
  refine own_st (fun t k => XS.dstore X1.here hx rfl (hb hby at_27) rfl (l' := #[.val (.int i0), .val (.int i1), .val (.double ta), .second, .val (.double tb), .second, .val (.double ra), .second, .unset, .unset, .unset, .unset]) rfl k) ?_
  show own_Run p e below s _ _ _ (T1.setTop (mkF m 29 #[.val (.int i0), .val (.int i1), .val (.double ta), .second, .val (.double tb), .second, .val (.double ra), .second, .unset, .unset, .unset, .unset] []))
  refine own_st (fun t k => XS.dload X1.here hx rfl (hb hby at_29) rfl k) ?_
  show own_Run p e below s _ _ _ (T1.setTop (mkF m 31 #[.val (.int i0), .val (.int i1), .val (.double ta), .second, .val (.double tb), .second, .val (.double ra), .second, .unset, .unset, .unset, .unset] [(.double tb)]))
  refine own_callS X1 hx hZ (y := (⟨"com/example/helioslope/helioslope/longwave/Longwave", "blackbody", "(D)D"⟩ : MethodName)) hown (hw _ (List.mem_of_getElem? (i := 1) rfl)) (hw _ (List.mem_of_getElem? (i := 2) rfl)) (hw _ (List.mem_of_getElem? (i := 4) rfl)) (hw _ (List.mem_of_getElem? (i := 3) rfl)) (by decide) hh1 (argsL := [(.double tb)]) (rest := []) (W := 0) (own_rm1 l Z a0 hw [] tb h0 n0 (Nat.le_trans Z0 K0.1) (g_tb.1.1) (g_tb.1.2.1) (g_tb.1.2.2.1) (g_tb.1.2.2.2.1) (g_tb.1.2.2.2.2)) (by decide) (by decide) (by rw [hml]; rfl) (lenOf own_pd2 rfl) rfl (by exact Nat.le_of_eq rfl) (hb hby at_31) (by decide) (by decide) ?_
  intro T2 v2 L2 X2 hq2
  obtain ⟨rfl, N2q, hh2⟩ := hq2
  have N2 := Fr.app N1 N2q
  show own_Run p e below s _ _ _ (T2.setTop (mkF m 34 #[.val (.int i0), .val (.int i1), .val (.double ta), .second, .val (.double tb), .second, .val (.double ra), .second, .unset, .unset, .unset, .unset] [(.double (FP.dmul (FP.dmul (FP.dmul (FP.dmul (4498657090234903196 : UInt64) (FP.dadd tb (4643512921809643110 : UInt64))) (FP.dadd tb (4643512921809643110 : UInt64))) (FP.dadd tb (4643512921809643110 : UInt64))) (FP.dadd tb (4643512921809643110 : UInt64))))]))
  obtain ⟨rb, h_rb⟩ : ∃ z, ((FP.dmul (FP.dmul (FP.dmul (FP.dmul (4498657090234903196 : UInt64) (FP.dadd tb (4643512921809643110 : UInt64))) (FP.dadd tb (4643512921809643110 : UInt64))) (FP.dadd tb (4643512921809643110 : UInt64))) (FP.dadd tb (4643512921809643110 : UInt64))) : UInt64) = z := ⟨_, rfl⟩
  refine own_topD h_rb ?_
  show own_Run p e below s _ _ _ (T2.setTop (mkF m 34 #[.val (.int i0), .val (.int i1), .val (.double ta), .second, .val (.double tb), .second, .val (.double ra), .second, .unset, .unset, .unset, .unset] [(.double rb)]))
  have k_rb := own_okr g_tb h_rb
  refine own_st (fun t k => XS.dstore X2.here hx rfl (hb hby at_34) rfl (l' := #[.val (.int i0), .val (.int i1), .val (.double ta), .second, .val (.double tb), .second, .val (.double ra), .second, .val (.double rb), .second, .unset, .unset]) rfl k) ?_
  show own_Run p e below s _ _ _ (T2.setTop (mkF m 36 #[.val (.int i0), .val (.int i1), .val (.double ta), .second, .val (.double tb), .second, .val (.double ra), .second, .val (.double rb), .second, .unset, .unset] []))
  refine own_st (fun t k => XS.iconst X2.here hx rfl (hb hby at_36) k) ?_
  show own_Run p e below s _ _ _ (T2.setTop (mkF m 37 #[.val (.int i0), .val (.int i1), .val (.double ta), .second, .val (.double tb), .second, .val (.double ra), .second, .val (.double rb), .second, .unset, .unset] [(.int (1 : Int32))]))
  refine own_st (fun t k => XS.istore X2.here hx rfl (hb hby at_37) rfl (l' := #[.val (.int i0), .val (.int i1), .val (.double ta), .second, .val (.double tb), .second, .val (.double ra), .second, .val (.double rb), .second, .val (.int (1 : Int32)), .unset]) rfl k) ?_
  show own_Run p e below s _ _ _ (T2.setTop (mkF m 39 #[.val (.int i0), .val (.int i1), .val (.double ta), .second, .val (.double tb), .second, .val (.double ra), .second, .val (.double rb), .second, .val (.int (1 : Int32)), .unset] []))
  refine own_st (fun t k => XS.dloadN X2.here hx rfl (hb hby at_39) rfl k) ?_
  show own_Run p e below s _ _ _ (T2.setTop (mkF m 40 #[.val (.int i0), .val (.int i1), .val (.double ta), .second, .val (.double tb), .second, .val (.double ra), .second, .val (.double rb), .second, .val (.int (1 : Int32)), .unset] [(.double ta)]))
  refine own_st (fun t k => XS.dload X2.here hx rfl (hb hby at_40) rfl k) ?_
  show own_Run p e below s _ _ _ (T2.setTop (mkF m 42 #[.val (.int i0), .val (.int i1), .val (.double ta), .second, .val (.double tb), .second, .val (.double ra), .second, .val (.double rb), .second, .val (.int (1 : Int32)), .unset] [(.double tb), (.double ta)]))
  refine own_st (fun t k => XS.dcmpS X2.here hx rfl (hb hby at_42) rfl (v := (cmpValue (FP.dcmp ta tb) .g)) (rfl) k) ?_
  show own_Run p e below s _ _ _ (T2.setTop (mkF m 43 #[.val (.int i0), .val (.int i1), .val (.double ta), .second, .val (.double tb), .second, .val (.double ra), .second, .val (.double rb), .second, .val (.int (1 : Int32)), .unset] [(.int (cmpValue (FP.dcmp ta tb) .g))]))
  by_cases hLT : (cmpValue (FP.dcmp ta tb) .g) < (0 : Int32)
  · skip
    refine own_st (fun t k => XS.ifNo X2.here hx rfl (hb hby at_43) rfl ((if0 _ _).trans (tlt (hLT : (cmpValue (FP.dcmp ta tb) .g) < (0 : Int32))).2.1) k) ?_
    show own_Run p e below s _ _ _ (T2.setTop (mkF m 46 #[.val (.int i0), .val (.int i1), .val (.double ta), .second, .val (.double tb), .second, .val (.double ra), .second, .val (.double rb), .second, .val (.int (1 : Int32)), .unset] []))
    refine own_st (fun t k => XS.dload X2.here hx rfl (hb hby at_46) rfl k) ?_
    show own_Run p e below s _ _ _ (T2.setTop (mkF m 48 #[.val (.int i0), .val (.int i1), .val (.double ta), .second, .val (.double tb), .second, .val (.double ra), .second, .val (.double rb), .second, .val (.int (1 : Int32)), .unset] [(.double ra)]))
    refine own_st (fun t k => XS.dload X2.here hx rfl (hb hby at_48) rfl k) ?_
    show own_Run p e below s _ _ _ (T2.setTop (mkF m 50 #[.val (.int i0), .val (.int i1), .val (.double ta), .second, .val (.double tb), .second, .val (.double ra), .second, .val (.double rb), .second, .val (.int (1 : Int32)), .unset] [(.double rb), (.double ra)]))
    refine own_st (fun t k => XS.dcmpS X2.here hx rfl (hb hby at_50) rfl (v := (cmpValue (FP.dcmp ra rb) .g)) (rfl) k) ?_
    show own_Run p e below s _ _ _ (T2.setTop (mkF m 51 #[.val (.int i0), .val (.int i1), .val (.double ta), .second, .val (.double tb), .second, .val (.double ra), .second, .val (.double rb), .second, .val (.int (1 : Int32)), .unset] [(.int (cmpValue (FP.dcmp ra rb) .g))]))
    refine own_st (fun t k => XS.ifNo X2.here hx rfl (hb hby at_51) rfl ((if0 _ _).trans (flt (own_mono r_xa r_xb h_ta h_tb h_ra h_rb hLT : ¬ ((0 : Int32) < (cmpValue (FP.dcmp ra rb) .g)))).2.2.1) k) ?_
    show own_Run p e below s _ _ _ (T2.setTop (mkF m 54 #[.val (.int i0), .val (.int i1), .val (.double ta), .second, .val (.double tb), .second, .val (.double ra), .second, .val (.double rb), .second, .val (.int (1 : Int32)), .unset] []))
    refine own_st (fun t k => XS.iconst X2.here hx rfl (hb hby at_54) k) ?_
    show own_Run p e below s _ _ _ (T2.setTop (mkF m 55 #[.val (.int i0), .val (.int i1), .val (.double ta), .second, .val (.double tb), .second, .val (.double ra), .second, .val (.double rb), .second, .val (.int (1 : Int32)), .unset] [(.int (1 : Int32))]))
    refine own_st (fun t k => XS.goto X2.here hx rfl (pc0 := 55) (pc' := 59) rfl (hb hby at_55) (by decide) (by decide) k) ?_
    show own_Run p e below s _ _ _ (T2.setTop (mkF m 59 #[.val (.int i0), .val (.int i1), .val (.double ta), .second, .val (.double tb), .second, .val (.double ra), .second, .val (.double rb), .second, .val (.int (1 : Int32)), .unset] [(.int (1 : Int32))]))
    refine own_st (fun t k => XS.istore X2.here hx rfl (hb hby at_59) rfl (l' := #[.val (.int i0), .val (.int i1), .val (.double ta), .second, .val (.double tb), .second, .val (.double ra), .second, .val (.double rb), .second, .val (.int (1 : Int32)), .unset]) rfl k) ?_
    show own_Run p e below s _ _ _ (T2.setTop (mkF m 61 #[.val (.int i0), .val (.int i1), .val (.double ta), .second, .val (.double tb), .second, .val (.double ra), .second, .val (.double rb), .second, .val (.int (1 : Int32)), .unset] []))
    refine own_st (fun t k => XS.dload X2.here hx rfl (hb hby at_61) rfl k) ?_
    show own_Run p e below s _ _ _ (T2.setTop (mkF m 63 #[.val (.int i0), .val (.int i1), .val (.double ta), .second, .val (.double tb), .second, .val (.double ra), .second, .val (.double rb), .second, .val (.int (1 : Int32)), .unset] [(.double tb)]))
    refine own_st (fun t k => XS.dloadN X2.here hx rfl (hb hby at_63) rfl k) ?_
    show own_Run p e below s _ _ _ (T2.setTop (mkF m 64 #[.val (.int i0), .val (.int i1), .val (.double ta), .second, .val (.double tb), .second, .val (.double ra), .second, .val (.double rb), .second, .val (.int (1 : Int32)), .unset] [(.double ta), (.double tb)]))
    refine own_st (fun t k => XS.dcmpS X2.here hx rfl (hb hby at_64) rfl (v := (cmpValue (FP.dcmp tb ta) .g)) (rfl) k) ?_
    show own_Run p e below s _ _ _ (T2.setTop (mkF m 65 #[.val (.int i0), .val (.int i1), .val (.double ta), .second, .val (.double tb), .second, .val (.double ra), .second, .val (.double rb), .second, .val (.int (1 : Int32)), .unset] [(.int (cmpValue (FP.dcmp tb ta) .g))]))
    by_cases hGT : (cmpValue (FP.dcmp tb ta) .g) < (0 : Int32)
    · skip
      refine own_st (fun t k => XS.ifNo X2.here hx rfl (hb hby at_65) rfl ((if0 _ _).trans (tlt (hGT : (cmpValue (FP.dcmp tb ta) .g) < (0 : Int32))).2.1) k) ?_
      show own_Run p e below s _ _ _ (T2.setTop (mkF m 68 #[.val (.int i0), .val (.int i1), .val (.double ta), .second, .val (.double tb), .second, .val (.double ra), .second, .val (.double rb), .second, .val (.int (1 : Int32)), .unset] []))
      refine own_st (fun t k => XS.dload X2.here hx rfl (hb hby at_68) rfl k) ?_
      show own_Run p e below s _ _ _ (T2.setTop (mkF m 70 #[.val (.int i0), .val (.int i1), .val (.double ta), .second, .val (.double tb), .second, .val (.double ra), .second, .val (.double rb), .second, .val (.int (1 : Int32)), .unset] [(.double rb)]))
      refine own_st (fun t k => XS.dload X2.here hx rfl (hb hby at_70) rfl k) ?_
      show own_Run p e below s _ _ _ (T2.setTop (mkF m 72 #[.val (.int i0), .val (.int i1), .val (.double ta), .second, .val (.double tb), .second, .val (.double ra), .second, .val (.double rb), .second, .val (.int (1 : Int32)), .unset] [(.double ra), (.double rb)]))
      refine own_st (fun t k => XS.dcmpS X2.here hx rfl (hb hby at_72) rfl (v := (cmpValue (FP.dcmp rb ra) .g)) (rfl) k) ?_
      show own_Run p e below s _ _ _ (T2.setTop (mkF m 73 #[.val (.int i0), .val (.int i1), .val (.double ta), .second, .val (.double tb), .second, .val (.double ra), .second, .val (.double rb), .second, .val (.int (1 : Int32)), .unset] [(.int (cmpValue (FP.dcmp rb ra) .g))]))
      refine own_st (fun t k => XS.ifNo X2.here hx rfl (hb hby at_73) rfl ((if0 _ _).trans (flt (own_mono r_xb r_xa h_tb h_ta h_rb h_ra hGT : ¬ ((0 : Int32) < (cmpValue (FP.dcmp rb ra) .g)))).2.2.1) k) ?_
      show own_Run p e below s _ _ _ (T2.setTop (mkF m 76 #[.val (.int i0), .val (.int i1), .val (.double ta), .second, .val (.double tb), .second, .val (.double ra), .second, .val (.double rb), .second, .val (.int (1 : Int32)), .unset] []))
      refine own_st (fun t k => XS.iconst X2.here hx rfl (hb hby at_76) k) ?_
      show own_Run p e below s _ _ _ (T2.setTop (mkF m 77 #[.val (.int i0), .val (.int i1), .val (.double ta), .second, .val (.double tb), .second, .val (.double ra), .second, .val (.double rb), .second, .val (.int (1 : Int32)), .unset] [(.int (1 : Int32))]))
      refine own_st (fun t k => XS.goto X2.here hx rfl (pc0 := 77) (pc' := 81) rfl (hb hby at_77) (by decide) (by decide) k) ?_
      show own_Run p e below s _ _ _ (T2.setTop (mkF m 81 #[.val (.int i0), .val (.int i1), .val (.double ta), .second, .val (.double tb), .second, .val (.double ra), .second, .val (.double rb), .second, .val (.int (1 : Int32)), .unset] [(.int (1 : Int32))]))
      refine own_st (fun t k => XS.istore X2.here hx rfl (hb hby at_81) rfl (l' := #[.val (.int i0), .val (.int i1), .val (.double ta), .second, .val (.double tb), .second, .val (.double ra), .second, .val (.double rb), .second, .val (.int (1 : Int32)), .unset]) rfl k) ?_
      show own_Run p e below s _ _ _ (T2.setTop (mkF m 83 #[.val (.int i0), .val (.int i1), .val (.double ta), .second, .val (.double tb), .second, .val (.double ra), .second, .val (.double rb), .second, .val (.int (1 : Int32)), .unset] []))
      refine own_st (fun t k => XS.dloadN X2.here hx rfl (hb hby at_83) rfl k) ?_
      show own_Run p e below s _ _ _ (T2.setTop (mkF m 84 #[.val (.int i0), .val (.int i1), .val (.double ta), .second, .val (.double tb), .second, .val (.double ra), .second, .val (.double rb), .second, .val (.int (1 : Int32)), .unset] [(.double ta)]))
      refine own_st (fun t k => XS.dload X2.here hx rfl (hb hby at_84) rfl k) ?_
      show own_Run p e below s _ _ _ (T2.setTop (mkF m 86 #[.val (.int i0), .val (.int i1), .val (.double ta), .second, .val (.double tb), .second, .val (.double ra), .second, .val (.double rb), .second, .val (.int (1 : Int32)), .unset] [(.double tb), (.double ta)]))
      refine own_st (fun t k => XS.dcmpS X2.here hx rfl (hb hby at_86) rfl (v := (cmpValue (FP.dcmp ta tb) .l)) (rfl) k) ?_
      show own_Run p e below s _ _ _ (T2.setTop (mkF m 87 #[.val (.int i0), .val (.int i1), .val (.double ta), .second, .val (.double tb), .second, .val (.double ra), .second, .val (.double rb), .second, .val (.int (1 : Int32)), .unset] [(.int (cmpValue (FP.dcmp ta tb) .l))]))
      by_cases hEQ : (cmpValue (FP.dcmp ta tb) .l) = (0 : Int32)
      · skip
        refine own_st (fun t k => XS.ifNo X2.here hx rfl (hb hby at_87) rfl ((if0 _ _).trans (teq (hEQ : (cmpValue (FP.dcmp ta tb) .l) = (0 : Int32))).2) k) ?_
        show own_Run p e below s _ _ _ (T2.setTop (mkF m 90 #[.val (.int i0), .val (.int i1), .val (.double ta), .second, .val (.double tb), .second, .val (.double ra), .second, .val (.double rb), .second, .val (.int (1 : Int32)), .unset] []))
        refine own_st (fun t k => XS.dload X2.here hx rfl (hb hby at_90) rfl k) ?_
        show own_Run p e below s _ _ _ (T2.setTop (mkF m 92 #[.val (.int i0), .val (.int i1), .val (.double ta), .second, .val (.double tb), .second, .val (.double ra), .second, .val (.double rb), .second, .val (.int (1 : Int32)), .unset] [(.double ra)]))
        refine own_st (fun t k => XS.dload X2.here hx rfl (hb hby at_92) rfl k) ?_
        show own_Run p e below s _ _ _ (T2.setTop (mkF m 94 #[.val (.int i0), .val (.int i1), .val (.double ta), .second, .val (.double tb), .second, .val (.double ra), .second, .val (.double rb), .second, .val (.int (1 : Int32)), .unset] [(.double rb), (.double ra)]))
        refine own_st (fun t k => XS.dcmpS X2.here hx rfl (hb hby at_94) rfl (v := (0 : Int32)) (own_sam r_xa r_xb h_ta h_tb h_ra h_rb hEQ) k) ?_
        show own_Run p e below s _ _ _ (T2.setTop (mkF m 95 #[.val (.int i0), .val (.int i1), .val (.double ta), .second, .val (.double tb), .second, .val (.double ra), .second, .val (.double rb), .second, .val (.int (1 : Int32)), .unset] [(.int (0 : Int32))]))
        refine own_st (fun t k => XS.ifNo X2.here hx rfl (hb hby at_95) rfl ((if0 _ _).trans (teq (by decide : (0 : Int32) = (0 : Int32))).2) k) ?_
        show own_Run p e below s _ _ _ (T2.setTop (mkF m 98 #[.val (.int i0), .val (.int i1), .val (.double ta), .second, .val (.double tb), .second, .val (.double ra), .second, .val (.double rb), .second, .val (.int (1 : Int32)), .unset] []))
        refine own_st (fun t k => XS.iconst X2.here hx rfl (hb hby at_98) k) ?_
        show own_Run p e below s _ _ _ (T2.setTop (mkF m 99 #[.val (.int i0), .val (.int i1), .val (.double ta), .second, .val (.double tb), .second, .val (.double ra), .second, .val (.double rb), .second, .val (.int (1 : Int32)), .unset] [(.int (1 : Int32))]))
        refine own_st (fun t k => XS.goto X2.here hx rfl (pc0 := 99) (pc' := 103) rfl (hb hby at_99) (by decide) (by decide) k) ?_
        show own_Run p e below s _ _ _ (T2.setTop (mkF m 103 #[.val (.int i0), .val (.int i1), .val (.double ta), .second, .val (.double tb), .second, .val (.double ra), .second, .val (.double rb), .second, .val (.int (1 : Int32)), .unset] [(.int (1 : Int32))]))
        refine own_st (fun t k => XS.istore X2.here hx rfl (hb hby at_103) rfl (l' := #[.val (.int i0), .val (.int i1), .val (.double ta), .second, .val (.double tb), .second, .val (.double ra), .second, .val (.double rb), .second, .val (.int (1 : Int32)), .unset]) rfl k) ?_
        show own_Run p e below s _ _ _ (T2.setTop (mkF m 105 #[.val (.int i0), .val (.int i1), .val (.double ta), .second, .val (.double tb), .second, .val (.double ra), .second, .val (.double rb), .second, .val (.int (1 : Int32)), .unset] []))
        refine own_st (X2.ldc2DoubleC hx hown (mvT hZ (hw _ (List.mem_of_getElem? (i := 7) rfl))) (g := (mkF m 105 #[.val (.int i0), .val (.int i1), .val (.double ta), .second, .val (.double tb), .second, .val (.double ra), .second, .val (.double rb), .second, .val (.int (1 : Int32)), .unset] [])) rfl (hb hby at_105)) ?_
        show own_Run p e below s _ _ _ (T2.setTop (mkF m 108 #[.val (.int i0), .val (.int i1), .val (.double ta), .second, .val (.double tb), .second, .val (.double ra), .second, .val (.double rb), .second, .val (.int (1 : Int32)), .unset] [(.double (13866884958664418918 : UInt64))]))
        refine own_callS X2 hx hZ (y := (⟨"com/example/helioslope/helioslope/longwave/Longwave", "blackbody", "(D)D"⟩ : MethodName)) hown (hw _ (List.mem_of_getElem? (i := 1) rfl)) (hw _ (List.mem_of_getElem? (i := 2) rfl)) (hw _ (List.mem_of_getElem? (i := 4) rfl)) (hw _ (List.mem_of_getElem? (i := 3) rfl)) (by decide) hh2 (argsL := [(.double (13866884958664418918 : UInt64))]) (rest := []) (W := 0) (own_rm1 l Z a0 hw [] (13866884958664418918 : UInt64) h0 n0 (Nat.le_trans Z0 K0.1) (by decide +kernel) (by decide +kernel) (by decide +kernel) (by decide +kernel) (by decide +kernel)) (by decide) (by decide) (by rw [hml]; rfl) (lenOf own_pd2 rfl) rfl (by exact Nat.le_of_eq rfl) (hb hby at_108) (by decide) (by decide) ?_
        intro T3 v3 L3 X3 hq3
        obtain ⟨rfl, N3q, hh3⟩ := hq3
        have N3 := Fr.app N2 N3q
        show own_Run p e below s _ _ _ (T3.setTop (mkF m 111 #[.val (.int i0), .val (.int i1), .val (.double ta), .second, .val (.double tb), .second, .val (.double ra), .second, .val (.double rb), .second, .val (.int (1 : Int32)), .unset] [(.double (FP.dmul (FP.dmul (FP.dmul (FP.dmul (4498657090234903196 : UInt64) (FP.dadd (13866884958664418918 : UInt64) (4643512921809643110 : UInt64))) (FP.dadd (13866884958664418918 : UInt64) (4643512921809643110 : UInt64))) (FP.dadd (13866884958664418918 : UInt64) (4643512921809643110 : UInt64))) (FP.dadd (13866884958664418918 : UInt64) (4643512921809643110 : UInt64))))]))
        obtain ⟨rz, h_rz⟩ : ∃ z, ((FP.dmul (FP.dmul (FP.dmul (FP.dmul (4498657090234903196 : UInt64) (FP.dadd (13866884958664418918 : UInt64) (4643512921809643110 : UInt64))) (FP.dadd (13866884958664418918 : UInt64) (4643512921809643110 : UInt64))) (FP.dadd (13866884958664418918 : UInt64) (4643512921809643110 : UInt64))) (FP.dadd (13866884958664418918 : UInt64) (4643512921809643110 : UInt64))) : UInt64) = z := ⟨_, rfl⟩
        refine own_topD h_rz ?_
        show own_Run p e below s _ _ _ (T3.setTop (mkF m 111 #[.val (.int i0), .val (.int i1), .val (.double ta), .second, .val (.double tb), .second, .val (.double ra), .second, .val (.double rb), .second, .val (.int (1 : Int32)), .unset] [(.double rz)]))
        refine own_st (fun t k => XS.dconst0 X3.here hx rfl (hb hby at_111) (v := 0) rfl k) ?_
        show own_Run p e below s _ _ _ (T3.setTop (mkF m 112 #[.val (.int i0), .val (.int i1), .val (.double ta), .second, .val (.double tb), .second, .val (.double ra), .second, .val (.double rb), .second, .val (.int (1 : Int32)), .unset] [(.double (0 : UInt64)), (.double rz)]))
        refine own_st (fun t k => XS.dcmpS X3.here hx rfl (hb hby at_112) rfl (v := (0 : Int32)) (by rw [← h_rz]; decide +kernel) k) ?_
        show own_Run p e below s _ _ _ (T3.setTop (mkF m 113 #[.val (.int i0), .val (.int i1), .val (.double ta), .second, .val (.double tb), .second, .val (.double ra), .second, .val (.double rb), .second, .val (.int (1 : Int32)), .unset] [(.int (0 : Int32))]))
        refine own_st (fun t k => XS.ifNo X3.here hx rfl (hb hby at_113) rfl ((if0 _ _).trans (teq (by decide : (0 : Int32) = (0 : Int32))).2) k) ?_
        show own_Run p e below s _ _ _ (T3.setTop (mkF m 116 #[.val (.int i0), .val (.int i1), .val (.double ta), .second, .val (.double tb), .second, .val (.double ra), .second, .val (.double rb), .second, .val (.int (1 : Int32)), .unset] []))
        refine own_st (fun t k => XS.iconst X3.here hx rfl (hb hby at_116) k) ?_
        show own_Run p e below s _ _ _ (T3.setTop (mkF m 117 #[.val (.int i0), .val (.int i1), .val (.double ta), .second, .val (.double tb), .second, .val (.double ra), .second, .val (.double rb), .second, .val (.int (1 : Int32)), .unset] [(.int (1 : Int32))]))
        refine own_st (fun t k => XS.goto X3.here hx rfl (pc0 := 117) (pc' := 121) rfl (hb hby at_117) (by decide) (by decide) k) ?_
        show own_Run p e below s _ _ _ (T3.setTop (mkF m 121 #[.val (.int i0), .val (.int i1), .val (.double ta), .second, .val (.double tb), .second, .val (.double ra), .second, .val (.double rb), .second, .val (.int (1 : Int32)), .unset] [(.int (1 : Int32))]))
        refine own_st (fun t k => XS.istore X3.here hx rfl (hb hby at_121) rfl (l' := #[.val (.int i0), .val (.int i1), .val (.double ta), .second, .val (.double tb), .second, .val (.double ra), .second, .val (.double rb), .second, .val (.int (1 : Int32)), .val (.int (1 : Int32))]) rfl k) ?_
        show own_Run p e below s _ _ _ (T3.setTop (mkF m 123 #[.val (.int i0), .val (.int i1), .val (.double ta), .second, .val (.double tb), .second, .val (.double ra), .second, .val (.double rb), .second, .val (.int (1 : Int32)), .val (.int (1 : Int32))] []))
        refine own_st (fun t k => XS.dloadN X3.here hx rfl (hb hby at_123) rfl k) ?_
        show own_Run p e below s _ _ _ (T3.setTop (mkF m 124 #[.val (.int i0), .val (.int i1), .val (.double ta), .second, .val (.double tb), .second, .val (.double ra), .second, .val (.double rb), .second, .val (.int (1 : Int32)), .val (.int (1 : Int32))] [(.double ta)]))
        refine own_st (fun t k => XS.dload X3.here hx rfl (hb hby at_124) rfl k) ?_
        show own_Run p e below s _ _ _ (T3.setTop (mkF m 126 #[.val (.int i0), .val (.int i1), .val (.double ta), .second, .val (.double tb), .second, .val (.double ra), .second, .val (.double rb), .second, .val (.int (1 : Int32)), .val (.int (1 : Int32))] [(.double ra), (.double ta)]))
        refine own_callS X3 hx hZ (y := (⟨"com/example/helioslope/helioslope/longwave/LongwaveBlackbodyPinLaw", "near", "(DD)Z"⟩ : MethodName)) hown (hw _ (List.mem_of_getElem? (i := 8) rfl)) (hw _ (List.mem_of_getElem? (i := 9) rfl)) (hw _ (List.mem_of_getElem? (i := 11) rfl)) (hw _ (List.mem_of_getElem? (i := 10) rfl)) (by decide) hh3 (argsL := [(.double ta), (.double ra)]) (rest := []) (W := 0) (own_rm2 l Z a0 hw [] ta ra h0 n0 (Nat.le_trans Z0 K0.1) (k_ra.2.1) (k_ra.2.2.1) (k_ra.2.2.2.1) (k_ra.2.2.2.2.1) (k_ra.2.2.2.2.2.1) (k_ra.2.2.2.2.2.2.1) (k_ra.2.2.2.2.2.2.2.1) (k_ra.2.2.2.2.2.2.2.2.1) (k_ra.2.2.2.2.2.2.2.2.2)) (by decide) (by decide) (by rw [hml]; rfl) (lenOf own_pd3 rfl) rfl (by exact Nat.le_of_eq rfl) (hb hby at_126) (by decide) (by decide) ?_
        intro T4 v4 L4 X4 hq4
        obtain ⟨rfl, N4q, hh4⟩ := hq4
        have N4 := Fr.app N3 N4q
        show own_Run p e below s _ _ _ (T4.setTop (mkF m 129 #[.val (.int i0), .val (.int i1), .val (.double ta), .second, .val (.double tb), .second, .val (.double ra), .second, .val (.double rb), .second, .val (.int (1 : Int32)), .val (.int (1 : Int32))] [(.int (1 : Int32))]))
        refine own_st (fun t k => XS.ifNo X4.here hx rfl (hb hby at_129) rfl ((if0 _ _).trans (feq (by decide : ¬ ((1 : Int32) = (0 : Int32)))).1) k) ?_
        show own_Run p e below s _ _ _ (T4.setTop (mkF m 132 #[.val (.int i0), .val (.int i1), .val (.double ta), .second, .val (.double tb), .second, .val (.double ra), .second, .val (.double rb), .second, .val (.int (1 : Int32)), .val (.int (1 : Int32))] []))
        refine own_st (fun t k => XS.dload X4.here hx rfl (hb hby at_132) rfl k) ?_
        show own_Run p e below s _ _ _ (T4.setTop (mkF m 134 #[.val (.int i0), .val (.int i1), .val (.double ta), .second, .val (.double tb), .second, .val (.double ra), .second, .val (.double rb), .second, .val (.int (1 : Int32)), .val (.int (1 : Int32))] [(.double tb)]))
        refine own_st (fun t k => XS.dload X4.here hx rfl (hb hby at_134) rfl k) ?_
        show own_Run p e below s _ _ _ (T4.setTop (mkF m 136 #[.val (.int i0), .val (.int i1), .val (.double ta), .second, .val (.double tb), .second, .val (.double ra), .second, .val (.double rb), .second, .val (.int (1 : Int32)), .val (.int (1 : Int32))] [(.double rb), (.double tb)]))
        refine own_callS X4 hx hZ (y := (⟨"com/example/helioslope/helioslope/longwave/LongwaveBlackbodyPinLaw", "near", "(DD)Z"⟩ : MethodName)) hown (hw _ (List.mem_of_getElem? (i := 8) rfl)) (hw _ (List.mem_of_getElem? (i := 9) rfl)) (hw _ (List.mem_of_getElem? (i := 11) rfl)) (hw _ (List.mem_of_getElem? (i := 10) rfl)) (by decide) hh4 (argsL := [(.double tb), (.double rb)]) (rest := []) (W := 0) (own_rm2 l Z a0 hw [] tb rb h0 n0 (Nat.le_trans Z0 K0.1) (k_rb.2.1) (k_rb.2.2.1) (k_rb.2.2.2.1) (k_rb.2.2.2.2.1) (k_rb.2.2.2.2.2.1) (k_rb.2.2.2.2.2.2.1) (k_rb.2.2.2.2.2.2.2.1) (k_rb.2.2.2.2.2.2.2.2.1) (k_rb.2.2.2.2.2.2.2.2.2)) (by decide) (by decide) (by rw [hml]; rfl) (lenOf own_pd3 rfl) rfl (by exact Nat.le_of_eq rfl) (hb hby at_136) (by decide) (by decide) ?_
        intro T5 v5 L5 X5 hq5
        obtain ⟨rfl, N5q, hh5⟩ := hq5
        have N5 := Fr.app N4 N5q
        show own_Run p e below s _ _ _ (T5.setTop (mkF m 139 #[.val (.int i0), .val (.int i1), .val (.double ta), .second, .val (.double tb), .second, .val (.double ra), .second, .val (.double rb), .second, .val (.int (1 : Int32)), .val (.int (1 : Int32))] [(.int (1 : Int32))]))
        refine own_st (fun t k => XS.ifNo X5.here hx rfl (hb hby at_139) rfl ((if0 _ _).trans (feq (by decide : ¬ ((1 : Int32) = (0 : Int32)))).1) k) ?_
        show own_Run p e below s _ _ _ (T5.setTop (mkF m 142 #[.val (.int i0), .val (.int i1), .val (.double ta), .second, .val (.double tb), .second, .val (.double ra), .second, .val (.double rb), .second, .val (.int (1 : Int32)), .val (.int (1 : Int32))] []))
        refine own_st (fun t k => XS.iload X5.here hx rfl (hb hby at_142) rfl k) ?_
        show own_Run p e below s _ _ _ (T5.setTop (mkF m 144 #[.val (.int i0), .val (.int i1), .val (.double ta), .second, .val (.double tb), .second, .val (.double ra), .second, .val (.double rb), .second, .val (.int (1 : Int32)), .val (.int (1 : Int32))] [(.int (1 : Int32))]))
        refine own_st (fun t k => XS.ifNo X5.here hx rfl (hb hby at_144) rfl ((if0 _ _).trans (feq (by decide : ¬ ((1 : Int32) = (0 : Int32)))).1) k) ?_
        show own_Run p e below s _ _ _ (T5.setTop (mkF m 147 #[.val (.int i0), .val (.int i1), .val (.double ta), .second, .val (.double tb), .second, .val (.double ra), .second, .val (.double rb), .second, .val (.int (1 : Int32)), .val (.int (1 : Int32))] []))
        refine own_st (fun t k => XS.iload X5.here hx rfl (hb hby at_147) rfl k) ?_
        show own_Run p e below s _ _ _ (T5.setTop (mkF m 149 #[.val (.int i0), .val (.int i1), .val (.double ta), .second, .val (.double tb), .second, .val (.double ra), .second, .val (.double rb), .second, .val (.int (1 : Int32)), .val (.int (1 : Int32))] [(.int (1 : Int32))]))
        refine own_st (fun t k => XS.ifNo X5.here hx rfl (hb hby at_149) rfl ((if0 _ _).trans (feq (by decide : ¬ ((1 : Int32) = (0 : Int32)))).1) k) ?_
        show own_Run p e below s _ _ _ (T5.setTop (mkF m 152 #[.val (.int i0), .val (.int i1), .val (.double ta), .second, .val (.double tb), .second, .val (.double ra), .second, .val (.double rb), .second, .val (.int (1 : Int32)), .val (.int (1 : Int32))] []))
        refine own_st (fun t k => XS.dload X5.here hx rfl (hb hby at_152) rfl k) ?_
        show own_Run p e below s _ _ _ (T5.setTop (mkF m 154 #[.val (.int i0), .val (.int i1), .val (.double ta), .second, .val (.double tb), .second, .val (.double ra), .second, .val (.double rb), .second, .val (.int (1 : Int32)), .val (.int (1 : Int32))] [(.double ra)]))
        refine own_st (fun t k => XS.dconst0 X5.here hx rfl (hb hby at_154) (v := 0) rfl k) ?_
        show own_Run p e below s _ _ _ (T5.setTop (mkF m 155 #[.val (.int i0), .val (.int i1), .val (.double ta), .second, .val (.double tb), .second, .val (.double ra), .second, .val (.double rb), .second, .val (.int (1 : Int32)), .val (.int (1 : Int32))] [(.double (0 : UInt64)), (.double ra)]))
        refine own_st (fun t k => XS.dcmpS X5.here hx rfl (hb hby at_155) rfl (v := (1 : Int32)) (k_ra.1) k) ?_
        show own_Run p e below s _ _ _ (T5.setTop (mkF m 156 #[.val (.int i0), .val (.int i1), .val (.double ta), .second, .val (.double tb), .second, .val (.double ra), .second, .val (.double rb), .second, .val (.int (1 : Int32)), .val (.int (1 : Int32))] [(.int (1 : Int32))]))
        refine own_st (fun t k => XS.ifNo X5.here hx rfl (hb hby at_156) rfl ((if0 _ _).trans (tlt (by decide : (0 : Int32) < (1 : Int32))).2.2.2) k) ?_
        show own_Run p e below s _ _ _ (T5.setTop (mkF m 159 #[.val (.int i0), .val (.int i1), .val (.double ta), .second, .val (.double tb), .second, .val (.double ra), .second, .val (.double rb), .second, .val (.int (1 : Int32)), .val (.int (1 : Int32))] []))
        refine own_st (fun t k => XS.dload X5.here hx rfl (hb hby at_159) rfl k) ?_
        show own_Run p e below s _ _ _ (T5.setTop (mkF m 161 #[.val (.int i0), .val (.int i1), .val (.double ta), .second, .val (.double tb), .second, .val (.double ra), .second, .val (.double rb), .second, .val (.int (1 : Int32)), .val (.int (1 : Int32))] [(.double rb)]))
        refine own_st (fun t k => XS.dconst0 X5.here hx rfl (hb hby at_161) (v := 0) rfl k) ?_
        show own_Run p e below s _ _ _ (T5.setTop (mkF m 162 #[.val (.int i0), .val (.int i1), .val (.double ta), .second, .val (.double tb), .second, .val (.double ra), .second, .val (.double rb), .second, .val (.int (1 : Int32)), .val (.int (1 : Int32))] [(.double (0 : UInt64)), (.double rb)]))
        refine own_st (fun t k => XS.dcmpS X5.here hx rfl (hb hby at_162) rfl (v := (1 : Int32)) (k_rb.1) k) ?_
        show own_Run p e below s _ _ _ (T5.setTop (mkF m 163 #[.val (.int i0), .val (.int i1), .val (.double ta), .second, .val (.double tb), .second, .val (.double ra), .second, .val (.double rb), .second, .val (.int (1 : Int32)), .val (.int (1 : Int32))] [(.int (1 : Int32))]))
        refine own_st (fun t k => XS.ifNo X5.here hx rfl (hb hby at_163) rfl ((if0 _ _).trans (tlt (by decide : (0 : Int32) < (1 : Int32))).2.2.2) k) ?_
        show own_Run p e below s _ _ _ (T5.setTop (mkF m 166 #[.val (.int i0), .val (.int i1), .val (.double ta), .second, .val (.double tb), .second, .val (.double ra), .second, .val (.double rb), .second, .val (.int (1 : Int32)), .val (.int (1 : Int32))] []))
        refine own_st (fun t k => XS.iconst X5.here hx rfl (hb hby at_166) k) ?_
        show own_Run p e below s _ _ _ (T5.setTop (mkF m 167 #[.val (.int i0), .val (.int i1), .val (.double ta), .second, .val (.double tb), .second, .val (.double ra), .second, .val (.double rb), .second, .val (.int (1 : Int32)), .val (.int (1 : Int32))] [(.int (1 : Int32))]))
        refine own_st (fun t k => XS.goto X5.here hx rfl (pc0 := 167) (pc' := 171) rfl (hb hby at_167) (by decide) (by decide) k) ?_
        show own_Run p e below s _ _ _ (T5.setTop (mkF m 171 #[.val (.int i0), .val (.int i1), .val (.double ta), .second, .val (.double tb), .second, .val (.double ra), .second, .val (.double rb), .second, .val (.int (1 : Int32)), .val (.int (1 : Int32))] [(.int (1 : Int32))]))
        exact own_ret X5 hx hlk (t := .boolean) hret rfl (Or.inl ⟨rfl, by simp, _, rfl⟩) (hb hby at_171) (by decide) (by decide) ⟨rfl, N5⟩
      · skip
        refine own_st (fun t k => XS.ifYes X2.here hx rfl (pc0 := 87) (pc' := 105) rfl (hb hby at_87) rfl ((if0 _ _).trans (feq (hEQ : ¬ ((cmpValue (FP.dcmp ta tb) .l) = (0 : Int32)))).2) (by decide) (by decide) k) ?_
        show own_Run p e below s _ _ _ (T2.setTop (mkF m 105 #[.val (.int i0), .val (.int i1), .val (.double ta), .second, .val (.double tb), .second, .val (.double ra), .second, .val (.double rb), .second, .val (.int (1 : Int32)), .unset] []))
        refine own_st (X2.ldc2DoubleC hx hown (mvT hZ (hw _ (List.mem_of_getElem? (i := 7) rfl))) (g := (mkF m 105 #[.val (.int i0), .val (.int i1), .val (.double ta), .second, .val (.double tb), .second, .val (.double ra), .second, .val (.double rb), .second, .val (.int (1 : Int32)), .unset] [])) rfl (hb hby at_105)) ?_
        show own_Run p e below s _ _ _ (T2.setTop (mkF m 108 #[.val (.int i0), .val (.int i1), .val (.double ta), .second, .val (.double tb), .second, .val (.double ra), .second, .val (.double rb), .second, .val (.int (1 : Int32)), .unset] [(.double (13866884958664418918 : UInt64))]))
        refine own_callS X2 hx hZ (y := (⟨"com/example/helioslope/helioslope/longwave/Longwave", "blackbody", "(D)D"⟩ : MethodName)) hown (hw _ (List.mem_of_getElem? (i := 1) rfl)) (hw _ (List.mem_of_getElem? (i := 2) rfl)) (hw _ (List.mem_of_getElem? (i := 4) rfl)) (hw _ (List.mem_of_getElem? (i := 3) rfl)) (by decide) hh2 (argsL := [(.double (13866884958664418918 : UInt64))]) (rest := []) (W := 0) (own_rm1 l Z a0 hw [] (13866884958664418918 : UInt64) h0 n0 (Nat.le_trans Z0 K0.1) (by decide +kernel) (by decide +kernel) (by decide +kernel) (by decide +kernel) (by decide +kernel)) (by decide) (by decide) (by rw [hml]; rfl) (lenOf own_pd2 rfl) rfl (by exact Nat.le_of_eq rfl) (hb hby at_108) (by decide) (by decide) ?_
        intro T6 v6 L6 X6 hq6
        obtain ⟨rfl, N6q, hh6⟩ := hq6
        have N6 := Fr.app N2 N6q
        show own_Run p e below s _ _ _ (T6.setTop (mkF m 111 #[.val (.int i0), .val (.int i1), .val (.double ta), .second, .val (.double tb), .second, .val (.double ra), .second, .val (.double rb), .second, .val (.int (1 : Int32)), .unset] [(.double (FP.dmul (FP.dmul (FP.dmul (FP.dmul (4498657090234903196 : UInt64) (FP.dadd (13866884958664418918 : UInt64) (4643512921809643110 : UInt64))) (FP.dadd (13866884958664418918 : UInt64) (4643512921809643110 : UInt64))) (FP.dadd (13866884958664418918 : UInt64) (4643512921809643110 : UInt64))) (FP.dadd (13866884958664418918 : UInt64) (4643512921809643110 : UInt64))))]))
        obtain ⟨rz, h_rz⟩ : ∃ z, ((FP.dmul (FP.dmul (FP.dmul (FP.dmul (4498657090234903196 : UInt64) (FP.dadd (13866884958664418918 : UInt64) (4643512921809643110 : UInt64))) (FP.dadd (13866884958664418918 : UInt64) (4643512921809643110 : UInt64))) (FP.dadd (13866884958664418918 : UInt64) (4643512921809643110 : UInt64))) (FP.dadd (13866884958664418918 : UInt64) (4643512921809643110 : UInt64))) : UInt64) = z := ⟨_, rfl⟩
        refine own_topD h_rz ?_
        show own_Run p e below s _ _ _ (T6.setTop (mkF m 111 #[.val (.int i0), .val (.int i1), .val (.double ta), .second, .val (.double tb), .second, .val (.double ra), .second, .val (.double rb), .second, .val (.int (1 : Int32)), .unset] [(.double rz)]))
        refine own_st (fun t k => XS.dconst0 X6.here hx rfl (hb hby at_111) (v := 0) rfl k) ?_
        show own_Run p e below s _ _ _ (T6.setTop (mkF m 112 #[.val (.int i0), .val (.int i1), .val (.double ta), .second, .val (.double tb), .second, .val (.double ra), .second, .val (.double rb), .second, .val (.int (1 : Int32)), .unset] [(.double (0 : UInt64)), (.double rz)]))
        refine own_st (fun t k => XS.dcmpS X6.here hx rfl (hb hby at_112) rfl (v := (0 : Int32)) (by rw [← h_rz]; decide +kernel) k) ?_
        show own_Run p e below s _ _ _ (T6.setTop (mkF m 113 #[.val (.int i0), .val (.int i1), .val (.double ta), .second, .val (.double tb), .second, .val (.double ra), .second, .val (.double rb), .second, .val (.int (1 : Int32)), .unset] [(.int (0 : Int32))]))
        refine own_st (fun t k => XS.ifNo X6.here hx rfl (hb hby at_113) rfl ((if0 _ _).trans (teq (by decide : (0 : Int32) = (0 : Int32))).2) k) ?_
        show own_Run p e below s _ _ _ (T6.setTop (mkF m 116 #[.val (.int i0), .val (.int i1), .val (.double ta), .second, .val (.double tb), .second, .val (.double ra), .second, .val (.double rb), .second, .val (.int (1 : Int32)), .unset] []))
        refine own_st (fun t k => XS.iconst X6.here hx rfl (hb hby at_116) k) ?_
        show own_Run p e below s _ _ _ (T6.setTop (mkF m 117 #[.val (.int i0), .val (.int i1), .val (.double ta), .second, .val (.double tb), .second, .val (.double ra), .second, .val (.double rb), .second, .val (.int (1 : Int32)), .unset] [(.int (1 : Int32))]))
        refine own_st (fun t k => XS.goto X6.here hx rfl (pc0 := 117) (pc' := 121) rfl (hb hby at_117) (by decide) (by decide) k) ?_
        show own_Run p e below s _ _ _ (T6.setTop (mkF m 121 #[.val (.int i0), .val (.int i1), .val (.double ta), .second, .val (.double tb), .second, .val (.double ra), .second, .val (.double rb), .second, .val (.int (1 : Int32)), .unset] [(.int (1 : Int32))]))
        refine own_st (fun t k => XS.istore X6.here hx rfl (hb hby at_121) rfl (l' := #[.val (.int i0), .val (.int i1), .val (.double ta), .second, .val (.double tb), .second, .val (.double ra), .second, .val (.double rb), .second, .val (.int (1 : Int32)), .val (.int (1 : Int32))]) rfl k) ?_
        show own_Run p e below s _ _ _ (T6.setTop (mkF m 123 #[.val (.int i0), .val (.int i1), .val (.double ta), .second, .val (.double tb), .second, .val (.double ra), .second, .val (.double rb), .second, .val (.int (1 : Int32)), .val (.int (1 : Int32))] []))
        refine own_st (fun t k => XS.dloadN X6.here hx rfl (hb hby at_123) rfl k) ?_
        show own_Run p e below s _ _ _ (T6.setTop (mkF m 124 #[.val (.int i0), .val (.int i1), .val (.double ta), .second, .val (.double tb), .second, .val (.double ra), .second, .val (.double rb), .second, .val (.int (1 : Int32)), .val (.int (1 : Int32))] [(.double ta)]))
        refine own_st (fun t k => XS.dload X6.here hx rfl (hb hby at_124) rfl k) ?_
        show own_Run p e below s _ _ _ (T6.setTop (mkF m 126 #[.val (.int i0), .val (.int i1), .val (.double ta), .second, .val (.double tb), .second, .val (.double ra), .second, .val (.double rb), .second, .val (.int (1 : Int32)), .val (.int (1 : Int32))] [(.double ra), (.double ta)]))
        refine own_callS X6 hx hZ (y := (⟨"com/example/helioslope/helioslope/longwave/LongwaveBlackbodyPinLaw", "near", "(DD)Z"⟩ : MethodName)) hown (hw _ (List.mem_of_getElem? (i := 8) rfl)) (hw _ (List.mem_of_getElem? (i := 9) rfl)) (hw _ (List.mem_of_getElem? (i := 11) rfl)) (hw _ (List.mem_of_getElem? (i := 10) rfl)) (by decide) hh6 (argsL := [(.double ta), (.double ra)]) (rest := []) (W := 0) (own_rm2 l Z a0 hw [] ta ra h0 n0 (Nat.le_trans Z0 K0.1) (k_ra.2.1) (k_ra.2.2.1) (k_ra.2.2.2.1) (k_ra.2.2.2.2.1) (k_ra.2.2.2.2.2.1) (k_ra.2.2.2.2.2.2.1) (k_ra.2.2.2.2.2.2.2.1) (k_ra.2.2.2.2.2.2.2.2.1) (k_ra.2.2.2.2.2.2.2.2.2)) (by decide) (by decide) (by rw [hml]; rfl) (lenOf own_pd3 rfl) rfl (by exact Nat.le_of_eq rfl) (hb hby at_126) (by decide) (by decide) ?_
        intro T7 v7 L7 X7 hq7
        obtain ⟨rfl, N7q, hh7⟩ := hq7
        have N7 := Fr.app N6 N7q
        show own_Run p e below s _ _ _ (T7.setTop (mkF m 129 #[.val (.int i0), .val (.int i1), .val (.double ta), .second, .val (.double tb), .second, .val (.double ra), .second, .val (.double rb), .second, .val (.int (1 : Int32)), .val (.int (1 : Int32))] [(.int (1 : Int32))]))
        refine own_st (fun t k => XS.ifNo X7.here hx rfl (hb hby at_129) rfl ((if0 _ _).trans (feq (by decide : ¬ ((1 : Int32) = (0 : Int32)))).1) k) ?_
        show own_Run p e below s _ _ _ (T7.setTop (mkF m 132 #[.val (.int i0), .val (.int i1), .val (.double ta), .second, .val (.double tb), .second, .val (.double ra), .second, .val (.double rb), .second, .val (.int (1 : Int32)), .val (.int (1 : Int32))] []))
        refine own_st (fun t k => XS.dload X7.here hx rfl (hb hby at_132) rfl k) ?_
        show own_Run p e below s _ _ _ (T7.setTop (mkF m 134 #[.val (.int i0), .val (.int i1), .val (.double ta), .second, .val (.double tb), .second, .val (.double ra), .second, .val (.double rb), .second, .val (.int (1 : Int32)), .val (.int (1 : Int32))] [(.double tb)]))
        refine own_st (fun t k => XS.dload X7.here hx rfl (hb hby at_134) rfl k) ?_
        show own_Run p e below s _ _ _ (T7.setTop (mkF m 136 #[.val (.int i0), .val (.int i1), .val (.double ta), .second, .val (.double tb), .second, .val (.double ra), .second, .val (.double rb), .second, .val (.int (1 : Int32)), .val (.int (1 : Int32))] [(.double rb), (.double tb)]))
        refine own_callS X7 hx hZ (y := (⟨"com/example/helioslope/helioslope/longwave/LongwaveBlackbodyPinLaw", "near", "(DD)Z"⟩ : MethodName)) hown (hw _ (List.mem_of_getElem? (i := 8) rfl)) (hw _ (List.mem_of_getElem? (i := 9) rfl)) (hw _ (List.mem_of_getElem? (i := 11) rfl)) (hw _ (List.mem_of_getElem? (i := 10) rfl)) (by decide) hh7 (argsL := [(.double tb), (.double rb)]) (rest := []) (W := 0) (own_rm2 l Z a0 hw [] tb rb h0 n0 (Nat.le_trans Z0 K0.1) (k_rb.2.1) (k_rb.2.2.1) (k_rb.2.2.2.1) (k_rb.2.2.2.2.1) (k_rb.2.2.2.2.2.1) (k_rb.2.2.2.2.2.2.1) (k_rb.2.2.2.2.2.2.2.1) (k_rb.2.2.2.2.2.2.2.2.1) (k_rb.2.2.2.2.2.2.2.2.2)) (by decide) (by decide) (by rw [hml]; rfl) (lenOf own_pd3 rfl) rfl (by exact Nat.le_of_eq rfl) (hb hby at_136) (by decide) (by decide) ?_
        intro T8 v8 L8 X8 hq8
        obtain ⟨rfl, N8q, hh8⟩ := hq8
        have N8 := Fr.app N7 N8q
        show own_Run p e below s _ _ _ (T8.setTop (mkF m 139 #[.val (.int i0), .val (.int i1), .val (.double ta), .second, .val (.double tb), .second, .val (.double ra), .second, .val (.double rb), .second, .val (.int (1 : Int32)), .val (.int (1 : Int32))] [(.int (1 : Int32))]))
        refine own_st (fun t k => XS.ifNo X8.here hx rfl (hb hby at_139) rfl ((if0 _ _).trans (feq (by decide : ¬ ((1 : Int32) = (0 : Int32)))).1) k) ?_
        show own_Run p e below s _ _ _ (T8.setTop (mkF m 142 #[.val (.int i0), .val (.int i1), .val (.double ta), .second, .val (.double tb), .second, .val (.double ra), .second, .val (.double rb), .second, .val (.int (1 : Int32)), .val (.int (1 : Int32))] []))
        refine own_st (fun t k => XS.iload X8.here hx rfl (hb hby at_142) rfl k) ?_
        show own_Run p e below s _ _ _ (T8.setTop (mkF m 144 #[.val (.int i0), .val (.int i1), .val (.double ta), .second, .val (.double tb), .second, .val (.double ra), .second, .val (.double rb), .second, .val (.int (1 : Int32)), .val (.int (1 : Int32))] [(.int (1 : Int32))]))
        refine own_st (fun t k => XS.ifNo X8.here hx rfl (hb hby at_144) rfl ((if0 _ _).trans (feq (by decide : ¬ ((1 : Int32) = (0 : Int32)))).1) k) ?_
        show own_Run p e below s _ _ _ (T8.setTop (mkF m 147 #[.val (.int i0), .val (.int i1), .val (.double ta), .second, .val (.double tb), .second, .val (.double ra), .second, .val (.double rb), .second, .val (.int (1 : Int32)), .val (.int (1 : Int32))] []))
        refine own_st (fun t k => XS.iload X8.here hx rfl (hb hby at_147) rfl k) ?_
        show own_Run p e below s _ _ _ (T8.setTop (mkF m 149 #[.val (.int i0), .val (.int i1), .val (.double ta), .second, .val (.double tb), .second, .val (.double ra), .second, .val (.double rb), .second, .val (.int (1 : Int32)), .val (.int (1 : Int32))] [(.int (1 : Int32))]))
        refine own_st (fun t k => XS.ifNo X8.here hx rfl (hb hby at_149) rfl ((if0 _ _).trans (feq (by decide : ¬ ((1 : Int32) = (0 : Int32)))).1) k) ?_
        show own_Run p e below s _ _ _ (T8.setTop (mkF m 152 #[.val (.int i0), .val (.int i1), .val (.double ta), .second, .val (.double tb), .second, .val (.double ra), .second, .val (.double rb), .second, .val (.int (1 : Int32)), .val (.int (1 : Int32))] []))
        refine own_st (fun t k => XS.dload X8.here hx rfl (hb hby at_152) rfl k) ?_
        show own_Run p e below s _ _ _ (T8.setTop (mkF m 154 #[.val (.int i0), .val (.int i1), .val (.double ta), .second, .val (.double tb), .second, .val (.double ra), .second, .val (.double rb), .second, .val (.int (1 : Int32)), .val (.int (1 : Int32))] [(.double ra)]))
        refine own_st (fun t k => XS.dconst0 X8.here hx rfl (hb hby at_154) (v := 0) rfl k) ?_
        show own_Run p e below s _ _ _ (T8.setTop (mkF m 155 #[.val (.int i0), .val (.int i1), .val (.double ta), .second, .val (.double tb), .second, .val (.double ra), .second, .val (.double rb), .second, .val (.int (1 : Int32)), .val (.int (1 : Int32))] [(.double (0 : UInt64)), (.double ra)]))
        refine own_st (fun t k => XS.dcmpS X8.here hx rfl (hb hby at_155) rfl (v := (1 : Int32)) (k_ra.1) k) ?_
        show own_Run p e below s _ _ _ (T8.setTop (mkF m 156 #[.val (.int i0), .val (.int i1), .val (.double ta), .second, .val (.double tb), .second, .val (.double ra), .second, .val (.double rb), .second, .val (.int (1 : Int32)), .val (.int (1 : Int32))] [(.int (1 : Int32))]))
        refine own_st (fun t k => XS.ifNo X8.here hx rfl (hb hby at_156) rfl ((if0 _ _).trans (tlt (by decide : (0 : Int32) < (1 : Int32))).2.2.2) k) ?_
        show own_Run p e below s _ _ _ (T8.setTop (mkF m 159 #[.val (.int i0), .val (.int i1), .val (.double ta), .second, .val (.double tb), .second, .val (.double ra), .second, .val (.double rb), .second, .val (.int (1 : Int32)), .val (.int (1 : Int32))] []))
        refine own_st (fun t k => XS.dload X8.here hx rfl (hb hby at_159) rfl k) ?_
        show own_Run p e below s _ _ _ (T8.setTop (mkF m 161 #[.val (.int i0), .val (.int i1), .val (.double ta), .second, .val (.double tb), .second, .val (.double ra), .second, .val (.double rb), .second, .val (.int (1 : Int32)), .val (.int (1 : Int32))] [(.double rb)]))
        refine own_st (fun t k => XS.dconst0 X8.here hx rfl (hb hby at_161) (v := 0) rfl k) ?_
        show own_Run p e below s _ _ _ (T8.setTop (mkF m 162 #[.val (.int i0), .val (.int i1), .val (.double ta), .second, .val (.double tb), .second, .val (.double ra), .second, .val (.double rb), .second, .val (.int (1 : Int32)), .val (.int (1 : Int32))] [(.double (0 : UInt64)), (.double rb)]))
        refine own_st (fun t k => XS.dcmpS X8.here hx rfl (hb hby at_162) rfl (v := (1 : Int32)) (k_rb.1) k) ?_
        show own_Run p e below s _ _ _ (T8.setTop (mkF m 163 #[.val (.int i0), .val (.int i1), .val (.double ta), .second, .val (.double tb), .second, .val (.double ra), .second, .val (.double rb), .second, .val (.int (1 : Int32)), .val (.int (1 : Int32))] [(.int (1 : Int32))]))
        refine own_st (fun t k => XS.ifNo X8.here hx rfl (hb hby at_163) rfl ((if0 _ _).trans (tlt (by decide : (0 : Int32) < (1 : Int32))).2.2.2) k) ?_
        show own_Run p e below s _ _ _ (T8.setTop (mkF m 166 #[.val (.int i0), .val (.int i1), .val (.double ta), .second, .val (.double tb), .second, .val (.double ra), .second, .val (.double rb), .second, .val (.int (1 : Int32)), .val (.int (1 : Int32))] []))
        refine own_st (fun t k => XS.iconst X8.here hx rfl (hb hby at_166) k) ?_
        show own_Run p e below s _ _ _ (T8.setTop (mkF m 167 #[.val (.int i0), .val (.int i1), .val (.double ta), .second, .val (.double tb), .second, .val (.double ra), .second, .val (.double rb), .second, .val (.int (1 : Int32)), .val (.int (1 : Int32))] [(.int (1 : Int32))]))
        refine own_st (fun t k => XS.goto X8.here hx rfl (pc0 := 167) (pc' := 171) rfl (hb hby at_167) (by decide) (by decide) k) ?_
        show own_Run p e below s _ _ _ (T8.setTop (mkF m 171 #[.val (.int i0), .val (.int i1), .val (.double ta), .second, .val (.double tb), .second, .val (.double ra), .second, .val (.double rb), .second, .val (.int (1 : Int32)), .val (.int (1 : Int32))] [(.int (1 : Int32))]))
        exact own_ret X8 hx hlk (t := .boolean) hret rfl (Or.inl ⟨rfl, by simp, _, rfl⟩) (hb hby at_171) (by decide) (by decide) ⟨rfl, N8⟩
    · skip
      refine own_st (fun t k => XS.ifYes X2.here hx rfl (pc0 := 65) (pc' := 83) rfl (hb hby at_65) rfl ((if0 _ _).trans (flt (hGT : ¬ ((cmpValue (FP.dcmp tb ta) .g) < (0 : Int32)))).2.1) (by decide) (by decide) k) ?_
      show own_Run p e below s _ _ _ (T2.setTop (mkF m 83 #[.val (.int i0), .val (.int i1), .val (.double ta), .second, .val (.double tb), .second, .val (.double ra), .second, .val (.double rb), .second, .val (.int (1 : Int32)), .unset] []))
      refine own_st (fun t k => XS.dloadN X2.here hx rfl (hb hby at_83) rfl k) ?_
      show own_Run p e below s _ _ _ (T2.setTop (mkF m 84 #[.val (.int i0), .val (.int i1), .val (.double ta), .second, .val (.double tb), .second, .val (.double ra), .second, .val (.double rb), .second, .val (.int (1 : Int32)), .unset] [(.double ta)]))
      refine own_st (fun t k => XS.dload X2.here hx rfl (hb hby at_84) rfl k) ?_
      show own_Run p e below s _ _ _ (T2.setTop (mkF m 86 #[.val (.int i0), .val (.int i1), .val (.double ta), .second, .val (.double tb), .second, .val (.double ra), .second, .val (.double rb), .second, .val (.int (1 : Int32)), .unset] [(.double tb), (.double ta)]))
      refine own_st (fun t k => XS.dcmpS X2.here hx rfl (hb hby at_86) rfl (v := (cmpValue (FP.dcmp ta tb) .l)) (rfl) k) ?_
      show own_Run p e below s _ _ _ (T2.setTop (mkF m 87 #[.val (.int i0), .val (.int i1), .val (.double ta), .second, .val (.double tb), .second, .val (.double ra), .second, .val (.double rb), .second, .val (.int (1 : Int32)), .unset] [(.int (cmpValue (FP.dcmp ta tb) .l))]))
      by_cases hEQ : (cmpValue (FP.dcmp ta tb) .l) = (0 : Int32)
      · skip
        refine own_st (fun t k => XS.ifNo X2.here hx rfl (hb hby at_87) rfl ((if0 _ _).trans (teq (hEQ : (cmpValue (FP.dcmp ta tb) .l) = (0 : Int32))).2) k) ?_
        show own_Run p e below s _ _ _ (T2.setTop (mkF m 90 #[.val (.int i0), .val (.int i1), .val (.double ta), .second, .val (.double tb), .second, .val (.double ra), .second, .val (.double rb), .second, .val (.int (1 : Int32)), .unset] []))
        refine own_st (fun t k => XS.dload X2.here hx rfl (hb hby at_90) rfl k) ?_
        show own_Run p e below s _ _ _ (T2.setTop (mkF m 92 #[.val (.int i0), .val (.int i1), .val (.double ta), .second, .val (.double tb), .second, .val (.double ra), .second, .val (.double rb), .second, .val (.int (1 : Int32)), .unset] [(.double ra)]))
        refine own_st (fun t k => XS.dload X2.here hx rfl (hb hby at_92) rfl k) ?_
        show own_Run p e below s _ _ _ (T2.setTop (mkF m 94 #[.val (.int i0), .val (.int i1), .val (.double ta), .second, .val (.double tb), .second, .val (.double ra), .second, .val (.double rb), .second, .val (.int (1 : Int32)), .unset] [(.double rb), (.double ra)]))
        refine own_st (fun t k => XS.dcmpS X2.here hx rfl (hb hby at_94) rfl (v := (0 : Int32)) (own_sam r_xa r_xb h_ta h_tb h_ra h_rb hEQ) k) ?_
        show own_Run p e below s _ _ _ (T2.setTop (mkF m 95 #[.val (.int i0), .val (.int i1), .val (.double ta), .second, .val (.double tb), .second, .val (.double ra), .second, .val (.double rb), .second, .val (.int (1 : Int32)), .unset] [(.int (0 : Int32))]))
        refine own_st (fun t k => XS.ifNo X2.here hx rfl (hb hby at_95) rfl ((if0 _ _).trans (teq (by decide : (0 : Int32) = (0 : Int32))).2) k) ?_
        show own_Run p e below s _ _ _ (T2.setTop (mkF m 98 #[.val (.int i0), .val (.int i1), .val (.double ta), .second, .val (.double tb), .second, .val (.double ra), .second, .val (.double rb), .second, .val (.int (1 : Int32)), .unset] []))
        refine own_st (fun t k => XS.iconst X2.here hx rfl (hb hby at_98) k) ?_
        show own_Run p e below s _ _ _ (T2.setTop (mkF m 99 #[.val (.int i0), .val (.int i1), .val (.double ta), .second, .val (.double tb), .second, .val (.double ra), .second, .val (.double rb), .second, .val (.int (1 : Int32)), .unset] [(.int (1 : Int32))]))
        refine own_st (fun t k => XS.goto X2.here hx rfl (pc0 := 99) (pc' := 103) rfl (hb hby at_99) (by decide) (by decide) k) ?_
        show own_Run p e below s _ _ _ (T2.setTop (mkF m 103 #[.val (.int i0), .val (.int i1), .val (.double ta), .second, .val (.double tb), .second, .val (.double ra), .second, .val (.double rb), .second, .val (.int (1 : Int32)), .unset] [(.int (1 : Int32))]))
        refine own_st (fun t k => XS.istore X2.here hx rfl (hb hby at_103) rfl (l' := #[.val (.int i0), .val (.int i1), .val (.double ta), .second, .val (.double tb), .second, .val (.double ra), .second, .val (.double rb), .second, .val (.int (1 : Int32)), .unset]) rfl k) ?_
        show own_Run p e below s _ _ _ (T2.setTop (mkF m 105 #[.val (.int i0), .val (.int i1), .val (.double ta), .second, .val (.double tb), .second, .val (.double ra), .second, .val (.double rb), .second, .val (.int (1 : Int32)), .unset] []))
        refine own_st (X2.ldc2DoubleC hx hown (mvT hZ (hw _ (List.mem_of_getElem? (i := 7) rfl))) (g := (mkF m 105 #[.val (.int i0), .val (.int i1), .val (.double ta), .second, .val (.double tb), .second, .val (.double ra), .second, .val (.double rb), .second, .val (.int (1 : Int32)), .unset] [])) rfl (hb hby at_105)) ?_
        show own_Run p e below s _ _ _ (T2.setTop (mkF m 108 #[.val (.int i0), .val (.int i1), .val (.double ta), .second, .val (.double tb), .second, .val (.double ra), .second, .val (.double rb), .second, .val (.int (1 : Int32)), .unset] [(.double (13866884958664418918 : UInt64))]))
        refine own_callS X2 hx hZ (y := (⟨"com/example/helioslope/helioslope/longwave/Longwave", "blackbody", "(D)D"⟩ : MethodName)) hown (hw _ (List.mem_of_getElem? (i := 1) rfl)) (hw _ (List.mem_of_getElem? (i := 2) rfl)) (hw _ (List.mem_of_getElem? (i := 4) rfl)) (hw _ (List.mem_of_getElem? (i := 3) rfl)) (by decide) hh2 (argsL := [(.double (13866884958664418918 : UInt64))]) (rest := []) (W := 0) (own_rm1 l Z a0 hw [] (13866884958664418918 : UInt64) h0 n0 (Nat.le_trans Z0 K0.1) (by decide +kernel) (by decide +kernel) (by decide +kernel) (by decide +kernel) (by decide +kernel)) (by decide) (by decide) (by rw [hml]; rfl) (lenOf own_pd2 rfl) rfl (by exact Nat.le_of_eq rfl) (hb hby at_108) (by decide) (by decide) ?_
        intro T9 v9 L9 X9 hq9
        obtain ⟨rfl, N9q, hh9⟩ := hq9
        have N9 := Fr.app N2 N9q
        show own_Run p e below s _ _ _ (T9.setTop (mkF m 111 #[.val (.int i0), .val (.int i1), .val (.double ta), .second, .val (.double tb), .second, .val (.double ra), .second, .val (.double rb), .second, .val (.int (1 : Int32)), .unset] [(.double (FP.dmul (FP.dmul (FP.dmul (FP.dmul (4498657090234903196 : UInt64) (FP.dadd (13866884958664418918 : UInt64) (4643512921809643110 : UInt64))) (FP.dadd (13866884958664418918 : UInt64) (4643512921809643110 : UInt64))) (FP.dadd (13866884958664418918 : UInt64) (4643512921809643110 : UInt64))) (FP.dadd (13866884958664418918 : UInt64) (4643512921809643110 : UInt64))))]))
        obtain ⟨rz, h_rz⟩ : ∃ z, ((FP.dmul (FP.dmul (FP.dmul (FP.dmul (4498657090234903196 : UInt64) (FP.dadd (13866884958664418918 : UInt64) (4643512921809643110 : UInt64))) (FP.dadd (13866884958664418918 : UInt64) (4643512921809643110 : UInt64))) (FP.dadd (13866884958664418918 : UInt64) (4643512921809643110 : UInt64))) (FP.dadd (13866884958664418918 : UInt64) (4643512921809643110 : UInt64))) : UInt64) = z := ⟨_, rfl⟩
        refine own_topD h_rz ?_
        show own_Run p e below s _ _ _ (T9.setTop (mkF m 111 #[.val (.int i0), .val (.int i1), .val (.double ta), .second, .val (.double tb), .second, .val (.double ra), .second, .val (.double rb), .second, .val (.int (1 : Int32)), .unset] [(.double rz)]))
        refine own_st (fun t k => XS.dconst0 X9.here hx rfl (hb hby at_111) (v := 0) rfl k) ?_
        show own_Run p e below s _ _ _ (T9.setTop (mkF m 112 #[.val (.int i0), .val (.int i1), .val (.double ta), .second, .val (.double tb), .second, .val (.double ra), .second, .val (.double rb), .second, .val (.int (1 : Int32)), .unset] [(.double (0 : UInt64)), (.double rz)]))
        refine own_st (fun t k => XS.dcmpS X9.here hx rfl (hb hby at_112) rfl (v := (0 : Int32)) (by rw [← h_rz]; decide +kernel) k) ?_
        show own_Run p e below s _ _ _ (T9.setTop (mkF m 113 #[.val (.int i0), .val (.int i1), .val (.double ta), .second, .val (.double tb), .second, .val (.double ra), .second, .val (.double rb), .second, .val (.int (1 : Int32)), .unset] [(.int (0 : Int32))]))
        refine own_st (fun t k => XS.ifNo X9.here hx rfl (hb hby at_113) rfl ((if0 _ _).trans (teq (by decide : (0 : Int32) = (0 : Int32))).2) k) ?_
        show own_Run p e below s _ _ _ (T9.setTop (mkF m 116 #[.val (.int i0), .val (.int i1), .val (.double ta), .second, .val (.double tb), .second, .val (.double ra), .second, .val (.double rb), .second, .val (.int (1 : Int32)), .unset] []))
        refine own_st (fun t k => XS.iconst X9.here hx rfl (hb hby at_116) k) ?_
        show own_Run p e below s _ _ _ (T9.setTop (mkF m 117 #[.val (.int i0), .val (.int i1), .val (.double ta), .second, .val (.double tb), .second, .val (.double ra), .second, .val (.double rb), .second, .val (.int (1 : Int32)), .unset] [(.int (1 : Int32))]))
        refine own_st (fun t k => XS.goto X9.here hx rfl (pc0 := 117) (pc' := 121) rfl (hb hby at_117) (by decide) (by decide) k) ?_
        show own_Run p e below s _ _ _ (T9.setTop (mkF m 121 #[.val (.int i0), .val (.int i1), .val (.double ta), .second, .val (.double tb), .second, .val (.double ra), .second, .val (.double rb), .second, .val (.int (1 : Int32)), .unset] [(.int (1 : Int32))]))
        refine own_st (fun t k => XS.istore X9.here hx rfl (hb hby at_121) rfl (l' := #[.val (.int i0), .val (.int i1), .val (.double ta), .second, .val (.double tb), .second, .val (.double ra), .second, .val (.double rb), .second, .val (.int (1 : Int32)), .val (.int (1 : Int32))]) rfl k) ?_
        show own_Run p e below s _ _ _ (T9.setTop (mkF m 123 #[.val (.int i0), .val (.int i1), .val (.double ta), .second, .val (.double tb), .second, .val (.double ra), .second, .val (.double rb), .second, .val (.int (1 : Int32)), .val (.int (1 : Int32))] []))
        refine own_st (fun t k => XS.dloadN X9.here hx rfl (hb hby at_123) rfl k) ?_
        show own_Run p e below s _ _ _ (T9.setTop (mkF m 124 #[.val (.int i0), .val (.int i1), .val (.double ta), .second, .val (.double tb), .second, .val (.double ra), .second, .val (.double rb), .second, .val (.int (1 : Int32)), .val (.int (1 : Int32))] [(.double ta)]))
        refine own_st (fun t k => XS.dload X9.here hx rfl (hb hby at_124) rfl k) ?_
        show own_Run p e below s _ _ _ (T9.setTop (mkF m 126 #[.val (.int i0), .val (.int i1), .val (.double ta), .second, .val (.double tb), .second, .val (.double ra), .second, .val (.double rb), .second, .val (.int (1 : Int32)), .val (.int (1 : Int32))] [(.double ra), (.double ta)]))
        refine own_callS X9 hx hZ (y := (⟨"com/example/helioslope/helioslope/longwave/LongwaveBlackbodyPinLaw", "near", "(DD)Z"⟩ : MethodName)) hown (hw _ (List.mem_of_getElem? (i := 8) rfl)) (hw _ (List.mem_of_getElem? (i := 9) rfl)) (hw _ (List.mem_of_getElem? (i := 11) rfl)) (hw _ (List.mem_of_getElem? (i := 10) rfl)) (by decide) hh9 (argsL := [(.double ta), (.double ra)]) (rest := []) (W := 0) (own_rm2 l Z a0 hw [] ta ra h0 n0 (Nat.le_trans Z0 K0.1) (k_ra.2.1) (k_ra.2.2.1) (k_ra.2.2.2.1) (k_ra.2.2.2.2.1) (k_ra.2.2.2.2.2.1) (k_ra.2.2.2.2.2.2.1) (k_ra.2.2.2.2.2.2.2.1) (k_ra.2.2.2.2.2.2.2.2.1) (k_ra.2.2.2.2.2.2.2.2.2)) (by decide) (by decide) (by rw [hml]; rfl) (lenOf own_pd3 rfl) rfl (by exact Nat.le_of_eq rfl) (hb hby at_126) (by decide) (by decide) ?_
        intro T10 v10 L10 X10 hq10
        obtain ⟨rfl, N10q, hh10⟩ := hq10
        have N10 := Fr.app N9 N10q
        show own_Run p e below s _ _ _ (T10.setTop (mkF m 129 #[.val (.int i0), .val (.int i1), .val (.double ta), .second, .val (.double tb), .second, .val (.double ra), .second, .val (.double rb), .second, .val (.int (1 : Int32)), .val (.int (1 : Int32))] [(.int (1 : Int32))]))
        refine own_st (fun t k => XS.ifNo X10.here hx rfl (hb hby at_129) rfl ((if0 _ _).trans (feq (by decide : ¬ ((1 : Int32) = (0 : Int32)))).1) k) ?_
        show own_Run p e below s _ _ _ (T10.setTop (mkF m 132 #[.val (.int i0), .val (.int i1), .val (.double ta), .second, .val (.double tb), .second, .val (.double ra), .second, .val (.double rb), .second, .val (.int (1 : Int32)), .val (.int (1 : Int32))] []))
        refine own_st (fun t k => XS.dload X10.here hx rfl (hb hby at_132) rfl k) ?_
        show own_Run p e below s _ _ _ (T10.setTop (mkF m 134 #[.val (.int i0), .val (.int i1), .val (.double ta), .second, .val (.double tb), .second, .val (.double ra), .second, .val (.double rb), .second, .val (.int (1 : Int32)), .val (.int (1 : Int32))] [(.double tb)]))
        refine own_st (fun t k => XS.dload X10.here hx rfl (hb hby at_134) rfl k) ?_
        show own_Run p e below s _ _ _ (T10.setTop (mkF m 136 #[.val (.int i0), .val (.int i1), .val (.double ta), .second, .val (.double tb), .second, .val (.double ra), .second, .val (.double rb), .second, .val (.int (1 : Int32)), .val (.int (1 : Int32))] [(.double rb), (.double tb)]))
        refine own_callS X10 hx hZ (y := (⟨"com/example/helioslope/helioslope/longwave/LongwaveBlackbodyPinLaw", "near", "(DD)Z"⟩ : MethodName)) hown (hw _ (List.mem_of_getElem? (i := 8) rfl)) (hw _ (List.mem_of_getElem? (i := 9) rfl)) (hw _ (List.mem_of_getElem? (i := 11) rfl)) (hw _ (List.mem_of_getElem? (i := 10) rfl)) (by decide) hh10 (argsL := [(.double tb), (.double rb)]) (rest := []) (W := 0) (own_rm2 l Z a0 hw [] tb rb h0 n0 (Nat.le_trans Z0 K0.1) (k_rb.2.1) (k_rb.2.2.1) (k_rb.2.2.2.1) (k_rb.2.2.2.2.1) (k_rb.2.2.2.2.2.1) (k_rb.2.2.2.2.2.2.1) (k_rb.2.2.2.2.2.2.2.1) (k_rb.2.2.2.2.2.2.2.2.1) (k_rb.2.2.2.2.2.2.2.2.2)) (by decide) (by decide) (by rw [hml]; rfl) (lenOf own_pd3 rfl) rfl (by exact Nat.le_of_eq rfl) (hb hby at_136) (by decide) (by decide) ?_
        intro T11 v11 L11 X11 hq11
        obtain ⟨rfl, N11q, hh11⟩ := hq11
        have N11 := Fr.app N10 N11q
        show own_Run p e below s _ _ _ (T11.setTop (mkF m 139 #[.val (.int i0), .val (.int i1), .val (.double ta), .second, .val (.double tb), .second, .val (.double ra), .second, .val (.double rb), .second, .val (.int (1 : Int32)), .val (.int (1 : Int32))] [(.int (1 : Int32))]))
        refine own_st (fun t k => XS.ifNo X11.here hx rfl (hb hby at_139) rfl ((if0 _ _).trans (feq (by decide : ¬ ((1 : Int32) = (0 : Int32)))).1) k) ?_
        show own_Run p e below s _ _ _ (T11.setTop (mkF m 142 #[.val (.int i0), .val (.int i1), .val (.double ta), .second, .val (.double tb), .second, .val (.double ra), .second, .val (.double rb), .second, .val (.int (1 : Int32)), .val (.int (1 : Int32))] []))
        refine own_st (fun t k => XS.iload X11.here hx rfl (hb hby at_142) rfl k) ?_
        show own_Run p e below s _ _ _ (T11.setTop (mkF m 144 #[.val (.int i0), .val (.int i1), .val (.double ta), .second, .val (.double tb), .second, .val (.double ra), .second, .val (.double rb), .second, .val (.int (1 : Int32)), .val (.int (1 : Int32))] [(.int (1 : Int32))]))
        refine own_st (fun t k => XS.ifNo X11.here hx rfl (hb hby at_144) rfl ((if0 _ _).trans (feq (by decide : ¬ ((1 : Int32) = (0 : Int32)))).1) k) ?_
        show own_Run p e below s _ _ _ (T11.setTop (mkF m 147 #[.val (.int i0), .val (.int i1), .val (.double ta), .second, .val (.double tb), .second, .val (.double ra), .second, .val (.double rb), .second, .val (.int (1 : Int32)), .val (.int (1 : Int32))] []))
        refine own_st (fun t k => XS.iload X11.here hx rfl (hb hby at_147) rfl k) ?_
        show own_Run p e below s _ _ _ (T11.setTop (mkF m 149 #[.val (.int i0), .val (.int i1), .val (.double ta), .second, .val (.double tb), .second, .val (.double ra), .second, .val (.double rb), .second, .val (.int (1 : Int32)), .val (.int (1 : Int32))] [(.int (1 : Int32))]))
        refine own_st (fun t k => XS.ifNo X11.here hx rfl (hb hby at_149) rfl ((if0 _ _).trans (feq (by decide : ¬ ((1 : Int32) = (0 : Int32)))).1) k) ?_
        show own_Run p e below s _ _ _ (T11.setTop (mkF m 152 #[.val (.int i0), .val (.int i1), .val (.double ta), .second, .val (.double tb), .second, .val (.double ra), .second, .val (.double rb), .second, .val (.int (1 : Int32)), .val (.int (1 : Int32))] []))
        refine own_st (fun t k => XS.dload X11.here hx rfl (hb hby at_152) rfl k) ?_
        show own_Run p e below s _ _ _ (T11.setTop (mkF m 154 #[.val (.int i0), .val (.int i1), .val (.double ta), .second, .val (.double tb), .second, .val (.double ra), .second, .val (.double rb), .second, .val (.int (1 : Int32)), .val (.int (1 : Int32))] [(.double ra)]))
        refine own_st (fun t k => XS.dconst0 X11.here hx rfl (hb hby at_154) (v := 0) rfl k) ?_
        show own_Run p e below s _ _ _ (T11.setTop (mkF m 155 #[.val (.int i0), .val (.int i1), .val (.double ta), .second, .val (.double tb), .second, .val (.double ra), .second, .val (.double rb), .second, .val (.int (1 : Int32)), .val (.int (1 : Int32))] [(.double (0 : UInt64)), (.double ra)]))
        refine own_st (fun t k => XS.dcmpS X11.here hx rfl (hb hby at_155) rfl (v := (1 : Int32)) (k_ra.1) k) ?_
        show own_Run p e below s _ _ _ (T11.setTop (mkF m 156 #[.val (.int i0), .val (.int i1), .val (.double ta), .second, .val (.double tb), .second, .val (.double ra), .second, .val (.double rb), .second, .val (.int (1 : Int32)), .val (.int (1 : Int32))] [(.int (1 : Int32))]))
        refine own_st (fun t k => XS.ifNo X11.here hx rfl (hb hby at_156) rfl ((if0 _ _).trans (tlt (by decide : (0 : Int32) < (1 : Int32))).2.2.2) k) ?_
        show own_Run p e below s _ _ _ (T11.setTop (mkF m 159 #[.val (.int i0), .val (.int i1), .val (.double ta), .second, .val (.double tb), .second, .val (.double ra), .second, .val (.double rb), .second, .val (.int (1 : Int32)), .val (.int (1 : Int32))] []))
        refine own_st (fun t k => XS.dload X11.here hx rfl (hb hby at_159) rfl k) ?_
        show own_Run p e below s _ _ _ (T11.setTop (mkF m 161 #[.val (.int i0), .val (.int i1), .val (.double ta), .second, .val (.double tb), .second, .val (.double ra), .second, .val (.double rb), .second, .val (.int (1 : Int32)), .val (.int (1 : Int32))] [(.double rb)]))
        refine own_st (fun t k => XS.dconst0 X11.here hx rfl (hb hby at_161) (v := 0) rfl k) ?_
        show own_Run p e below s _ _ _ (T11.setTop (mkF m 162 #[.val (.int i0), .val (.int i1), .val (.double ta), .second, .val (.double tb), .second, .val (.double ra), .second, .val (.double rb), .second, .val (.int (1 : Int32)), .val (.int (1 : Int32))] [(.double (0 : UInt64)), (.double rb)]))
        refine own_st (fun t k => XS.dcmpS X11.here hx rfl (hb hby at_162) rfl (v := (1 : Int32)) (k_rb.1) k) ?_
        show own_Run p e below s _ _ _ (T11.setTop (mkF m 163 #[.val (.int i0), .val (.int i1), .val (.double ta), .second, .val (.double tb), .second, .val (.double ra), .second, .val (.double rb), .second, .val (.int (1 : Int32)), .val (.int (1 : Int32))] [(.int (1 : Int32))]))
        refine own_st (fun t k => XS.ifNo X11.here hx rfl (hb hby at_163) rfl ((if0 _ _).trans (tlt (by decide : (0 : Int32) < (1 : Int32))).2.2.2) k) ?_
        show own_Run p e below s _ _ _ (T11.setTop (mkF m 166 #[.val (.int i0), .val (.int i1), .val (.double ta), .second, .val (.double tb), .second, .val (.double ra), .second, .val (.double rb), .second, .val (.int (1 : Int32)), .val (.int (1 : Int32))] []))
        refine own_st (fun t k => XS.iconst X11.here hx rfl (hb hby at_166) k) ?_
        show own_Run p e below s _ _ _ (T11.setTop (mkF m 167 #[.val (.int i0), .val (.int i1), .val (.double ta), .second, .val (.double tb), .second, .val (.double ra), .second, .val (.double rb), .second, .val (.int (1 : Int32)), .val (.int (1 : Int32))] [(.int (1 : Int32))]))
        refine own_st (fun t k => XS.goto X11.here hx rfl (pc0 := 167) (pc' := 171) rfl (hb hby at_167) (by decide) (by decide) k) ?_
        show own_Run p e below s _ _ _ (T11.setTop (mkF m 171 #[.val (.int i0), .val (.int i1), .val (.double ta), .second, .val (.double tb), .second, .val (.double ra), .second, .val (.double rb), .second, .val (.int (1 : Int32)), .val (.int (1 : Int32))] [(.int (1 : Int32))]))
        exact own_ret X11 hx hlk (t := .boolean) hret rfl (Or.inl ⟨rfl, by simp, _, rfl⟩) (hb hby at_171) (by decide) (by decide) ⟨rfl, N11⟩
      · skip
        refine own_st (fun t k => XS.ifYes X2.here hx rfl (pc0 := 87) (pc' := 105) rfl (hb hby at_87) rfl ((if0 _ _).trans (feq (hEQ : ¬ ((cmpValue (FP.dcmp ta tb) .l) = (0 : Int32)))).2) (by decide) (by decide) k) ?_
        show own_Run p e below s _ _ _ (T2.setTop (mkF m 105 #[.val (.int i0), .val (.int i1), .val (.double ta), .second, .val (.double tb), .second, .val (.double ra), .second, .val (.double rb), .second, .val (.int (1 : Int32)), .unset] []))
        refine own_st (X2.ldc2DoubleC hx hown (mvT hZ (hw _ (List.mem_of_getElem? (i := 7) rfl))) (g := (mkF m 105 #[.val (.int i0), .val (.int i1), .val (.double ta), .second, .val (.double tb), .second, .val (.double ra), .second, .val (.double rb), .second, .val (.int (1 : Int32)), .unset] [])) rfl (hb hby at_105)) ?_
        show own_Run p e below s _ _ _ (T2.setTop (mkF m 108 #[.val (.int i0), .val (.int i1), .val (.double ta), .second, .val (.double tb), .second, .val (.double ra), .second, .val (.double rb), .second, .val (.int (1 : Int32)), .unset] [(.double (13866884958664418918 : UInt64))]))
        refine own_callS X2 hx hZ (y := (⟨"com/example/helioslope/helioslope/longwave/Longwave", "blackbody", "(D)D"⟩ : MethodName)) hown (hw _ (List.mem_of_getElem? (i := 1) rfl)) (hw _ (List.mem_of_getElem? (i := 2) rfl)) (hw _ (List.mem_of_getElem? (i := 4) rfl)) (hw _ (List.mem_of_getElem? (i := 3) rfl)) (by decide) hh2 (argsL := [(.double (13866884958664418918 : UInt64))]) (rest := []) (W := 0) (own_rm1 l Z a0 hw [] (13866884958664418918 : UInt64) h0 n0 (Nat.le_trans Z0 K0.1) (by decide +kernel) (by decide +kernel) (by decide +kernel) (by decide +kernel) (by decide +kernel)) (by decide) (by decide) (by rw [hml]; rfl) (lenOf own_pd2 rfl) rfl (by exact Nat.le_of_eq rfl) (hb hby at_108) (by decide) (by decide) ?_
        intro T12 v12 L12 X12 hq12
        obtain ⟨rfl, N12q, hh12⟩ := hq12
        have N12 := Fr.app N2 N12q
        show own_Run p e below s _ _ _ (T12.setTop (mkF m 111 #[.val (.int i0), .val (.int i1), .val (.double ta), .second, .val (.double tb), .second, .val (.double ra), .second, .val (.double rb), .second, .val (.int (1 : Int32)), .unset] [(.double (FP.dmul (FP.dmul (FP.dmul (FP.dmul (4498657090234903196 : UInt64) (FP.dadd (13866884958664418918 : UInt64) (4643512921809643110 : UInt64))) (FP.dadd (13866884958664418918 : UInt64) (4643512921809643110 : UInt64))) (FP.dadd (13866884958664418918 : UInt64) (4643512921809643110 : UInt64))) (FP.dadd (13866884958664418918 : UInt64) (4643512921809643110 : UInt64))))]))
        obtain ⟨rz, h_rz⟩ : ∃ z, ((FP.dmul (FP.dmul (FP.dmul (FP.dmul (4498657090234903196 : UInt64) (FP.dadd (13866884958664418918 : UInt64) (4643512921809643110 : UInt64))) (FP.dadd (13866884958664418918 : UInt64) (4643512921809643110 : UInt64))) (FP.dadd (13866884958664418918 : UInt64) (4643512921809643110 : UInt64))) (FP.dadd (13866884958664418918 : UInt64) (4643512921809643110 : UInt64))) : UInt64) = z := ⟨_, rfl⟩
        refine own_topD h_rz ?_
        show own_Run p e below s _ _ _ (T12.setTop (mkF m 111 #[.val (.int i0), .val (.int i1), .val (.double ta), .second, .val (.double tb), .second, .val (.double ra), .second, .val (.double rb), .second, .val (.int (1 : Int32)), .unset] [(.double rz)]))
        refine own_st (fun t k => XS.dconst0 X12.here hx rfl (hb hby at_111) (v := 0) rfl k) ?_
        show own_Run p e below s _ _ _ (T12.setTop (mkF m 112 #[.val (.int i0), .val (.int i1), .val (.double ta), .second, .val (.double tb), .second, .val (.double ra), .second, .val (.double rb), .second, .val (.int (1 : Int32)), .unset] [(.double (0 : UInt64)), (.double rz)]))
        refine own_st (fun t k => XS.dcmpS X12.here hx rfl (hb hby at_112) rfl (v := (0 : Int32)) (by rw [← h_rz]; decide +kernel) k) ?_
        show own_Run p e below s _ _ _ (T12.setTop (mkF m 113 #[.val (.int i0), .val (.int i1), .val (.double ta), .second, .val (.double tb), .second, .val (.double ra), .second, .val (.double rb), .second, .val (.int (1 : Int32)), .unset] [(.int (0 : Int32))]))
        refine own_st (fun t k => XS.ifNo X12.here hx rfl (hb hby at_113) rfl ((if0 _ _).trans (teq (by decide : (0 : Int32) = (0 : Int32))).2) k) ?_
        show own_Run p e below s _ _ _ (T12.setTop (mkF m 116 #[.val (.int i0), .val (.int i1), .val (.double ta), .second, .val (.double tb), .second, .val (.double ra), .second, .val (.double rb), .second, .val (.int (1 : Int32)), .unset] []))
        refine own_st (fun t k => XS.iconst X12.here hx rfl (hb hby at_116) k) ?_
        show own_Run p e below s _ _ _ (T12.setTop (mkF m 117 #[.val (.int i0), .val (.int i1), .val (.double ta), .second, .val (.double tb), .second, .val (.double ra), .second, .val (.double rb), .second, .val (.int (1 : Int32)), .unset] [(.int (1 : Int32))]))
        refine own_st (fun t k => XS.goto X12.here hx rfl (pc0 := 117) (pc' := 121) rfl (hb hby at_117) (by decide) (by decide) k) ?_
        show own_Run p e below s _ _ _ (T12.setTop (mkF m 121 #[.val (.int i0), .val (.int i1), .val (.double ta), .second, .val (.double tb), .second, .val (.double ra), .second, .val (.double rb), .second, .val (.int (1 : Int32)), .unset] [(.int (1 : Int32))]))
        refine own_st (fun t k => XS.istore X12.here hx rfl (hb hby at_121) rfl (l' := #[.val (.int i0), .val (.int i1), .val (.double ta), .second, .val (.double tb), .second, .val (.double ra), .second, .val (.double rb), .second, .val (.int (1 : Int32)), .val (.int (1 : Int32))]) rfl k) ?_
        show own_Run p e below s _ _ _ (T12.setTop (mkF m 123 #[.val (.int i0), .val (.int i1), .val (.double ta), .second, .val (.double tb), .second, .val (.double ra), .second, .val (.double rb), .second, .val (.int (1 : Int32)), .val (.int (1 : Int32))] []))
        refine own_st (fun t k => XS.dloadN X12.here hx rfl (hb hby at_123) rfl k) ?_
        show own_Run p e below s _ _ _ (T12.setTop (mkF m 124 #[.val (.int i0), .val (.int i1), .val (.double ta), .second, .val (.double tb), .second, .val (.double ra), .second, .val (.double rb), .second, .val (.int (1 : Int32)), .val (.int (1 : Int32))] [(.double ta)]))
        refine own_st (fun t k => XS.dload X12.here hx rfl (hb hby at_124) rfl k) ?_
        show own_Run p e below s _ _ _ (T12.setTop (mkF m 126 #[.val (.int i0), .val (.int i1), .val (.double ta), .second, .val (.double tb), .second, .val (.double ra), .second, .val (.double rb), .second, .val (.int (1 : Int32)), .val (.int (1 : Int32))] [(.double ra), (.double ta)]))
        refine own_callS X12 hx hZ (y := (⟨"com/example/helioslope/helioslope/longwave/LongwaveBlackbodyPinLaw", "near", "(DD)Z"⟩ : MethodName)) hown (hw _ (List.mem_of_getElem? (i := 8) rfl)) (hw _ (List.mem_of_getElem? (i := 9) rfl)) (hw _ (List.mem_of_getElem? (i := 11) rfl)) (hw _ (List.mem_of_getElem? (i := 10) rfl)) (by decide) hh12 (argsL := [(.double ta), (.double ra)]) (rest := []) (W := 0) (own_rm2 l Z a0 hw [] ta ra h0 n0 (Nat.le_trans Z0 K0.1) (k_ra.2.1) (k_ra.2.2.1) (k_ra.2.2.2.1) (k_ra.2.2.2.2.1) (k_ra.2.2.2.2.2.1) (k_ra.2.2.2.2.2.2.1) (k_ra.2.2.2.2.2.2.2.1) (k_ra.2.2.2.2.2.2.2.2.1) (k_ra.2.2.2.2.2.2.2.2.2)) (by decide) (by decide) (by rw [hml]; rfl) (lenOf own_pd3 rfl) rfl (by exact Nat.le_of_eq rfl) (hb hby at_126) (by decide) (by decide) ?_
        intro T13 v13 L13 X13 hq13
        obtain ⟨rfl, N13q, hh13⟩ := hq13
        have N13 := Fr.app N12 N13q
        show own_Run p e below s _ _ _ (T13.setTop (mkF m 129 #[.val (.int i0), .val (.int i1), .val (.double ta), .second, .val (.double tb), .second, .val (.double ra), .second, .val (.double rb), .second, .val (.int (1 : Int32)), .val (.int (1 : Int32))] [(.int (1 : Int32))]))
        refine own_st (fun t k => XS.ifNo X13.here hx rfl (hb hby at_129) rfl ((if0 _ _).trans (feq (by decide : ¬ ((1 : Int32) = (0 : Int32)))).1) k) ?_
        show own_Run p e below s _ _ _ (T13.setTop (mkF m 132 #[.val (.int i0), .val (.int i1), .val (.double ta), .second, .val (.double tb), .second, .val (.double ra), .second, .val (.double rb), .second, .val (.int (1 : Int32)), .val (.int (1 : Int32))] []))
        refine own_st (fun t k => XS.dload X13.here hx rfl (hb hby at_132) rfl k) ?_
        show own_Run p e below s _ _ _ (T13.setTop (mkF m 134 #[.val (.int i0), .val (.int i1), .val (.double ta), .second, .val (.double tb), .second, .val (.double ra), .second, .val (.double rb), .second, .val (.int (1 : Int32)), .val (.int (1 : Int32))] [(.double tb)]))
        refine own_st (fun t k => XS.dload X13.here hx rfl (hb hby at_134) rfl k) ?_
        show own_Run p e below s _ _ _ (T13.setTop (mkF m 136 #[.val (.int i0), .val (.int i1), .val (.double ta), .second, .val (.double tb), .second, .val (.double ra), .second, .val (.double rb), .second, .val (.int (1 : Int32)), .val (.int (1 : Int32))] [(.double rb), (.double tb)]))
        refine own_callS X13 hx hZ (y := (⟨"com/example/helioslope/helioslope/longwave/LongwaveBlackbodyPinLaw", "near", "(DD)Z"⟩ : MethodName)) hown (hw _ (List.mem_of_getElem? (i := 8) rfl)) (hw _ (List.mem_of_getElem? (i := 9) rfl)) (hw _ (List.mem_of_getElem? (i := 11) rfl)) (hw _ (List.mem_of_getElem? (i := 10) rfl)) (by decide) hh13 (argsL := [(.double tb), (.double rb)]) (rest := []) (W := 0) (own_rm2 l Z a0 hw [] tb rb h0 n0 (Nat.le_trans Z0 K0.1) (k_rb.2.1) (k_rb.2.2.1) (k_rb.2.2.2.1) (k_rb.2.2.2.2.1) (k_rb.2.2.2.2.2.1) (k_rb.2.2.2.2.2.2.1) (k_rb.2.2.2.2.2.2.2.1) (k_rb.2.2.2.2.2.2.2.2.1) (k_rb.2.2.2.2.2.2.2.2.2)) (by decide) (by decide) (by rw [hml]; rfl) (lenOf own_pd3 rfl) rfl (by exact Nat.le_of_eq rfl) (hb hby at_136) (by decide) (by decide) ?_
        intro T14 v14 L14 X14 hq14
        obtain ⟨rfl, N14q, hh14⟩ := hq14
        have N14 := Fr.app N13 N14q
        show own_Run p e below s _ _ _ (T14.setTop (mkF m 139 #[.val (.int i0), .val (.int i1), .val (.double ta), .second, .val (.double tb), .second, .val (.double ra), .second, .val (.double rb), .second, .val (.int (1 : Int32)), .val (.int (1 : Int32))] [(.int (1 : Int32))]))
        refine own_st (fun t k => XS.ifNo X14.here hx rfl (hb hby at_139) rfl ((if0 _ _).trans (feq (by decide : ¬ ((1 : Int32) = (0 : Int32)))).1) k) ?_
        show own_Run p e below s _ _ _ (T14.setTop (mkF m 142 #[.val (.int i0), .val (.int i1), .val (.double ta), .second, .val (.double tb), .second, .val (.double ra), .second, .val (.double rb), .second, .val (.int (1 : Int32)), .val (.int (1 : Int32))] []))
        refine own_st (fun t k => XS.iload X14.here hx rfl (hb hby at_142) rfl k) ?_
        show own_Run p e below s _ _ _ (T14.setTop (mkF m 144 #[.val (.int i0), .val (.int i1), .val (.double ta), .second, .val (.double tb), .second, .val (.double ra), .second, .val (.double rb), .second, .val (.int (1 : Int32)), .val (.int (1 : Int32))] [(.int (1 : Int32))]))
        refine own_st (fun t k => XS.ifNo X14.here hx rfl (hb hby at_144) rfl ((if0 _ _).trans (feq (by decide : ¬ ((1 : Int32) = (0 : Int32)))).1) k) ?_
        show own_Run p e below s _ _ _ (T14.setTop (mkF m 147 #[.val (.int i0), .val (.int i1), .val (.double ta), .second, .val (.double tb), .second, .val (.double ra), .second, .val (.double rb), .second, .val (.int (1 : Int32)), .val (.int (1 : Int32))] []))
        refine own_st (fun t k => XS.iload X14.here hx rfl (hb hby at_147) rfl k) ?_
        show own_Run p e below s _ _ _ (T14.setTop (mkF m 149 #[.val (.int i0), .val (.int i1), .val (.double ta), .second, .val (.double tb), .second, .val (.double ra), .second, .val (.double rb), .second, .val (.int (1 : Int32)), .val (.int (1 : Int32))] [(.int (1 : Int32))]))
        refine own_st (fun t k => XS.ifNo X14.here hx rfl (hb hby at_149) rfl ((if0 _ _).trans (feq (by decide : ¬ ((1 : Int32) = (0 : Int32)))).1) k) ?_
        show own_Run p e below s _ _ _ (T14.setTop (mkF m 152 #[.val (.int i0), .val (.int i1), .val (.double ta), .second, .val (.double tb), .second, .val (.double ra), .second, .val (.double rb), .second, .val (.int (1 : Int32)), .val (.int (1 : Int32))] []))
        refine own_st (fun t k => XS.dload X14.here hx rfl (hb hby at_152) rfl k) ?_
        show own_Run p e below s _ _ _ (T14.setTop (mkF m 154 #[.val (.int i0), .val (.int i1), .val (.double ta), .second, .val (.double tb), .second, .val (.double ra), .second, .val (.double rb), .second, .val (.int (1 : Int32)), .val (.int (1 : Int32))] [(.double ra)]))
        refine own_st (fun t k => XS.dconst0 X14.here hx rfl (hb hby at_154) (v := 0) rfl k) ?_
        show own_Run p e below s _ _ _ (T14.setTop (mkF m 155 #[.val (.int i0), .val (.int i1), .val (.double ta), .second, .val (.double tb), .second, .val (.double ra), .second, .val (.double rb), .second, .val (.int (1 : Int32)), .val (.int (1 : Int32))] [(.double (0 : UInt64)), (.double ra)]))
        refine own_st (fun t k => XS.dcmpS X14.here hx rfl (hb hby at_155) rfl (v := (1 : Int32)) (k_ra.1) k) ?_
        show own_Run p e below s _ _ _ (T14.setTop (mkF m 156 #[.val (.int i0), .val (.int i1), .val (.double ta), .second, .val (.double tb), .second, .val (.double ra), .second, .val (.double rb), .second, .val (.int (1 : Int32)), .val (.int (1 : Int32))] [(.int (1 : Int32))]))
        refine own_st (fun t k => XS.ifNo X14.here hx rfl (hb hby at_156) rfl ((if0 _ _).trans (tlt (by decide : (0 : Int32) < (1 : Int32))).2.2.2) k) ?_
        show own_Run p e below s _ _ _ (T14.setTop (mkF m 159 #[.val (.int i0), .val (.int i1), .val (.double ta), .second, .val (.double tb), .second, .val (.double ra), .second, .val (.double rb), .second, .val (.int (1 : Int32)), .val (.int (1 : Int32))] []))
        refine own_st (fun t k => XS.dload X14.here hx rfl (hb hby at_159) rfl k) ?_
        show own_Run p e below s _ _ _ (T14.setTop (mkF m 161 #[.val (.int i0), .val (.int i1), .val (.double ta), .second, .val (.double tb), .second, .val (.double ra), .second, .val (.double rb), .second, .val (.int (1 : Int32)), .val (.int (1 : Int32))] [(.double rb)]))
        refine own_st (fun t k => XS.dconst0 X14.here hx rfl (hb hby at_161) (v := 0) rfl k) ?_
        show own_Run p e below s _ _ _ (T14.setTop (mkF m 162 #[.val (.int i0), .val (.int i1), .val (.double ta), .second, .val (.double tb), .second, .val (.double ra), .second, .val (.double rb), .second, .val (.int (1 : Int32)), .val (.int (1 : Int32))] [(.double (0 : UInt64)), (.double rb)]))
        refine own_st (fun t k => XS.dcmpS X14.here hx rfl (hb hby at_162) rfl (v := (1 : Int32)) (k_rb.1) k) ?_
        show own_Run p e below s _ _ _ (T14.setTop (mkF m 163 #[.val (.int i0), .val (.int i1), .val (.double ta), .second, .val (.double tb), .second, .val (.double ra), .second, .val (.double rb), .second, .val (.int (1 : Int32)), .val (.int (1 : Int32))] [(.int (1 : Int32))]))
        refine own_st (fun t k => XS.ifNo X14.here hx rfl (hb hby at_163) rfl ((if0 _ _).trans (tlt (by decide : (0 : Int32) < (1 : Int32))).2.2.2) k) ?_
        show own_Run p e below s _ _ _ (T14.setTop (mkF m 166 #[.val (.int i0), .val (.int i1), .val (.double ta), .second, .val (.double tb), .second, .val (.double ra), .second, .val (.double rb), .second, .val (.int (1 : Int32)), .val (.int (1 : Int32))] []))
        refine own_st (fun t k => XS.iconst X14.here hx rfl (hb hby at_166) k) ?_
        show own_Run p e below s _ _ _ (T14.setTop (mkF m 167 #[.val (.int i0), .val (.int i1), .val (.double ta), .second, .val (.double tb), .second, .val (.double ra), .second, .val (.double rb), .second, .val (.int (1 : Int32)), .val (.int (1 : Int32))] [(.int (1 : Int32))]))
        refine own_st (fun t k => XS.goto X14.here hx rfl (pc0 := 167) (pc' := 171) rfl (hb hby at_167) (by decide) (by decide) k) ?_
        show own_Run p e below s _ _ _ (T14.setTop (mkF m 171 #[.val (.int i0), .val (.int i1), .val (.double ta), .second, .val (.double tb), .second, .val (.double ra), .second, .val (.double rb), .second, .val (.int (1 : Int32)), .val (.int (1 : Int32))] [(.int (1 : Int32))]))
        exact own_ret X14 hx hlk (t := .boolean) hret rfl (Or.inl ⟨rfl, by simp, _, rfl⟩) (hb hby at_171) (by decide) (by decide) ⟨rfl, N14⟩
  · skip
    refine own_st (fun t k => XS.ifYes X2.here hx rfl (pc0 := 43) (pc' := 61) rfl (hb hby at_43) rfl ((if0 _ _).trans (flt (hLT : ¬ ((cmpValue (FP.dcmp ta tb) .g) < (0 : Int32)))).2.1) (by decide) (by decide) k) ?_
    show own_Run p e below s _ _ _ (T2.setTop (mkF m 61 #[.val (.int i0), .val (.int i1), .val (.double ta), .second, .val (.double tb), .second, .val (.double ra), .second, .val (.double rb), .second, .val (.int (1 : Int32)), .unset] []))
    refine own_st (fun t k => XS.dload X2.here hx rfl (hb hby at_61) rfl k) ?_
    show own_Run p e below s _ _ _ (T2.setTop (mkF m 63 #[.val (.int i0), .val (.int i1), .val (.double ta), .second, .val (.double tb), .second, .val (.double ra), .second, .val (.double rb), .second, .val (.int (1 : Int32)), .unset] [(.double tb)]))
    refine own_st (fun t k => XS.dloadN X2.here hx rfl (hb hby at_63) rfl k) ?_
    show own_Run p e below s _ _ _ (T2.setTop (mkF m 64 #[.val (.int i0), .val (.int i1), .val (.double ta), .second, .val (.double tb), .second, .val (.double ra), .second, .val (.double rb), .second, .val (.int (1 : Int32)), .unset] [(.double ta), (.double tb)]))
    refine own_st (fun t k => XS.dcmpS X2.here hx rfl (hb hby at_64) rfl (v := (cmpValue (FP.dcmp tb ta) .g)) (rfl) k) ?_
    show own_Run p e below s _ _ _ (T2.setTop (mkF m 65 #[.val (.int i0), .val (.int i1), .val (.double ta), .second, .val (.double tb), .second, .val (.double ra), .second, .val (.double rb), .second, .val (.int (1 : Int32)), .unset] [(.int (cmpValue (FP.dcmp tb ta) .g))]))
    by_cases hGT : (cmpValue (FP.dcmp tb ta) .g) < (0 : Int32)
    · skip
      refine own_st (fun t k => XS.ifNo X2.here hx rfl (hb hby at_65) rfl ((if0 _ _).trans (tlt (hGT : (cmpValue (FP.dcmp tb ta) .g) < (0 : Int32))).2.1) k) ?_
      show own_Run p e below s _ _ _ (T2.setTop (mkF m 68 #[.val (.int i0), .val (.int i1), .val (.double ta), .second, .val (.double tb), .second, .val (.double ra), .second, .val (.double rb), .second, .val (.int (1 : Int32)), .unset] []))
      refine own_st (fun t k => XS.dload X2.here hx rfl (hb hby at_68) rfl k) ?_
      show own_Run p e below s _ _ _ (T2.setTop (mkF m 70 #[.val (.int i0), .val (.int i1), .val (.double ta), .second, .val (.double tb), .second, .val (.double ra), .second, .val (.double rb), .second, .val (.int (1 : Int32)), .unset] [(.double rb)]))
      refine own_st (fun t k => XS.dload X2.here hx rfl (hb hby at_70) rfl k) ?_
      show own_Run p e below s _ _ _ (T2.setTop (mkF m 72 #[.val (.int i0), .val (.int i1), .val (.double ta), .second, .val (.double tb), .second, .val (.double ra), .second, .val (.double rb), .second, .val (.int (1 : Int32)), .unset] [(.double ra), (.double rb)]))
      refine own_st (fun t k => XS.dcmpS X2.here hx rfl (hb hby at_72) rfl (v := (cmpValue (FP.dcmp rb ra) .g)) (rfl) k) ?_
      show own_Run p e below s _ _ _ (T2.setTop (mkF m 73 #[.val (.int i0), .val (.int i1), .val (.double ta), .second, .val (.double tb), .second, .val (.double ra), .second, .val (.double rb), .second, .val (.int (1 : Int32)), .unset] [(.int (cmpValue (FP.dcmp rb ra) .g))]))
      refine own_st (fun t k => XS.ifNo X2.here hx rfl (hb hby at_73) rfl ((if0 _ _).trans (flt (own_mono r_xb r_xa h_tb h_ta h_rb h_ra hGT : ¬ ((0 : Int32) < (cmpValue (FP.dcmp rb ra) .g)))).2.2.1) k) ?_
      show own_Run p e below s _ _ _ (T2.setTop (mkF m 76 #[.val (.int i0), .val (.int i1), .val (.double ta), .second, .val (.double tb), .second, .val (.double ra), .second, .val (.double rb), .second, .val (.int (1 : Int32)), .unset] []))
      refine own_st (fun t k => XS.iconst X2.here hx rfl (hb hby at_76) k) ?_
      show own_Run p e below s _ _ _ (T2.setTop (mkF m 77 #[.val (.int i0), .val (.int i1), .val (.double ta), .second, .val (.double tb), .second, .val (.double ra), .second, .val (.double rb), .second, .val (.int (1 : Int32)), .unset] [(.int (1 : Int32))]))
      refine own_st (fun t k => XS.goto X2.here hx rfl (pc0 := 77) (pc' := 81) rfl (hb hby at_77) (by decide) (by decide) k) ?_
      show own_Run p e below s _ _ _ (T2.setTop (mkF m 81 #[.val (.int i0), .val (.int i1), .val (.double ta), .second, .val (.double tb), .second, .val (.double ra), .second, .val (.double rb), .second, .val (.int (1 : Int32)), .unset] [(.int (1 : Int32))]))
      refine own_st (fun t k => XS.istore X2.here hx rfl (hb hby at_81) rfl (l' := #[.val (.int i0), .val (.int i1), .val (.double ta), .second, .val (.double tb), .second, .val (.double ra), .second, .val (.double rb), .second, .val (.int (1 : Int32)), .unset]) rfl k) ?_
      show own_Run p e below s _ _ _ (T2.setTop (mkF m 83 #[.val (.int i0), .val (.int i1), .val (.double ta), .second, .val (.double tb), .second, .val (.double ra), .second, .val (.double rb), .second, .val (.int (1 : Int32)), .unset] []))
      refine own_st (fun t k => XS.dloadN X2.here hx rfl (hb hby at_83) rfl k) ?_
      show own_Run p e below s _ _ _ (T2.setTop (mkF m 84 #[.val (.int i0), .val (.int i1), .val (.double ta), .second, .val (.double tb), .second, .val (.double ra), .second, .val (.double rb), .second, .val (.int (1 : Int32)), .unset] [(.double ta)]))
      refine own_st (fun t k => XS.dload X2.here hx rfl (hb hby at_84) rfl k) ?_
      show own_Run p e below s _ _ _ (T2.setTop (mkF m 86 #[.val (.int i0), .val (.int i1), .val (.double ta), .second, .val (.double tb), .second, .val (.double ra), .second, .val (.double rb), .second, .val (.int (1 : Int32)), .unset] [(.double tb), (.double ta)]))
      refine own_st (fun t k => XS.dcmpS X2.here hx rfl (hb hby at_86) rfl (v := (cmpValue (FP.dcmp ta tb) .l)) (rfl) k) ?_
      show own_Run p e below s _ _ _ (T2.setTop (mkF m 87 #[.val (.int i0), .val (.int i1), .val (.double ta), .second, .val (.double tb), .second, .val (.double ra), .second, .val (.double rb), .second, .val (.int (1 : Int32)), .unset] [(.int (cmpValue (FP.dcmp ta tb) .l))]))
      by_cases hEQ : (cmpValue (FP.dcmp ta tb) .l) = (0 : Int32)
      · skip
        refine own_st (fun t k => XS.ifNo X2.here hx rfl (hb hby at_87) rfl ((if0 _ _).trans (teq (hEQ : (cmpValue (FP.dcmp ta tb) .l) = (0 : Int32))).2) k) ?_
        show own_Run p e below s _ _ _ (T2.setTop (mkF m 90 #[.val (.int i0), .val (.int i1), .val (.double ta), .second, .val (.double tb), .second, .val (.double ra), .second, .val (.double rb), .second, .val (.int (1 : Int32)), .unset] []))
        refine own_st (fun t k => XS.dload X2.here hx rfl (hb hby at_90) rfl k) ?_
        show own_Run p e below s _ _ _ (T2.setTop (mkF m 92 #[.val (.int i0), .val (.int i1), .val (.double ta), .second, .val (.double tb), .second, .val (.double ra), .second, .val (.double rb), .second, .val (.int (1 : Int32)), .unset] [(.double ra)]))
        refine own_st (fun t k => XS.dload X2.here hx rfl (hb hby at_92) rfl k) ?_
        show own_Run p e below s _ _ _ (T2.setTop (mkF m 94 #[.val (.int i0), .val (.int i1), .val (.double ta), .second, .val (.double tb), .second, .val (.double ra), .second, .val (.double rb), .second, .val (.int (1 : Int32)), .unset] [(.double rb), (.double ra)]))
        refine own_st (fun t k => XS.dcmpS X2.here hx rfl (hb hby at_94) rfl (v := (0 : Int32)) (own_sam r_xa r_xb h_ta h_tb h_ra h_rb hEQ) k) ?_
        show own_Run p e below s _ _ _ (T2.setTop (mkF m 95 #[.val (.int i0), .val (.int i1), .val (.double ta), .second, .val (.double tb), .second, .val (.double ra), .second, .val (.double rb), .second, .val (.int (1 : Int32)), .unset] [(.int (0 : Int32))]))
        refine own_st (fun t k => XS.ifNo X2.here hx rfl (hb hby at_95) rfl ((if0 _ _).trans (teq (by decide : (0 : Int32) = (0 : Int32))).2) k) ?_
        show own_Run p e below s _ _ _ (T2.setTop (mkF m 98 #[.val (.int i0), .val (.int i1), .val (.double ta), .second, .val (.double tb), .second, .val (.double ra), .second, .val (.double rb), .second, .val (.int (1 : Int32)), .unset] []))
        refine own_st (fun t k => XS.iconst X2.here hx rfl (hb hby at_98) k) ?_
        show own_Run p e below s _ _ _ (T2.setTop (mkF m 99 #[.val (.int i0), .val (.int i1), .val (.double ta), .second, .val (.double tb), .second, .val (.double ra), .second, .val (.double rb), .second, .val (.int (1 : Int32)), .unset] [(.int (1 : Int32))]))
        refine own_st (fun t k => XS.goto X2.here hx rfl (pc0 := 99) (pc' := 103) rfl (hb hby at_99) (by decide) (by decide) k) ?_
        show own_Run p e below s _ _ _ (T2.setTop (mkF m 103 #[.val (.int i0), .val (.int i1), .val (.double ta), .second, .val (.double tb), .second, .val (.double ra), .second, .val (.double rb), .second, .val (.int (1 : Int32)), .unset] [(.int (1 : Int32))]))
        refine own_st (fun t k => XS.istore X2.here hx rfl (hb hby at_103) rfl (l' := #[.val (.int i0), .val (.int i1), .val (.double ta), .second, .val (.double tb), .second, .val (.double ra), .second, .val (.double rb), .second, .val (.int (1 : Int32)), .unset]) rfl k) ?_
        show own_Run p e below s _ _ _ (T2.setTop (mkF m 105 #[.val (.int i0), .val (.int i1), .val (.double ta), .second, .val (.double tb), .second, .val (.double ra), .second, .val (.double rb), .second, .val (.int (1 : Int32)), .unset] []))
        refine own_st (X2.ldc2DoubleC hx hown (mvT hZ (hw _ (List.mem_of_getElem? (i := 7) rfl))) (g := (mkF m 105 #[.val (.int i0), .val (.int i1), .val (.double ta), .second, .val (.double tb), .second, .val (.double ra), .second, .val (.double rb), .second, .val (.int (1 : Int32)), .unset] [])) rfl (hb hby at_105)) ?_
        show own_Run p e below s _ _ _ (T2.setTop (mkF m 108 #[.val (.int i0), .val (.int i1), .val (.double ta), .second, .val (.double tb), .second, .val (.double ra), .second, .val (.double rb), .second, .val (.int (1 : Int32)), .unset] [(.double (13866884958664418918 : UInt64))]))
        refine own_callS X2 hx hZ (y := (⟨"com/example/helioslope/helioslope/longwave/Longwave", "blackbody", "(D)D"⟩ : MethodName)) hown (hw _ (List.mem_of_getElem? (i := 1) rfl)) (hw _ (List.mem_of_getElem? (i := 2) rfl)) (hw _ (List.mem_of_getElem? (i := 4) rfl)) (hw _ (List.mem_of_getElem? (i := 3) rfl)) (by decide) hh2 (argsL := [(.double (13866884958664418918 : UInt64))]) (rest := []) (W := 0) (own_rm1 l Z a0 hw [] (13866884958664418918 : UInt64) h0 n0 (Nat.le_trans Z0 K0.1) (by decide +kernel) (by decide +kernel) (by decide +kernel) (by decide +kernel) (by decide +kernel)) (by decide) (by decide) (by rw [hml]; rfl) (lenOf own_pd2 rfl) rfl (by exact Nat.le_of_eq rfl) (hb hby at_108) (by decide) (by decide) ?_
        intro T15 v15 L15 X15 hq15
        obtain ⟨rfl, N15q, hh15⟩ := hq15
        have N15 := Fr.app N2 N15q
        show own_Run p e below s _ _ _ (T15.setTop (mkF m 111 #[.val (.int i0), .val (.int i1), .val (.double ta), .second, .val (.double tb), .second, .val (.double ra), .second, .val (.double rb), .second, .val (.int (1 : Int32)), .unset] [(.double (FP.dmul (FP.dmul (FP.dmul (FP.dmul (4498657090234903196 : UInt64) (FP.dadd (13866884958664418918 : UInt64) (4643512921809643110 : UInt64))) (FP.dadd (13866884958664418918 : UInt64) (4643512921809643110 : UInt64))) (FP.dadd (13866884958664418918 : UInt64) (4643512921809643110 : UInt64))) (FP.dadd (13866884958664418918 : UInt64) (4643512921809643110 : UInt64))))]))
        obtain ⟨rz, h_rz⟩ : ∃ z, ((FP.dmul (FP.dmul (FP.dmul (FP.dmul (4498657090234903196 : UInt64) (FP.dadd (13866884958664418918 : UInt64) (4643512921809643110 : UInt64))) (FP.dadd (13866884958664418918 : UInt64) (4643512921809643110 : UInt64))) (FP.dadd (13866884958664418918 : UInt64) (4643512921809643110 : UInt64))) (FP.dadd (13866884958664418918 : UInt64) (4643512921809643110 : UInt64))) : UInt64) = z := ⟨_, rfl⟩
        refine own_topD h_rz ?_
        show own_Run p e below s _ _ _ (T15.setTop (mkF m 111 #[.val (.int i0), .val (.int i1), .val (.double ta), .second, .val (.double tb), .second, .val (.double ra), .second, .val (.double rb), .second, .val (.int (1 : Int32)), .unset] [(.double rz)]))
        refine own_st (fun t k => XS.dconst0 X15.here hx rfl (hb hby at_111) (v := 0) rfl k) ?_
        show own_Run p e below s _ _ _ (T15.setTop (mkF m 112 #[.val (.int i0), .val (.int i1), .val (.double ta), .second, .val (.double tb), .second, .val (.double ra), .second, .val (.double rb), .second, .val (.int (1 : Int32)), .unset] [(.double (0 : UInt64)), (.double rz)]))
        refine own_st (fun t k => XS.dcmpS X15.here hx rfl (hb hby at_112) rfl (v := (0 : Int32)) (by rw [← h_rz]; decide +kernel) k) ?_
        show own_Run p e below s _ _ _ (T15.setTop (mkF m 113 #[.val (.int i0), .val (.int i1), .val (.double ta), .second, .val (.double tb), .second, .val (.double ra), .second, .val (.double rb), .second, .val (.int (1 : Int32)), .unset] [(.int (0 : Int32))]))
        refine own_st (fun t k => XS.ifNo X15.here hx rfl (hb hby at_113) rfl ((if0 _ _).trans (teq (by decide : (0 : Int32) = (0 : Int32))).2) k) ?_
        show own_Run p e below s _ _ _ (T15.setTop (mkF m 116 #[.val (.int i0), .val (.int i1), .val (.double ta), .second, .val (.double tb), .second, .val (.double ra), .second, .val (.double rb), .second, .val (.int (1 : Int32)), .unset] []))
        refine own_st (fun t k => XS.iconst X15.here hx rfl (hb hby at_116) k) ?_
        show own_Run p e below s _ _ _ (T15.setTop (mkF m 117 #[.val (.int i0), .val (.int i1), .val (.double ta), .second, .val (.double tb), .second, .val (.double ra), .second, .val (.double rb), .second, .val (.int (1 : Int32)), .unset] [(.int (1 : Int32))]))
        refine own_st (fun t k => XS.goto X15.here hx rfl (pc0 := 117) (pc' := 121) rfl (hb hby at_117) (by decide) (by decide) k) ?_
        show own_Run p e below s _ _ _ (T15.setTop (mkF m 121 #[.val (.int i0), .val (.int i1), .val (.double ta), .second, .val (.double tb), .second, .val (.double ra), .second, .val (.double rb), .second, .val (.int (1 : Int32)), .unset] [(.int (1 : Int32))]))
        refine own_st (fun t k => XS.istore X15.here hx rfl (hb hby at_121) rfl (l' := #[.val (.int i0), .val (.int i1), .val (.double ta), .second, .val (.double tb), .second, .val (.double ra), .second, .val (.double rb), .second, .val (.int (1 : Int32)), .val (.int (1 : Int32))]) rfl k) ?_
        show own_Run p e below s _ _ _ (T15.setTop (mkF m 123 #[.val (.int i0), .val (.int i1), .val (.double ta), .second, .val (.double tb), .second, .val (.double ra), .second, .val (.double rb), .second, .val (.int (1 : Int32)), .val (.int (1 : Int32))] []))
        refine own_st (fun t k => XS.dloadN X15.here hx rfl (hb hby at_123) rfl k) ?_
        show own_Run p e below s _ _ _ (T15.setTop (mkF m 124 #[.val (.int i0), .val (.int i1), .val (.double ta), .second, .val (.double tb), .second, .val (.double ra), .second, .val (.double rb), .second, .val (.int (1 : Int32)), .val (.int (1 : Int32))] [(.double ta)]))
        refine own_st (fun t k => XS.dload X15.here hx rfl (hb hby at_124) rfl k) ?_
        show own_Run p e below s _ _ _ (T15.setTop (mkF m 126 #[.val (.int i0), .val (.int i1), .val (.double ta), .second, .val (.double tb), .second, .val (.double ra), .second, .val (.double rb), .second, .val (.int (1 : Int32)), .val (.int (1 : Int32))] [(.double ra), (.double ta)]))
        refine own_callS X15 hx hZ (y := (⟨"com/example/helioslope/helioslope/longwave/LongwaveBlackbodyPinLaw", "near", "(DD)Z"⟩ : MethodName)) hown (hw _ (List.mem_of_getElem? (i := 8) rfl)) (hw _ (List.mem_of_getElem? (i := 9) rfl)) (hw _ (List.mem_of_getElem? (i := 11) rfl)) (hw _ (List.mem_of_getElem? (i := 10) rfl)) (by decide) hh15 (argsL := [(.double ta), (.double ra)]) (rest := []) (W := 0) (own_rm2 l Z a0 hw [] ta ra h0 n0 (Nat.le_trans Z0 K0.1) (k_ra.2.1) (k_ra.2.2.1) (k_ra.2.2.2.1) (k_ra.2.2.2.2.1) (k_ra.2.2.2.2.2.1) (k_ra.2.2.2.2.2.2.1) (k_ra.2.2.2.2.2.2.2.1) (k_ra.2.2.2.2.2.2.2.2.1) (k_ra.2.2.2.2.2.2.2.2.2)) (by decide) (by decide) (by rw [hml]; rfl) (lenOf own_pd3 rfl) rfl (by exact Nat.le_of_eq rfl) (hb hby at_126) (by decide) (by decide) ?_
        intro T16 v16 L16 X16 hq16
        obtain ⟨rfl, N16q, hh16⟩ := hq16
        have N16 := Fr.app N15 N16q
        show own_Run p e below s _ _ _ (T16.setTop (mkF m 129 #[.val (.int i0), .val (.int i1), .val (.double ta), .second, .val (.double tb), .second, .val (.double ra), .second, .val (.double rb), .second, .val (.int (1 : Int32)), .val (.int (1 : Int32))] [(.int (1 : Int32))]))
        refine own_st (fun t k => XS.ifNo X16.here hx rfl (hb hby at_129) rfl ((if0 _ _).trans (feq (by decide : ¬ ((1 : Int32) = (0 : Int32)))).1) k) ?_
        show own_Run p e below s _ _ _ (T16.setTop (mkF m 132 #[.val (.int i0), .val (.int i1), .val (.double ta), .second, .val (.double tb), .second, .val (.double ra), .second, .val (.double rb), .second, .val (.int (1 : Int32)), .val (.int (1 : Int32))] []))
        refine own_st (fun t k => XS.dload X16.here hx rfl (hb hby at_132) rfl k) ?_
        show own_Run p e below s _ _ _ (T16.setTop (mkF m 134 #[.val (.int i0), .val (.int i1), .val (.double ta), .second, .val (.double tb), .second, .val (.double ra), .second, .val (.double rb), .second, .val (.int (1 : Int32)), .val (.int (1 : Int32))] [(.double tb)]))
        refine own_st (fun t k => XS.dload X16.here hx rfl (hb hby at_134) rfl k) ?_
        show own_Run p e below s _ _ _ (T16.setTop (mkF m 136 #[.val (.int i0), .val (.int i1), .val (.double ta), .second, .val (.double tb), .second, .val (.double ra), .second, .val (.double rb), .second, .val (.int (1 : Int32)), .val (.int (1 : Int32))] [(.double rb), (.double tb)]))
        refine own_callS X16 hx hZ (y := (⟨"com/example/helioslope/helioslope/longwave/LongwaveBlackbodyPinLaw", "near", "(DD)Z"⟩ : MethodName)) hown (hw _ (List.mem_of_getElem? (i := 8) rfl)) (hw _ (List.mem_of_getElem? (i := 9) rfl)) (hw _ (List.mem_of_getElem? (i := 11) rfl)) (hw _ (List.mem_of_getElem? (i := 10) rfl)) (by decide) hh16 (argsL := [(.double tb), (.double rb)]) (rest := []) (W := 0) (own_rm2 l Z a0 hw [] tb rb h0 n0 (Nat.le_trans Z0 K0.1) (k_rb.2.1) (k_rb.2.2.1) (k_rb.2.2.2.1) (k_rb.2.2.2.2.1) (k_rb.2.2.2.2.2.1) (k_rb.2.2.2.2.2.2.1) (k_rb.2.2.2.2.2.2.2.1) (k_rb.2.2.2.2.2.2.2.2.1) (k_rb.2.2.2.2.2.2.2.2.2)) (by decide) (by decide) (by rw [hml]; rfl) (lenOf own_pd3 rfl) rfl (by exact Nat.le_of_eq rfl) (hb hby at_136) (by decide) (by decide) ?_
        intro T17 v17 L17 X17 hq17
        obtain ⟨rfl, N17q, hh17⟩ := hq17
        have N17 := Fr.app N16 N17q
        show own_Run p e below s _ _ _ (T17.setTop (mkF m 139 #[.val (.int i0), .val (.int i1), .val (.double ta), .second, .val (.double tb), .second, .val (.double ra), .second, .val (.double rb), .second, .val (.int (1 : Int32)), .val (.int (1 : Int32))] [(.int (1 : Int32))]))
        refine own_st (fun t k => XS.ifNo X17.here hx rfl (hb hby at_139) rfl ((if0 _ _).trans (feq (by decide : ¬ ((1 : Int32) = (0 : Int32)))).1) k) ?_
        show own_Run p e below s _ _ _ (T17.setTop (mkF m 142 #[.val (.int i0), .val (.int i1), .val (.double ta), .second, .val (.double tb), .second, .val (.double ra), .second, .val (.double rb), .second, .val (.int (1 : Int32)), .val (.int (1 : Int32))] []))
        refine own_st (fun t k => XS.iload X17.here hx rfl (hb hby at_142) rfl k) ?_
        show own_Run p e below s _ _ _ (T17.setTop (mkF m 144 #[.val (.int i0), .val (.int i1), .val (.double ta), .second, .val (.double tb), .second, .val (.double ra), .second, .val (.double rb), .second, .val (.int (1 : Int32)), .val (.int (1 : Int32))] [(.int (1 : Int32))]))
        refine own_st (fun t k => XS.ifNo X17.here hx rfl (hb hby at_144) rfl ((if0 _ _).trans (feq (by decide : ¬ ((1 : Int32) = (0 : Int32)))).1) k) ?_
        show own_Run p e below s _ _ _ (T17.setTop (mkF m 147 #[.val (.int i0), .val (.int i1), .val (.double ta), .second, .val (.double tb), .second, .val (.double ra), .second, .val (.double rb), .second, .val (.int (1 : Int32)), .val (.int (1 : Int32))] []))
        refine own_st (fun t k => XS.iload X17.here hx rfl (hb hby at_147) rfl k) ?_
        show own_Run p e below s _ _ _ (T17.setTop (mkF m 149 #[.val (.int i0), .val (.int i1), .val (.double ta), .second, .val (.double tb), .second, .val (.double ra), .second, .val (.double rb), .second, .val (.int (1 : Int32)), .val (.int (1 : Int32))] [(.int (1 : Int32))]))
        refine own_st (fun t k => XS.ifNo X17.here hx rfl (hb hby at_149) rfl ((if0 _ _).trans (feq (by decide : ¬ ((1 : Int32) = (0 : Int32)))).1) k) ?_
        show own_Run p e below s _ _ _ (T17.setTop (mkF m 152 #[.val (.int i0), .val (.int i1), .val (.double ta), .second, .val (.double tb), .second, .val (.double ra), .second, .val (.double rb), .second, .val (.int (1 : Int32)), .val (.int (1 : Int32))] []))
        refine own_st (fun t k => XS.dload X17.here hx rfl (hb hby at_152) rfl k) ?_
        show own_Run p e below s _ _ _ (T17.setTop (mkF m 154 #[.val (.int i0), .val (.int i1), .val (.double ta), .second, .val (.double tb), .second, .val (.double ra), .second, .val (.double rb), .second, .val (.int (1 : Int32)), .val (.int (1 : Int32))] [(.double ra)]))
        refine own_st (fun t k => XS.dconst0 X17.here hx rfl (hb hby at_154) (v := 0) rfl k) ?_
        show own_Run p e below s _ _ _ (T17.setTop (mkF m 155 #[.val (.int i0), .val (.int i1), .val (.double ta), .second, .val (.double tb), .second, .val (.double ra), .second, .val (.double rb), .second, .val (.int (1 : Int32)), .val (.int (1 : Int32))] [(.double (0 : UInt64)), (.double ra)]))
        refine own_st (fun t k => XS.dcmpS X17.here hx rfl (hb hby at_155) rfl (v := (1 : Int32)) (k_ra.1) k) ?_
        show own_Run p e below s _ _ _ (T17.setTop (mkF m 156 #[.val (.int i0), .val (.int i1), .val (.double ta), .second, .val (.double tb), .second, .val (.double ra), .second, .val (.double rb), .second, .val (.int (1 : Int32)), .val (.int (1 : Int32))] [(.int (1 : Int32))]))
        refine own_st (fun t k => XS.ifNo X17.here hx rfl (hb hby at_156) rfl ((if0 _ _).trans (tlt (by decide : (0 : Int32) < (1 : Int32))).2.2.2) k) ?_
        show own_Run p e below s _ _ _ (T17.setTop (mkF m 159 #[.val (.int i0), .val (.int i1), .val (.double ta), .second, .val (.double tb), .second, .val (.double ra), .second, .val (.double rb), .second, .val (.int (1 : Int32)), .val (.int (1 : Int32))] []))
        refine own_st (fun t k => XS.dload X17.here hx rfl (hb hby at_159) rfl k) ?_
        show own_Run p e below s _ _ _ (T17.setTop (mkF m 161 #[.val (.int i0), .val (.int i1), .val (.double ta), .second, .val (.double tb), .second, .val (.double ra), .second, .val (.double rb), .second, .val (.int (1 : Int32)), .val (.int (1 : Int32))] [(.double rb)]))
        refine own_st (fun t k => XS.dconst0 X17.here hx rfl (hb hby at_161) (v := 0) rfl k) ?_
        show own_Run p e below s _ _ _ (T17.setTop (mkF m 162 #[.val (.int i0), .val (.int i1), .val (.double ta), .second, .val (.double tb), .second, .val (.double ra), .second, .val (.double rb), .second, .val (.int (1 : Int32)), .val (.int (1 : Int32))] [(.double (0 : UInt64)), (.double rb)]))
        refine own_st (fun t k => XS.dcmpS X17.here hx rfl (hb hby at_162) rfl (v := (1 : Int32)) (k_rb.1) k) ?_
        show own_Run p e below s _ _ _ (T17.setTop (mkF m 163 #[.val (.int i0), .val (.int i1), .val (.double ta), .second, .val (.double tb), .second, .val (.double ra), .second, .val (.double rb), .second, .val (.int (1 : Int32)), .val (.int (1 : Int32))] [(.int (1 : Int32))]))
        refine own_st (fun t k => XS.ifNo X17.here hx rfl (hb hby at_163) rfl ((if0 _ _).trans (tlt (by decide : (0 : Int32) < (1 : Int32))).2.2.2) k) ?_
        show own_Run p e below s _ _ _ (T17.setTop (mkF m 166 #[.val (.int i0), .val (.int i1), .val (.double ta), .second, .val (.double tb), .second, .val (.double ra), .second, .val (.double rb), .second, .val (.int (1 : Int32)), .val (.int (1 : Int32))] []))
        refine own_st (fun t k => XS.iconst X17.here hx rfl (hb hby at_166) k) ?_
        show own_Run p e below s _ _ _ (T17.setTop (mkF m 167 #[.val (.int i0), .val (.int i1), .val (.double ta), .second, .val (.double tb), .second, .val (.double ra), .second, .val (.double rb), .second, .val (.int (1 : Int32)), .val (.int (1 : Int32))] [(.int (1 : Int32))]))
        refine own_st (fun t k => XS.goto X17.here hx rfl (pc0 := 167) (pc' := 171) rfl (hb hby at_167) (by decide) (by decide) k) ?_
        show own_Run p e below s _ _ _ (T17.setTop (mkF m 171 #[.val (.int i0), .val (.int i1), .val (.double ta), .second, .val (.double tb), .second, .val (.double ra), .second, .val (.double rb), .second, .val (.int (1 : Int32)), .val (.int (1 : Int32))] [(.int (1 : Int32))]))
        exact own_ret X17 hx hlk (t := .boolean) hret rfl (Or.inl ⟨rfl, by simp, _, rfl⟩) (hb hby at_171) (by decide) (by decide) ⟨rfl, N17⟩
      · skip
        refine own_st (fun t k => XS.ifYes X2.here hx rfl (pc0 := 87) (pc' := 105) rfl (hb hby at_87) rfl ((if0 _ _).trans (feq (hEQ : ¬ ((cmpValue (FP.dcmp ta tb) .l) = (0 : Int32)))).2) (by decide) (by decide) k) ?_
        show own_Run p e below s _ _ _ (T2.setTop (mkF m 105 #[.val (.int i0), .val (.int i1), .val (.double ta), .second, .val (.double tb), .second, .val (.double ra), .second, .val (.double rb), .second, .val (.int (1 : Int32)), .unset] []))
        refine own_st (X2.ldc2DoubleC hx hown (mvT hZ (hw _ (List.mem_of_getElem? (i := 7) rfl))) (g := (mkF m 105 #[.val (.int i0), .val (.int i1), .val (.double ta), .second, .val (.double tb), .second, .val (.double ra), .second, .val (.double rb), .second, .val (.int (1 : Int32)), .unset] [])) rfl (hb hby at_105)) ?_
        show own_Run p e below s _ _ _ (T2.setTop (mkF m 108 #[.val (.int i0), .val (.int i1), .val (.double ta), .second, .val (.double tb), .second, .val (.double ra), .second, .val (.double rb), .second, .val (.int (1 : Int32)), .unset] [(.double (13866884958664418918 : UInt64))]))
        refine own_callS X2 hx hZ (y := (⟨"com/example/helioslope/helioslope/longwave/Longwave", "blackbody", "(D)D"⟩ : MethodName)) hown (hw _ (List.mem_of_getElem? (i := 1) rfl)) (hw _ (List.mem_of_getElem? (i := 2) rfl)) (hw _ (List.mem_of_getElem? (i := 4) rfl)) (hw _ (List.mem_of_getElem? (i := 3) rfl)) (by decide) hh2 (argsL := [(.double (13866884958664418918 : UInt64))]) (rest := []) (W := 0) (own_rm1 l Z a0 hw [] (13866884958664418918 : UInt64) h0 n0 (Nat.le_trans Z0 K0.1) (by decide +kernel) (by decide +kernel) (by decide +kernel) (by decide +kernel) (by decide +kernel)) (by decide) (by decide) (by rw [hml]; rfl) (lenOf own_pd2 rfl) rfl (by exact Nat.le_of_eq rfl) (hb hby at_108) (by decide) (by decide) ?_
        intro T18 v18 L18 X18 hq18
        obtain ⟨rfl, N18q, hh18⟩ := hq18
        have N18 := Fr.app N2 N18q
        show own_Run p e below s _ _ _ (T18.setTop (mkF m 111 #[.val (.int i0), .val (.int i1), .val (.double ta), .second, .val (.double tb), .second, .val (.double ra), .second, .val (.double rb), .second, .val (.int (1 : Int32)), .unset] [(.double (FP.dmul (FP.dmul (FP.dmul (FP.dmul (4498657090234903196 : UInt64) (FP.dadd (13866884958664418918 : UInt64) (4643512921809643110 : UInt64))) (FP.dadd (13866884958664418918 : UInt64) (4643512921809643110 : UInt64))) (FP.dadd (13866884958664418918 : UInt64) (4643512921809643110 : UInt64))) (FP.dadd (13866884958664418918 : UInt64) (4643512921809643110 : UInt64))))]))
        obtain ⟨rz, h_rz⟩ : ∃ z, ((FP.dmul (FP.dmul (FP.dmul (FP.dmul (4498657090234903196 : UInt64) (FP.dadd (13866884958664418918 : UInt64) (4643512921809643110 : UInt64))) (FP.dadd (13866884958664418918 : UInt64) (4643512921809643110 : UInt64))) (FP.dadd (13866884958664418918 : UInt64) (4643512921809643110 : UInt64))) (FP.dadd (13866884958664418918 : UInt64) (4643512921809643110 : UInt64))) : UInt64) = z := ⟨_, rfl⟩
        refine own_topD h_rz ?_
        show own_Run p e below s _ _ _ (T18.setTop (mkF m 111 #[.val (.int i0), .val (.int i1), .val (.double ta), .second, .val (.double tb), .second, .val (.double ra), .second, .val (.double rb), .second, .val (.int (1 : Int32)), .unset] [(.double rz)]))
        refine own_st (fun t k => XS.dconst0 X18.here hx rfl (hb hby at_111) (v := 0) rfl k) ?_
        show own_Run p e below s _ _ _ (T18.setTop (mkF m 112 #[.val (.int i0), .val (.int i1), .val (.double ta), .second, .val (.double tb), .second, .val (.double ra), .second, .val (.double rb), .second, .val (.int (1 : Int32)), .unset] [(.double (0 : UInt64)), (.double rz)]))
        refine own_st (fun t k => XS.dcmpS X18.here hx rfl (hb hby at_112) rfl (v := (0 : Int32)) (by rw [← h_rz]; decide +kernel) k) ?_
        show own_Run p e below s _ _ _ (T18.setTop (mkF m 113 #[.val (.int i0), .val (.int i1), .val (.double ta), .second, .val (.double tb), .second, .val (.double ra), .second, .val (.double rb), .second, .val (.int (1 : Int32)), .unset] [(.int (0 : Int32))]))
        refine own_st (fun t k => XS.ifNo X18.here hx rfl (hb hby at_113) rfl ((if0 _ _).trans (teq (by decide : (0 : Int32) = (0 : Int32))).2) k) ?_
        show own_Run p e below s _ _ _ (T18.setTop (mkF m 116 #[.val (.int i0), .val (.int i1), .val (.double ta), .second, .val (.double tb), .second, .val (.double ra), .second, .val (.double rb), .second, .val (.int (1 : Int32)), .unset] []))
        refine own_st (fun t k => XS.iconst X18.here hx rfl (hb hby at_116) k) ?_
        show own_Run p e below s _ _ _ (T18.setTop (mkF m 117 #[.val (.int i0), .val (.int i1), .val (.double ta), .second, .val (.double tb), .second, .val (.double ra), .second, .val (.double rb), .second, .val (.int (1 : Int32)), .unset] [(.int (1 : Int32))]))
        refine own_st (fun t k => XS.goto X18.here hx rfl (pc0 := 117) (pc' := 121) rfl (hb hby at_117) (by decide) (by decide) k) ?_
        show own_Run p e below s _ _ _ (T18.setTop (mkF m 121 #[.val (.int i0), .val (.int i1), .val (.double ta), .second, .val (.double tb), .second, .val (.double ra), .second, .val (.double rb), .second, .val (.int (1 : Int32)), .unset] [(.int (1 : Int32))]))
        refine own_st (fun t k => XS.istore X18.here hx rfl (hb hby at_121) rfl (l' := #[.val (.int i0), .val (.int i1), .val (.double ta), .second, .val (.double tb), .second, .val (.double ra), .second, .val (.double rb), .second, .val (.int (1 : Int32)), .val (.int (1 : Int32))]) rfl k) ?_
        show own_Run p e below s _ _ _ (T18.setTop (mkF m 123 #[.val (.int i0), .val (.int i1), .val (.double ta), .second, .val (.double tb), .second, .val (.double ra), .second, .val (.double rb), .second, .val (.int (1 : Int32)), .val (.int (1 : Int32))] []))
        refine own_st (fun t k => XS.dloadN X18.here hx rfl (hb hby at_123) rfl k) ?_
        show own_Run p e below s _ _ _ (T18.setTop (mkF m 124 #[.val (.int i0), .val (.int i1), .val (.double ta), .second, .val (.double tb), .second, .val (.double ra), .second, .val (.double rb), .second, .val (.int (1 : Int32)), .val (.int (1 : Int32))] [(.double ta)]))
        refine own_st (fun t k => XS.dload X18.here hx rfl (hb hby at_124) rfl k) ?_
        show own_Run p e below s _ _ _ (T18.setTop (mkF m 126 #[.val (.int i0), .val (.int i1), .val (.double ta), .second, .val (.double tb), .second, .val (.double ra), .second, .val (.double rb), .second, .val (.int (1 : Int32)), .val (.int (1 : Int32))] [(.double ra), (.double ta)]))
        refine own_callS X18 hx hZ (y := (⟨"com/example/helioslope/helioslope/longwave/LongwaveBlackbodyPinLaw", "near", "(DD)Z"⟩ : MethodName)) hown (hw _ (List.mem_of_getElem? (i := 8) rfl)) (hw _ (List.mem_of_getElem? (i := 9) rfl)) (hw _ (List.mem_of_getElem? (i := 11) rfl)) (hw _ (List.mem_of_getElem? (i := 10) rfl)) (by decide) hh18 (argsL := [(.double ta), (.double ra)]) (rest := []) (W := 0) (own_rm2 l Z a0 hw [] ta ra h0 n0 (Nat.le_trans Z0 K0.1) (k_ra.2.1) (k_ra.2.2.1) (k_ra.2.2.2.1) (k_ra.2.2.2.2.1) (k_ra.2.2.2.2.2.1) (k_ra.2.2.2.2.2.2.1) (k_ra.2.2.2.2.2.2.2.1) (k_ra.2.2.2.2.2.2.2.2.1) (k_ra.2.2.2.2.2.2.2.2.2)) (by decide) (by decide) (by rw [hml]; rfl) (lenOf own_pd3 rfl) rfl (by exact Nat.le_of_eq rfl) (hb hby at_126) (by decide) (by decide) ?_
        intro T19 v19 L19 X19 hq19
        obtain ⟨rfl, N19q, hh19⟩ := hq19
        have N19 := Fr.app N18 N19q
        show own_Run p e below s _ _ _ (T19.setTop (mkF m 129 #[.val (.int i0), .val (.int i1), .val (.double ta), .second, .val (.double tb), .second, .val (.double ra), .second, .val (.double rb), .second, .val (.int (1 : Int32)), .val (.int (1 : Int32))] [(.int (1 : Int32))]))
        refine own_st (fun t k => XS.ifNo X19.here hx rfl (hb hby at_129) rfl ((if0 _ _).trans (feq (by decide : ¬ ((1 : Int32) = (0 : Int32)))).1) k) ?_
        show own_Run p e below s _ _ _ (T19.setTop (mkF m 132 #[.val (.int i0), .val (.int i1), .val (.double ta), .second, .val (.double tb), .second, .val (.double ra), .second, .val (.double rb), .second, .val (.int (1 : Int32)), .val (.int (1 : Int32))] []))
        refine own_st (fun t k => XS.dload X19.here hx rfl (hb hby at_132) rfl k) ?_
        show own_Run p e below s _ _ _ (T19.setTop (mkF m 134 #[.val (.int i0), .val (.int i1), .val (.double ta), .second, .val (.double tb), .second, .val (.double ra), .second, .val (.double rb), .second, .val (.int (1 : Int32)), .val (.int (1 : Int32))] [(.double tb)]))
        refine own_st (fun t k => XS.dload X19.here hx rfl (hb hby at_134) rfl k) ?_
        show own_Run p e below s _ _ _ (T19.setTop (mkF m 136 #[.val (.int i0), .val (.int i1), .val (.double ta), .second, .val (.double tb), .second, .val (.double ra), .second, .val (.double rb), .second, .val (.int (1 : Int32)), .val (.int (1 : Int32))] [(.double rb), (.double tb)]))
        refine own_callS X19 hx hZ (y := (⟨"com/example/helioslope/helioslope/longwave/LongwaveBlackbodyPinLaw", "near", "(DD)Z"⟩ : MethodName)) hown (hw _ (List.mem_of_getElem? (i := 8) rfl)) (hw _ (List.mem_of_getElem? (i := 9) rfl)) (hw _ (List.mem_of_getElem? (i := 11) rfl)) (hw _ (List.mem_of_getElem? (i := 10) rfl)) (by decide) hh19 (argsL := [(.double tb), (.double rb)]) (rest := []) (W := 0) (own_rm2 l Z a0 hw [] tb rb h0 n0 (Nat.le_trans Z0 K0.1) (k_rb.2.1) (k_rb.2.2.1) (k_rb.2.2.2.1) (k_rb.2.2.2.2.1) (k_rb.2.2.2.2.2.1) (k_rb.2.2.2.2.2.2.1) (k_rb.2.2.2.2.2.2.2.1) (k_rb.2.2.2.2.2.2.2.2.1) (k_rb.2.2.2.2.2.2.2.2.2)) (by decide) (by decide) (by rw [hml]; rfl) (lenOf own_pd3 rfl) rfl (by exact Nat.le_of_eq rfl) (hb hby at_136) (by decide) (by decide) ?_
        intro T20 v20 L20 X20 hq20
        obtain ⟨rfl, N20q, hh20⟩ := hq20
        have N20 := Fr.app N19 N20q
        show own_Run p e below s _ _ _ (T20.setTop (mkF m 139 #[.val (.int i0), .val (.int i1), .val (.double ta), .second, .val (.double tb), .second, .val (.double ra), .second, .val (.double rb), .second, .val (.int (1 : Int32)), .val (.int (1 : Int32))] [(.int (1 : Int32))]))
        refine own_st (fun t k => XS.ifNo X20.here hx rfl (hb hby at_139) rfl ((if0 _ _).trans (feq (by decide : ¬ ((1 : Int32) = (0 : Int32)))).1) k) ?_
        show own_Run p e below s _ _ _ (T20.setTop (mkF m 142 #[.val (.int i0), .val (.int i1), .val (.double ta), .second, .val (.double tb), .second, .val (.double ra), .second, .val (.double rb), .second, .val (.int (1 : Int32)), .val (.int (1 : Int32))] []))
        refine own_st (fun t k => XS.iload X20.here hx rfl (hb hby at_142) rfl k) ?_
        show own_Run p e below s _ _ _ (T20.setTop (mkF m 144 #[.val (.int i0), .val (.int i1), .val (.double ta), .second, .val (.double tb), .second, .val (.double ra), .second, .val (.double rb), .second, .val (.int (1 : Int32)), .val (.int (1 : Int32))] [(.int (1 : Int32))]))
        refine own_st (fun t k => XS.ifNo X20.here hx rfl (hb hby at_144) rfl ((if0 _ _).trans (feq (by decide : ¬ ((1 : Int32) = (0 : Int32)))).1) k) ?_
        show own_Run p e below s _ _ _ (T20.setTop (mkF m 147 #[.val (.int i0), .val (.int i1), .val (.double ta), .second, .val (.double tb), .second, .val (.double ra), .second, .val (.double rb), .second, .val (.int (1 : Int32)), .val (.int (1 : Int32))] []))
        refine own_st (fun t k => XS.iload X20.here hx rfl (hb hby at_147) rfl k) ?_
        show own_Run p e below s _ _ _ (T20.setTop (mkF m 149 #[.val (.int i0), .val (.int i1), .val (.double ta), .second, .val (.double tb), .second, .val (.double ra), .second, .val (.double rb), .second, .val (.int (1 : Int32)), .val (.int (1 : Int32))] [(.int (1 : Int32))]))
        refine own_st (fun t k => XS.ifNo X20.here hx rfl (hb hby at_149) rfl ((if0 _ _).trans (feq (by decide : ¬ ((1 : Int32) = (0 : Int32)))).1) k) ?_
        show own_Run p e below s _ _ _ (T20.setTop (mkF m 152 #[.val (.int i0), .val (.int i1), .val (.double ta), .second, .val (.double tb), .second, .val (.double ra), .second, .val (.double rb), .second, .val (.int (1 : Int32)), .val (.int (1 : Int32))] []))
        refine own_st (fun t k => XS.dload X20.here hx rfl (hb hby at_152) rfl k) ?_
        show own_Run p e below s _ _ _ (T20.setTop (mkF m 154 #[.val (.int i0), .val (.int i1), .val (.double ta), .second, .val (.double tb), .second, .val (.double ra), .second, .val (.double rb), .second, .val (.int (1 : Int32)), .val (.int (1 : Int32))] [(.double ra)]))
        refine own_st (fun t k => XS.dconst0 X20.here hx rfl (hb hby at_154) (v := 0) rfl k) ?_
        show own_Run p e below s _ _ _ (T20.setTop (mkF m 155 #[.val (.int i0), .val (.int i1), .val (.double ta), .second, .val (.double tb), .second, .val (.double ra), .second, .val (.double rb), .second, .val (.int (1 : Int32)), .val (.int (1 : Int32))] [(.double (0 : UInt64)), (.double ra)]))
        refine own_st (fun t k => XS.dcmpS X20.here hx rfl (hb hby at_155) rfl (v := (1 : Int32)) (k_ra.1) k) ?_
        show own_Run p e below s _ _ _ (T20.setTop (mkF m 156 #[.val (.int i0), .val (.int i1), .val (.double ta), .second, .val (.double tb), .second, .val (.double ra), .second, .val (.double rb), .second, .val (.int (1 : Int32)), .val (.int (1 : Int32))] [(.int (1 : Int32))]))
        refine own_st (fun t k => XS.ifNo X20.here hx rfl (hb hby at_156) rfl ((if0 _ _).trans (tlt (by decide : (0 : Int32) < (1 : Int32))).2.2.2) k) ?_
        show own_Run p e below s _ _ _ (T20.setTop (mkF m 159 #[.val (.int i0), .val (.int i1), .val (.double ta), .second, .val (.double tb), .second, .val (.double ra), .second, .val (.double rb), .second, .val (.int (1 : Int32)), .val (.int (1 : Int32))] []))
        refine own_st (fun t k => XS.dload X20.here hx rfl (hb hby at_159) rfl k) ?_
        show own_Run p e below s _ _ _ (T20.setTop (mkF m 161 #[.val (.int i0), .val (.int i1), .val (.double ta), .second, .val (.double tb), .second, .val (.double ra), .second, .val (.double rb), .second, .val (.int (1 : Int32)), .val (.int (1 : Int32))] [(.double rb)]))
        refine own_st (fun t k => XS.dconst0 X20.here hx rfl (hb hby at_161) (v := 0) rfl k) ?_
        show own_Run p e below s _ _ _ (T20.setTop (mkF m 162 #[.val (.int i0), .val (.int i1), .val (.double ta), .second, .val (.double tb), .second, .val (.double ra), .second, .val (.double rb), .second, .val (.int (1 : Int32)), .val (.int (1 : Int32))] [(.double (0 : UInt64)), (.double rb)]))
        refine own_st (fun t k => XS.dcmpS X20.here hx rfl (hb hby at_162) rfl (v := (1 : Int32)) (k_rb.1) k) ?_
        show own_Run p e below s _ _ _ (T20.setTop (mkF m 163 #[.val (.int i0), .val (.int i1), .val (.double ta), .second, .val (.double tb), .second, .val (.double ra), .second, .val (.double rb), .second, .val (.int (1 : Int32)), .val (.int (1 : Int32))] [(.int (1 : Int32))]))
        refine own_st (fun t k => XS.ifNo X20.here hx rfl (hb hby at_163) rfl ((if0 _ _).trans (tlt (by decide : (0 : Int32) < (1 : Int32))).2.2.2) k) ?_
        show own_Run p e below s _ _ _ (T20.setTop (mkF m 166 #[.val (.int i0), .val (.int i1), .val (.double ta), .second, .val (.double tb), .second, .val (.double ra), .second, .val (.double rb), .second, .val (.int (1 : Int32)), .val (.int (1 : Int32))] []))
        refine own_st (fun t k => XS.iconst X20.here hx rfl (hb hby at_166) k) ?_
        show own_Run p e below s _ _ _ (T20.setTop (mkF m 167 #[.val (.int i0), .val (.int i1), .val (.double ta), .second, .val (.double tb), .second, .val (.double ra), .second, .val (.double rb), .second, .val (.int (1 : Int32)), .val (.int (1 : Int32))] [(.int (1 : Int32))]))
        refine own_st (fun t k => XS.goto X20.here hx rfl (pc0 := 167) (pc' := 171) rfl (hb hby at_167) (by decide) (by decide) k) ?_
        show own_Run p e below s _ _ _ (T20.setTop (mkF m 171 #[.val (.int i0), .val (.int i1), .val (.double ta), .second, .val (.double tb), .second, .val (.double ra), .second, .val (.double rb), .second, .val (.int (1 : Int32)), .val (.int (1 : Int32))] [(.int (1 : Int32))]))
        exact own_ret X20 hx hlk (t := .boolean) hret rfl (Or.inl ⟨rfl, by simp, _, rfl⟩) (hb hby at_171) (by decide) (by decide) ⟨rfl, N20⟩
    · skip
      refine own_st (fun t k => XS.ifYes X2.here hx rfl (pc0 := 65) (pc' := 83) rfl (hb hby at_65) rfl ((if0 _ _).trans (flt (hGT : ¬ ((cmpValue (FP.dcmp tb ta) .g) < (0 : Int32)))).2.1) (by decide) (by decide) k) ?_
      show own_Run p e below s _ _ _ (T2.setTop (mkF m 83 #[.val (.int i0), .val (.int i1), .val (.double ta), .second, .val (.double tb), .second, .val (.double ra), .second, .val (.double rb), .second, .val (.int (1 : Int32)), .unset] []))
      refine own_st (fun t k => XS.dloadN X2.here hx rfl (hb hby at_83) rfl k) ?_
      show own_Run p e below s _ _ _ (T2.setTop (mkF m 84 #[.val (.int i0), .val (.int i1), .val (.double ta), .second, .val (.double tb), .second, .val (.double ra), .second, .val (.double rb), .second, .val (.int (1 : Int32)), .unset] [(.double ta)]))
      refine own_st (fun t k => XS.dload X2.here hx rfl (hb hby at_84) rfl k) ?_
      show own_Run p e below s _ _ _ (T2.setTop (mkF m 86 #[.val (.int i0), .val (.int i1), .val (.double ta), .second, .val (.double tb), .second, .val (.double ra), .second, .val (.double rb), .second, .val (.int (1 : Int32)), .unset] [(.double tb), (.double ta)]))
      refine own_st (fun t k => XS.dcmpS X2.here hx rfl (hb hby at_86) rfl (v := (cmpValue (FP.dcmp ta tb) .l)) (rfl) k) ?_
      show own_Run p e below s _ _ _ (T2.setTop (mkF m 87 #[.val (.int i0), .val (.int i1), .val (.double ta), .second, .val (.double tb), .second, .val (.double ra), .second, .val (.double rb), .second, .val (.int (1 : Int32)), .unset] [(.int (cmpValue (FP.dcmp ta tb) .l))]))
      by_cases hEQ : (cmpValue (FP.dcmp ta tb) .l) = (0 : Int32)
      · skip
        refine own_st (fun t k => XS.ifNo X2.here hx rfl (hb hby at_87) rfl ((if0 _ _).trans (teq (hEQ : (cmpValue (FP.dcmp ta tb) .l) = (0 : Int32))).2) k) ?_
        show own_Run p e below s _ _ _ (T2.setTop (mkF m 90 #[.val (.int i0), .val (.int i1), .val (.double ta), .second, .val (.double tb), .second, .val (.double ra), .second, .val (.double rb), .second, .val (.int (1 : Int32)), .unset] []))
        refine own_st (fun t k => XS.dload X2.here hx rfl (hb hby at_90) rfl k) ?_
        show own_Run p e below s _ _ _ (T2.setTop (mkF m 92 #[.val (.int i0), .val (.int i1), .val (.double ta), .second, .val (.double tb), .second, .val (.double ra), .second, .val (.double rb), .second, .val (.int (1 : Int32)), .unset] [(.double ra)]))
        refine own_st (fun t k => XS.dload X2.here hx rfl (hb hby at_92) rfl k) ?_
        show own_Run p e below s _ _ _ (T2.setTop (mkF m 94 #[.val (.int i0), .val (.int i1), .val (.double ta), .second, .val (.double tb), .second, .val (.double ra), .second, .val (.double rb), .second, .val (.int (1 : Int32)), .unset] [(.double rb), (.double ra)]))
        refine own_st (fun t k => XS.dcmpS X2.here hx rfl (hb hby at_94) rfl (v := (0 : Int32)) (own_sam r_xa r_xb h_ta h_tb h_ra h_rb hEQ) k) ?_
        show own_Run p e below s _ _ _ (T2.setTop (mkF m 95 #[.val (.int i0), .val (.int i1), .val (.double ta), .second, .val (.double tb), .second, .val (.double ra), .second, .val (.double rb), .second, .val (.int (1 : Int32)), .unset] [(.int (0 : Int32))]))
        refine own_st (fun t k => XS.ifNo X2.here hx rfl (hb hby at_95) rfl ((if0 _ _).trans (teq (by decide : (0 : Int32) = (0 : Int32))).2) k) ?_
        show own_Run p e below s _ _ _ (T2.setTop (mkF m 98 #[.val (.int i0), .val (.int i1), .val (.double ta), .second, .val (.double tb), .second, .val (.double ra), .second, .val (.double rb), .second, .val (.int (1 : Int32)), .unset] []))
        refine own_st (fun t k => XS.iconst X2.here hx rfl (hb hby at_98) k) ?_
        show own_Run p e below s _ _ _ (T2.setTop (mkF m 99 #[.val (.int i0), .val (.int i1), .val (.double ta), .second, .val (.double tb), .second, .val (.double ra), .second, .val (.double rb), .second, .val (.int (1 : Int32)), .unset] [(.int (1 : Int32))]))
        refine own_st (fun t k => XS.goto X2.here hx rfl (pc0 := 99) (pc' := 103) rfl (hb hby at_99) (by decide) (by decide) k) ?_
        show own_Run p e below s _ _ _ (T2.setTop (mkF m 103 #[.val (.int i0), .val (.int i1), .val (.double ta), .second, .val (.double tb), .second, .val (.double ra), .second, .val (.double rb), .second, .val (.int (1 : Int32)), .unset] [(.int (1 : Int32))]))
        refine own_st (fun t k => XS.istore X2.here hx rfl (hb hby at_103) rfl (l' := #[.val (.int i0), .val (.int i1), .val (.double ta), .second, .val (.double tb), .second, .val (.double ra), .second, .val (.double rb), .second, .val (.int (1 : Int32)), .unset]) rfl k) ?_
        show own_Run p e below s _ _ _ (T2.setTop (mkF m 105 #[.val (.int i0), .val (.int i1), .val (.double ta), .second, .val (.double tb), .second, .val (.double ra), .second, .val (.double rb), .second, .val (.int (1 : Int32)), .unset] []))
        refine own_st (X2.ldc2DoubleC hx hown (mvT hZ (hw _ (List.mem_of_getElem? (i := 7) rfl))) (g := (mkF m 105 #[.val (.int i0), .val (.int i1), .val (.double ta), .second, .val (.double tb), .second, .val (.double ra), .second, .val (.double rb), .second, .val (.int (1 : Int32)), .unset] [])) rfl (hb hby at_105)) ?_
        show own_Run p e below s _ _ _ (T2.setTop (mkF m 108 #[.val (.int i0), .val (.int i1), .val (.double ta), .second, .val (.double tb), .second, .val (.double ra), .second, .val (.double rb), .second, .val (.int (1 : Int32)), .unset] [(.double (13866884958664418918 : UInt64))]))
        refine own_callS X2 hx hZ (y := (⟨"com/example/helioslope/helioslope/longwave/Longwave", "blackbody", "(D)D"⟩ : MethodName)) hown (hw _ (List.mem_of_getElem? (i := 1) rfl)) (hw _ (List.mem_of_getElem? (i := 2) rfl)) (hw _ (List.mem_of_getElem? (i := 4) rfl)) (hw _ (List.mem_of_getElem? (i := 3) rfl)) (by decide) hh2 (argsL := [(.double (13866884958664418918 : UInt64))]) (rest := []) (W := 0) (own_rm1 l Z a0 hw [] (13866884958664418918 : UInt64) h0 n0 (Nat.le_trans Z0 K0.1) (by decide +kernel) (by decide +kernel) (by decide +kernel) (by decide +kernel) (by decide +kernel)) (by decide) (by decide) (by rw [hml]; rfl) (lenOf own_pd2 rfl) rfl (by exact Nat.le_of_eq rfl) (hb hby at_108) (by decide) (by decide) ?_
        intro T21 v21 L21 X21 hq21
        obtain ⟨rfl, N21q, hh21⟩ := hq21
        have N21 := Fr.app N2 N21q
        show own_Run p e below s _ _ _ (T21.setTop (mkF m 111 #[.val (.int i0), .val (.int i1), .val (.double ta), .second, .val (.double tb), .second, .val (.double ra), .second, .val (.double rb), .second, .val (.int (1 : Int32)), .unset] [(.double (FP.dmul (FP.dmul (FP.dmul (FP.dmul (4498657090234903196 : UInt64) (FP.dadd (13866884958664418918 : UInt64) (4643512921809643110 : UInt64))) (FP.dadd (13866884958664418918 : UInt64) (4643512921809643110 : UInt64))) (FP.dadd (13866884958664418918 : UInt64) (4643512921809643110 : UInt64))) (FP.dadd (13866884958664418918 : UInt64) (4643512921809643110 : UInt64))))]))
        obtain ⟨rz, h_rz⟩ : ∃ z, ((FP.dmul (FP.dmul (FP.dmul (FP.dmul (4498657090234903196 : UInt64) (FP.dadd (13866884958664418918 : UInt64) (4643512921809643110 : UInt64))) (FP.dadd (13866884958664418918 : UInt64) (4643512921809643110 : UInt64))) (FP.dadd (13866884958664418918 : UInt64) (4643512921809643110 : UInt64))) (FP.dadd (13866884958664418918 : UInt64) (4643512921809643110 : UInt64))) : UInt64) = z := ⟨_, rfl⟩
        refine own_topD h_rz ?_
        show own_Run p e below s _ _ _ (T21.setTop (mkF m 111 #[.val (.int i0), .val (.int i1), .val (.double ta), .second, .val (.double tb), .second, .val (.double ra), .second, .val (.double rb), .second, .val (.int (1 : Int32)), .unset] [(.double rz)]))
        refine own_st (fun t k => XS.dconst0 X21.here hx rfl (hb hby at_111) (v := 0) rfl k) ?_
        show own_Run p e below s _ _ _ (T21.setTop (mkF m 112 #[.val (.int i0), .val (.int i1), .val (.double ta), .second, .val (.double tb), .second, .val (.double ra), .second, .val (.double rb), .second, .val (.int (1 : Int32)), .unset] [(.double (0 : UInt64)), (.double rz)]))
        refine own_st (fun t k => XS.dcmpS X21.here hx rfl (hb hby at_112) rfl (v := (0 : Int32)) (by rw [← h_rz]; decide +kernel) k) ?_
        show own_Run p e below s _ _ _ (T21.setTop (mkF m 113 #[.val (.int i0), .val (.int i1), .val (.double ta), .second, .val (.double tb), .second, .val (.double ra), .second, .val (.double rb), .second, .val (.int (1 : Int32)), .unset] [(.int (0 : Int32))]))
        refine own_st (fun t k => XS.ifNo X21.here hx rfl (hb hby at_113) rfl ((if0 _ _).trans (teq (by decide : (0 : Int32) = (0 : Int32))).2) k) ?_
        show own_Run p e below s _ _ _ (T21.setTop (mkF m 116 #[.val (.int i0), .val (.int i1), .val (.double ta), .second, .val (.double tb), .second, .val (.double ra), .second, .val (.double rb), .second, .val (.int (1 : Int32)), .unset] []))
        refine own_st (fun t k => XS.iconst X21.here hx rfl (hb hby at_116) k) ?_
        show own_Run p e below s _ _ _ (T21.setTop (mkF m 117 #[.val (.int i0), .val (.int i1), .val (.double ta), .second, .val (.double tb), .second, .val (.double ra), .second, .val (.double rb), .second, .val (.int (1 : Int32)), .unset] [(.int (1 : Int32))]))
        refine own_st (fun t k => XS.goto X21.here hx rfl (pc0 := 117) (pc' := 121) rfl (hb hby at_117) (by decide) (by decide) k) ?_
        show own_Run p e below s _ _ _ (T21.setTop (mkF m 121 #[.val (.int i0), .val (.int i1), .val (.double ta), .second, .val (.double tb), .second, .val (.double ra), .second, .val (.double rb), .second, .val (.int (1 : Int32)), .unset] [(.int (1 : Int32))]))
        refine own_st (fun t k => XS.istore X21.here hx rfl (hb hby at_121) rfl (l' := #[.val (.int i0), .val (.int i1), .val (.double ta), .second, .val (.double tb), .second, .val (.double ra), .second, .val (.double rb), .second, .val (.int (1 : Int32)), .val (.int (1 : Int32))]) rfl k) ?_
        show own_Run p e below s _ _ _ (T21.setTop (mkF m 123 #[.val (.int i0), .val (.int i1), .val (.double ta), .second, .val (.double tb), .second, .val (.double ra), .second, .val (.double rb), .second, .val (.int (1 : Int32)), .val (.int (1 : Int32))] []))
        refine own_st (fun t k => XS.dloadN X21.here hx rfl (hb hby at_123) rfl k) ?_
        show own_Run p e below s _ _ _ (T21.setTop (mkF m 124 #[.val (.int i0), .val (.int i1), .val (.double ta), .second, .val (.double tb), .second, .val (.double ra), .second, .val (.double rb), .second, .val (.int (1 : Int32)), .val (.int (1 : Int32))] [(.double ta)]))
        refine own_st (fun t k => XS.dload X21.here hx rfl (hb hby at_124) rfl k) ?_
        show own_Run p e below s _ _ _ (T21.setTop (mkF m 126 #[.val (.int i0), .val (.int i1), .val (.double ta), .second, .val (.double tb), .second, .val (.double ra), .second, .val (.double rb), .second, .val (.int (1 : Int32)), .val (.int (1 : Int32))] [(.double ra), (.double ta)]))
        refine own_callS X21 hx hZ (y := (⟨"com/example/helioslope/helioslope/longwave/LongwaveBlackbodyPinLaw", "near", "(DD)Z"⟩ : MethodName)) hown (hw _ (List.mem_of_getElem? (i := 8) rfl)) (hw _ (List.mem_of_getElem? (i := 9) rfl)) (hw _ (List.mem_of_getElem? (i := 11) rfl)) (hw _ (List.mem_of_getElem? (i := 10) rfl)) (by decide) hh21 (argsL := [(.double ta), (.double ra)]) (rest := []) (W := 0) (own_rm2 l Z a0 hw [] ta ra h0 n0 (Nat.le_trans Z0 K0.1) (k_ra.2.1) (k_ra.2.2.1) (k_ra.2.2.2.1) (k_ra.2.2.2.2.1) (k_ra.2.2.2.2.2.1) (k_ra.2.2.2.2.2.2.1) (k_ra.2.2.2.2.2.2.2.1) (k_ra.2.2.2.2.2.2.2.2.1) (k_ra.2.2.2.2.2.2.2.2.2)) (by decide) (by decide) (by rw [hml]; rfl) (lenOf own_pd3 rfl) rfl (by exact Nat.le_of_eq rfl) (hb hby at_126) (by decide) (by decide) ?_
        intro T22 v22 L22 X22 hq22
        obtain ⟨rfl, N22q, hh22⟩ := hq22
        have N22 := Fr.app N21 N22q
        show own_Run p e below s _ _ _ (T22.setTop (mkF m 129 #[.val (.int i0), .val (.int i1), .val (.double ta), .second, .val (.double tb), .second, .val (.double ra), .second, .val (.double rb), .second, .val (.int (1 : Int32)), .val (.int (1 : Int32))] [(.int (1 : Int32))]))
        refine own_st (fun t k => XS.ifNo X22.here hx rfl (hb hby at_129) rfl ((if0 _ _).trans (feq (by decide : ¬ ((1 : Int32) = (0 : Int32)))).1) k) ?_
        show own_Run p e below s _ _ _ (T22.setTop (mkF m 132 #[.val (.int i0), .val (.int i1), .val (.double ta), .second, .val (.double tb), .second, .val (.double ra), .second, .val (.double rb), .second, .val (.int (1 : Int32)), .val (.int (1 : Int32))] []))
        refine own_st (fun t k => XS.dload X22.here hx rfl (hb hby at_132) rfl k) ?_
        show own_Run p e below s _ _ _ (T22.setTop (mkF m 134 #[.val (.int i0), .val (.int i1), .val (.double ta), .second, .val (.double tb), .second, .val (.double ra), .second, .val (.double rb), .second, .val (.int (1 : Int32)), .val (.int (1 : Int32))] [(.double tb)]))
        refine own_st (fun t k => XS.dload X22.here hx rfl (hb hby at_134) rfl k) ?_
        show own_Run p e below s _ _ _ (T22.setTop (mkF m 136 #[.val (.int i0), .val (.int i1), .val (.double ta), .second, .val (.double tb), .second, .val (.double ra), .second, .val (.double rb), .second, .val (.int (1 : Int32)), .val (.int (1 : Int32))] [(.double rb), (.double tb)]))
        refine own_callS X22 hx hZ (y := (⟨"com/example/helioslope/helioslope/longwave/LongwaveBlackbodyPinLaw", "near", "(DD)Z"⟩ : MethodName)) hown (hw _ (List.mem_of_getElem? (i := 8) rfl)) (hw _ (List.mem_of_getElem? (i := 9) rfl)) (hw _ (List.mem_of_getElem? (i := 11) rfl)) (hw _ (List.mem_of_getElem? (i := 10) rfl)) (by decide) hh22 (argsL := [(.double tb), (.double rb)]) (rest := []) (W := 0) (own_rm2 l Z a0 hw [] tb rb h0 n0 (Nat.le_trans Z0 K0.1) (k_rb.2.1) (k_rb.2.2.1) (k_rb.2.2.2.1) (k_rb.2.2.2.2.1) (k_rb.2.2.2.2.2.1) (k_rb.2.2.2.2.2.2.1) (k_rb.2.2.2.2.2.2.2.1) (k_rb.2.2.2.2.2.2.2.2.1) (k_rb.2.2.2.2.2.2.2.2.2)) (by decide) (by decide) (by rw [hml]; rfl) (lenOf own_pd3 rfl) rfl (by exact Nat.le_of_eq rfl) (hb hby at_136) (by decide) (by decide) ?_
        intro T23 v23 L23 X23 hq23
        obtain ⟨rfl, N23q, hh23⟩ := hq23
        have N23 := Fr.app N22 N23q
        show own_Run p e below s _ _ _ (T23.setTop (mkF m 139 #[.val (.int i0), .val (.int i1), .val (.double ta), .second, .val (.double tb), .second, .val (.double ra), .second, .val (.double rb), .second, .val (.int (1 : Int32)), .val (.int (1 : Int32))] [(.int (1 : Int32))]))
        refine own_st (fun t k => XS.ifNo X23.here hx rfl (hb hby at_139) rfl ((if0 _ _).trans (feq (by decide : ¬ ((1 : Int32) = (0 : Int32)))).1) k) ?_
        show own_Run p e below s _ _ _ (T23.setTop (mkF m 142 #[.val (.int i0), .val (.int i1), .val (.double ta), .second, .val (.double tb), .second, .val (.double ra), .second, .val (.double rb), .second, .val (.int (1 : Int32)), .val (.int (1 : Int32))] []))
        refine own_st (fun t k => XS.iload X23.here hx rfl (hb hby at_142) rfl k) ?_
        show own_Run p e below s _ _ _ (T23.setTop (mkF m 144 #[.val (.int i0), .val (.int i1), .val (.double ta), .second, .val (.double tb), .second, .val (.double ra), .second, .val (.double rb), .second, .val (.int (1 : Int32)), .val (.int (1 : Int32))] [(.int (1 : Int32))]))
        refine own_st (fun t k => XS.ifNo X23.here hx rfl (hb hby at_144) rfl ((if0 _ _).trans (feq (by decide : ¬ ((1 : Int32) = (0 : Int32)))).1) k) ?_
        show own_Run p e below s _ _ _ (T23.setTop (mkF m 147 #[.val (.int i0), .val (.int i1), .val (.double ta), .second, .val (.double tb), .second, .val (.double ra), .second, .val (.double rb), .second, .val (.int (1 : Int32)), .val (.int (1 : Int32))] []))
        refine own_st (fun t k => XS.iload X23.here hx rfl (hb hby at_147) rfl k) ?_
        show own_Run p e below s _ _ _ (T23.setTop (mkF m 149 #[.val (.int i0), .val (.int i1), .val (.double ta), .second, .val (.double tb), .second, .val (.double ra), .second, .val (.double rb), .second, .val (.int (1 : Int32)), .val (.int (1 : Int32))] [(.int (1 : Int32))]))
        refine own_st (fun t k => XS.ifNo X23.here hx rfl (hb hby at_149) rfl ((if0 _ _).trans (feq (by decide : ¬ ((1 : Int32) = (0 : Int32)))).1) k) ?_
        show own_Run p e below s _ _ _ (T23.setTop (mkF m 152 #[.val (.int i0), .val (.int i1), .val (.double ta), .second, .val (.double tb), .second, .val (.double ra), .second, .val (.double rb), .second, .val (.int (1 : Int32)), .val (.int (1 : Int32))] []))
        refine own_st (fun t k => XS.dload X23.here hx rfl (hb hby at_152) rfl k) ?_
        show own_Run p e below s _ _ _ (T23.setTop (mkF m 154 #[.val (.int i0), .val (.int i1), .val (.double ta), .second, .val (.double tb), .second, .val (.double ra), .second, .val (.double rb), .second, .val (.int (1 : Int32)), .val (.int (1 : Int32))] [(.double ra)]))
        refine own_st (fun t k => XS.dconst0 X23.here hx rfl (hb hby at_154) (v := 0) rfl k) ?_
        show own_Run p e below s _ _ _ (T23.setTop (mkF m 155 #[.val (.int i0), .val (.int i1), .val (.double ta), .second, .val (.double tb), .second, .val (.double ra), .second, .val (.double rb), .second, .val (.int (1 : Int32)), .val (.int (1 : Int32))] [(.double (0 : UInt64)), (.double ra)]))
        refine own_st (fun t k => XS.dcmpS X23.here hx rfl (hb hby at_155) rfl (v := (1 : Int32)) (k_ra.1) k) ?_
        show own_Run p e below s _ _ _ (T23.setTop (mkF m 156 #[.val (.int i0), .val (.int i1), .val (.double ta), .second, .val (.double tb), .second, .val (.double ra), .second, .val (.double rb), .second, .val (.int (1 : Int32)), .val (.int (1 : Int32))] [(.int (1 : Int32))]))
        refine own_st (fun t k => XS.ifNo X23.here hx rfl (hb hby at_156) rfl ((if0 _ _).trans (tlt (by decide : (0 : Int32) < (1 : Int32))).2.2.2) k) ?_
        show own_Run p e below s _ _ _ (T23.setTop (mkF m 159 #[.val (.int i0), .val (.int i1), .val (.double ta), .second, .val (.double tb), .second, .val (.double ra), .second, .val (.double rb), .second, .val (.int (1 : Int32)), .val (.int (1 : Int32))] []))
        refine own_st (fun t k => XS.dload X23.here hx rfl (hb hby at_159) rfl k) ?_
        show own_Run p e below s _ _ _ (T23.setTop (mkF m 161 #[.val (.int i0), .val (.int i1), .val (.double ta), .second, .val (.double tb), .second, .val (.double ra), .second, .val (.double rb), .second, .val (.int (1 : Int32)), .val (.int (1 : Int32))] [(.double rb)]))
        refine own_st (fun t k => XS.dconst0 X23.here hx rfl (hb hby at_161) (v := 0) rfl k) ?_
        show own_Run p e below s _ _ _ (T23.setTop (mkF m 162 #[.val (.int i0), .val (.int i1), .val (.double ta), .second, .val (.double tb), .second, .val (.double ra), .second, .val (.double rb), .second, .val (.int (1 : Int32)), .val (.int (1 : Int32))] [(.double (0 : UInt64)), (.double rb)]))
        refine own_st (fun t k => XS.dcmpS X23.here hx rfl (hb hby at_162) rfl (v := (1 : Int32)) (k_rb.1) k) ?_
        show own_Run p e below s _ _ _ (T23.setTop (mkF m 163 #[.val (.int i0), .val (.int i1), .val (.double ta), .second, .val (.double tb), .second, .val (.double ra), .second, .val (.double rb), .second, .val (.int (1 : Int32)), .val (.int (1 : Int32))] [(.int (1 : Int32))]))
        refine own_st (fun t k => XS.ifNo X23.here hx rfl (hb hby at_163) rfl ((if0 _ _).trans (tlt (by decide : (0 : Int32) < (1 : Int32))).2.2.2) k) ?_
        show own_Run p e below s _ _ _ (T23.setTop (mkF m 166 #[.val (.int i0), .val (.int i1), .val (.double ta), .second, .val (.double tb), .second, .val (.double ra), .second, .val (.double rb), .second, .val (.int (1 : Int32)), .val (.int (1 : Int32))] []))
        refine own_st (fun t k => XS.iconst X23.here hx rfl (hb hby at_166) k) ?_
        show own_Run p e below s _ _ _ (T23.setTop (mkF m 167 #[.val (.int i0), .val (.int i1), .val (.double ta), .second, .val (.double tb), .second, .val (.double ra), .second, .val (.double rb), .second, .val (.int (1 : Int32)), .val (.int (1 : Int32))] [(.int (1 : Int32))]))
        refine own_st (fun t k => XS.goto X23.here hx rfl (pc0 := 167) (pc' := 171) rfl (hb hby at_167) (by decide) (by decide) k) ?_
        show own_Run p e below s _ _ _ (T23.setTop (mkF m 171 #[.val (.int i0), .val (.int i1), .val (.double ta), .second, .val (.double tb), .second, .val (.double ra), .second, .val (.double rb), .second, .val (.int (1 : Int32)), .val (.int (1 : Int32))] [(.int (1 : Int32))]))
        exact own_ret X23 hx hlk (t := .boolean) hret rfl (Or.inl ⟨rfl, by simp, _, rfl⟩) (hb hby at_171) (by decide) (by decide) ⟨rfl, N23⟩
      · skip
        refine own_st (fun t k => XS.ifYes X2.here hx rfl (pc0 := 87) (pc' := 105) rfl (hb hby at_87) rfl ((if0 _ _).trans (feq (hEQ : ¬ ((cmpValue (FP.dcmp ta tb) .l) = (0 : Int32)))).2) (by decide) (by decide) k) ?_
        show own_Run p e below s _ _ _ (T2.setTop (mkF m 105 #[.val (.int i0), .val (.int i1), .val (.double ta), .second, .val (.double tb), .second, .val (.double ra), .second, .val (.double rb), .second, .val (.int (1 : Int32)), .unset] []))
        refine own_st (X2.ldc2DoubleC hx hown (mvT hZ (hw _ (List.mem_of_getElem? (i := 7) rfl))) (g := (mkF m 105 #[.val (.int i0), .val (.int i1), .val (.double ta), .second, .val (.double tb), .second, .val (.double ra), .second, .val (.double rb), .second, .val (.int (1 : Int32)), .unset] [])) rfl (hb hby at_105)) ?_
        show own_Run p e below s _ _ _ (T2.setTop (mkF m 108 #[.val (.int i0), .val (.int i1), .val (.double ta), .second, .val (.double tb), .second, .val (.double ra), .second, .val (.double rb), .second, .val (.int (1 : Int32)), .unset] [(.double (13866884958664418918 : UInt64))]))
        refine own_callS X2 hx hZ (y := (⟨"com/example/helioslope/helioslope/longwave/Longwave", "blackbody", "(D)D"⟩ : MethodName)) hown (hw _ (List.mem_of_getElem? (i := 1) rfl)) (hw _ (List.mem_of_getElem? (i := 2) rfl)) (hw _ (List.mem_of_getElem? (i := 4) rfl)) (hw _ (List.mem_of_getElem? (i := 3) rfl)) (by decide) hh2 (argsL := [(.double (13866884958664418918 : UInt64))]) (rest := []) (W := 0) (own_rm1 l Z a0 hw [] (13866884958664418918 : UInt64) h0 n0 (Nat.le_trans Z0 K0.1) (by decide +kernel) (by decide +kernel) (by decide +kernel) (by decide +kernel) (by decide +kernel)) (by decide) (by decide) (by rw [hml]; rfl) (lenOf own_pd2 rfl) rfl (by exact Nat.le_of_eq rfl) (hb hby at_108) (by decide) (by decide) ?_
        intro T24 v24 L24 X24 hq24
        obtain ⟨rfl, N24q, hh24⟩ := hq24
        have N24 := Fr.app N2 N24q
        show own_Run p e below s _ _ _ (T24.setTop (mkF m 111 #[.val (.int i0), .val (.int i1), .val (.double ta), .second, .val (.double tb), .second, .val (.double ra), .second, .val (.double rb), .second, .val (.int (1 : Int32)), .unset] [(.double (FP.dmul (FP.dmul (FP.dmul (FP.dmul (4498657090234903196 : UInt64) (FP.dadd (13866884958664418918 : UInt64) (4643512921809643110 : UInt64))) (FP.dadd (13866884958664418918 : UInt64) (4643512921809643110 : UInt64))) (FP.dadd (13866884958664418918 : UInt64) (4643512921809643110 : UInt64))) (FP.dadd (13866884958664418918 : UInt64) (4643512921809643110 : UInt64))))]))
        obtain ⟨rz, h_rz⟩ : ∃ z, ((FP.dmul (FP.dmul (FP.dmul (FP.dmul (4498657090234903196 : UInt64) (FP.dadd (13866884958664418918 : UInt64) (4643512921809643110 : UInt64))) (FP.dadd (13866884958664418918 : UInt64) (4643512921809643110 : UInt64))) (FP.dadd (13866884958664418918 : UInt64) (4643512921809643110 : UInt64))) (FP.dadd (13866884958664418918 : UInt64) (4643512921809643110 : UInt64))) : UInt64) = z := ⟨_, rfl⟩
        refine own_topD h_rz ?_
        show own_Run p e below s _ _ _ (T24.setTop (mkF m 111 #[.val (.int i0), .val (.int i1), .val (.double ta), .second, .val (.double tb), .second, .val (.double ra), .second, .val (.double rb), .second, .val (.int (1 : Int32)), .unset] [(.double rz)]))
        refine own_st (fun t k => XS.dconst0 X24.here hx rfl (hb hby at_111) (v := 0) rfl k) ?_
        show own_Run p e below s _ _ _ (T24.setTop (mkF m 112 #[.val (.int i0), .val (.int i1), .val (.double ta), .second, .val (.double tb), .second, .val (.double ra), .second, .val (.double rb), .second, .val (.int (1 : Int32)), .unset] [(.double (0 : UInt64)), (.double rz)]))
        refine own_st (fun t k => XS.dcmpS X24.here hx rfl (hb hby at_112) rfl (v := (0 : Int32)) (by rw [← h_rz]; decide +kernel) k) ?_
        show own_Run p e below s _ _ _ (T24.setTop (mkF m 113 #[.val (.int i0), .val (.int i1), .val (.double ta), .second, .val (.double tb), .second, .val (.double ra), .second, .val (.double rb), .second, .val (.int (1 : Int32)), .unset] [(.int (0 : Int32))]))
        refine own_st (fun t k => XS.ifNo X24.here hx rfl (hb hby at_113) rfl ((if0 _ _).trans (teq (by decide : (0 : Int32) = (0 : Int32))).2) k) ?_
        show own_Run p e below s _ _ _ (T24.setTop (mkF m 116 #[.val (.int i0), .val (.int i1), .val (.double ta), .second, .val (.double tb), .second, .val (.double ra), .second, .val (.double rb), .second, .val (.int (1 : Int32)), .unset] []))
        refine own_st (fun t k => XS.iconst X24.here hx rfl (hb hby at_116) k) ?_
        show own_Run p e below s _ _ _ (T24.setTop (mkF m 117 #[.val (.int i0), .val (.int i1), .val (.double ta), .second, .val (.double tb), .second, .val (.double ra), .second, .val (.double rb), .second, .val (.int (1 : Int32)), .unset] [(.int (1 : Int32))]))
        refine own_st (fun t k => XS.goto X24.here hx rfl (pc0 := 117) (pc' := 121) rfl (hb hby at_117) (by decide) (by decide) k) ?_
        show own_Run p e below s _ _ _ (T24.setTop (mkF m 121 #[.val (.int i0), .val (.int i1), .val (.double ta), .second, .val (.double tb), .second, .val (.double ra), .second, .val (.double rb), .second, .val (.int (1 : Int32)), .unset] [(.int (1 : Int32))]))
        refine own_st (fun t k => XS.istore X24.here hx rfl (hb hby at_121) rfl (l' := #[.val (.int i0), .val (.int i1), .val (.double ta), .second, .val (.double tb), .second, .val (.double ra), .second, .val (.double rb), .second, .val (.int (1 : Int32)), .val (.int (1 : Int32))]) rfl k) ?_
        show own_Run p e below s _ _ _ (T24.setTop (mkF m 123 #[.val (.int i0), .val (.int i1), .val (.double ta), .second, .val (.double tb), .second, .val (.double ra), .second, .val (.double rb), .second, .val (.int (1 : Int32)), .val (.int (1 : Int32))] []))
        refine own_st (fun t k => XS.dloadN X24.here hx rfl (hb hby at_123) rfl k) ?_
        show own_Run p e below s _ _ _ (T24.setTop (mkF m 124 #[.val (.int i0), .val (.int i1), .val (.double ta), .second, .val (.double tb), .second, .val (.double ra), .second, .val (.double rb), .second, .val (.int (1 : Int32)), .val (.int (1 : Int32))] [(.double ta)]))
        refine own_st (fun t k => XS.dload X24.here hx rfl (hb hby at_124) rfl k) ?_
        show own_Run p e below s _ _ _ (T24.setTop (mkF m 126 #[.val (.int i0), .val (.int i1), .val (.double ta), .second, .val (.double tb), .second, .val (.double ra), .second, .val (.double rb), .second, .val (.int (1 : Int32)), .val (.int (1 : Int32))] [(.double ra), (.double ta)]))
        refine own_callS X24 hx hZ (y := (⟨"com/example/helioslope/helioslope/longwave/LongwaveBlackbodyPinLaw", "near", "(DD)Z"⟩ : MethodName)) hown (hw _ (List.mem_of_getElem? (i := 8) rfl)) (hw _ (List.mem_of_getElem? (i := 9) rfl)) (hw _ (List.mem_of_getElem? (i := 11) rfl)) (hw _ (List.mem_of_getElem? (i := 10) rfl)) (by decide) hh24 (argsL := [(.double ta), (.double ra)]) (rest := []) (W := 0) (own_rm2 l Z a0 hw [] ta ra h0 n0 (Nat.le_trans Z0 K0.1) (k_ra.2.1) (k_ra.2.2.1) (k_ra.2.2.2.1) (k_ra.2.2.2.2.1) (k_ra.2.2.2.2.2.1) (k_ra.2.2.2.2.2.2.1) (k_ra.2.2.2.2.2.2.2.1) (k_ra.2.2.2.2.2.2.2.2.1) (k_ra.2.2.2.2.2.2.2.2.2)) (by decide) (by decide) (by rw [hml]; rfl) (lenOf own_pd3 rfl) rfl (by exact Nat.le_of_eq rfl) (hb hby at_126) (by decide) (by decide) ?_
        intro T25 v25 L25 X25 hq25
        obtain ⟨rfl, N25q, hh25⟩ := hq25
        have N25 := Fr.app N24 N25q
        show own_Run p e below s _ _ _ (T25.setTop (mkF m 129 #[.val (.int i0), .val (.int i1), .val (.double ta), .second, .val (.double tb), .second, .val (.double ra), .second, .val (.double rb), .second, .val (.int (1 : Int32)), .val (.int (1 : Int32))] [(.int (1 : Int32))]))
        refine own_st (fun t k => XS.ifNo X25.here hx rfl (hb hby at_129) rfl ((if0 _ _).trans (feq (by decide : ¬ ((1 : Int32) = (0 : Int32)))).1) k) ?_
        show own_Run p e below s _ _ _ (T25.setTop (mkF m 132 #[.val (.int i0), .val (.int i1), .val (.double ta), .second, .val (.double tb), .second, .val (.double ra), .second, .val (.double rb), .second, .val (.int (1 : Int32)), .val (.int (1 : Int32))] []))
        refine own_st (fun t k => XS.dload X25.here hx rfl (hb hby at_132) rfl k) ?_
        show own_Run p e below s _ _ _ (T25.setTop (mkF m 134 #[.val (.int i0), .val (.int i1), .val (.double ta), .second, .val (.double tb), .second, .val (.double ra), .second, .val (.double rb), .second, .val (.int (1 : Int32)), .val (.int (1 : Int32))] [(.double tb)]))
        refine own_st (fun t k => XS.dload X25.here hx rfl (hb hby at_134) rfl k) ?_
        show own_Run p e below s _ _ _ (T25.setTop (mkF m 136 #[.val (.int i0), .val (.int i1), .val (.double ta), .second, .val (.double tb), .second, .val (.double ra), .second, .val (.double rb), .second, .val (.int (1 : Int32)), .val (.int (1 : Int32))] [(.double rb), (.double tb)]))
        refine own_callS X25 hx hZ (y := (⟨"com/example/helioslope/helioslope/longwave/LongwaveBlackbodyPinLaw", "near", "(DD)Z"⟩ : MethodName)) hown (hw _ (List.mem_of_getElem? (i := 8) rfl)) (hw _ (List.mem_of_getElem? (i := 9) rfl)) (hw _ (List.mem_of_getElem? (i := 11) rfl)) (hw _ (List.mem_of_getElem? (i := 10) rfl)) (by decide) hh25 (argsL := [(.double tb), (.double rb)]) (rest := []) (W := 0) (own_rm2 l Z a0 hw [] tb rb h0 n0 (Nat.le_trans Z0 K0.1) (k_rb.2.1) (k_rb.2.2.1) (k_rb.2.2.2.1) (k_rb.2.2.2.2.1) (k_rb.2.2.2.2.2.1) (k_rb.2.2.2.2.2.2.1) (k_rb.2.2.2.2.2.2.2.1) (k_rb.2.2.2.2.2.2.2.2.1) (k_rb.2.2.2.2.2.2.2.2.2)) (by decide) (by decide) (by rw [hml]; rfl) (lenOf own_pd3 rfl) rfl (by exact Nat.le_of_eq rfl) (hb hby at_136) (by decide) (by decide) ?_
        intro T26 v26 L26 X26 hq26
        obtain ⟨rfl, N26q, hh26⟩ := hq26
        have N26 := Fr.app N25 N26q
        show own_Run p e below s _ _ _ (T26.setTop (mkF m 139 #[.val (.int i0), .val (.int i1), .val (.double ta), .second, .val (.double tb), .second, .val (.double ra), .second, .val (.double rb), .second, .val (.int (1 : Int32)), .val (.int (1 : Int32))] [(.int (1 : Int32))]))
        refine own_st (fun t k => XS.ifNo X26.here hx rfl (hb hby at_139) rfl ((if0 _ _).trans (feq (by decide : ¬ ((1 : Int32) = (0 : Int32)))).1) k) ?_
        show own_Run p e below s _ _ _ (T26.setTop (mkF m 142 #[.val (.int i0), .val (.int i1), .val (.double ta), .second, .val (.double tb), .second, .val (.double ra), .second, .val (.double rb), .second, .val (.int (1 : Int32)), .val (.int (1 : Int32))] []))
        refine own_st (fun t k => XS.iload X26.here hx rfl (hb hby at_142) rfl k) ?_
        show own_Run p e below s _ _ _ (T26.setTop (mkF m 144 #[.val (.int i0), .val (.int i1), .val (.double ta), .second, .val (.double tb), .second, .val (.double ra), .second, .val (.double rb), .second, .val (.int (1 : Int32)), .val (.int (1 : Int32))] [(.int (1 : Int32))]))
        refine own_st (fun t k => XS.ifNo X26.here hx rfl (hb hby at_144) rfl ((if0 _ _).trans (feq (by decide : ¬ ((1 : Int32) = (0 : Int32)))).1) k) ?_
        show own_Run p e below s _ _ _ (T26.setTop (mkF m 147 #[.val (.int i0), .val (.int i1), .val (.double ta), .second, .val (.double tb), .second, .val (.double ra), .second, .val (.double rb), .second, .val (.int (1 : Int32)), .val (.int (1 : Int32))] []))
        refine own_st (fun t k => XS.iload X26.here hx rfl (hb hby at_147) rfl k) ?_
        show own_Run p e below s _ _ _ (T26.setTop (mkF m 149 #[.val (.int i0), .val (.int i1), .val (.double ta), .second, .val (.double tb), .second, .val (.double ra), .second, .val (.double rb), .second, .val (.int (1 : Int32)), .val (.int (1 : Int32))] [(.int (1 : Int32))]))
        refine own_st (fun t k => XS.ifNo X26.here hx rfl (hb hby at_149) rfl ((if0 _ _).trans (feq (by decide : ¬ ((1 : Int32) = (0 : Int32)))).1) k) ?_
        show own_Run p e below s _ _ _ (T26.setTop (mkF m 152 #[.val (.int i0), .val (.int i1), .val (.double ta), .second, .val (.double tb), .second, .val (.double ra), .second, .val (.double rb), .second, .val (.int (1 : Int32)), .val (.int (1 : Int32))] []))
        refine own_st (fun t k => XS.dload X26.here hx rfl (hb hby at_152) rfl k) ?_
        show own_Run p e below s _ _ _ (T26.setTop (mkF m 154 #[.val (.int i0), .val (.int i1), .val (.double ta), .second, .val (.double tb), .second, .val (.double ra), .second, .val (.double rb), .second, .val (.int (1 : Int32)), .val (.int (1 : Int32))] [(.double ra)]))
        refine own_st (fun t k => XS.dconst0 X26.here hx rfl (hb hby at_154) (v := 0) rfl k) ?_
        show own_Run p e below s _ _ _ (T26.setTop (mkF m 155 #[.val (.int i0), .val (.int i1), .val (.double ta), .second, .val (.double tb), .second, .val (.double ra), .second, .val (.double rb), .second, .val (.int (1 : Int32)), .val (.int (1 : Int32))] [(.double (0 : UInt64)), (.double ra)]))
        refine own_st (fun t k => XS.dcmpS X26.here hx rfl (hb hby at_155) rfl (v := (1 : Int32)) (k_ra.1) k) ?_
        show own_Run p e below s _ _ _ (T26.setTop (mkF m 156 #[.val (.int i0), .val (.int i1), .val (.double ta), .second, .val (.double tb), .second, .val (.double ra), .second, .val (.double rb), .second, .val (.int (1 : Int32)), .val (.int (1 : Int32))] [(.int (1 : Int32))]))
        refine own_st (fun t k => XS.ifNo X26.here hx rfl (hb hby at_156) rfl ((if0 _ _).trans (tlt (by decide : (0 : Int32) < (1 : Int32))).2.2.2) k) ?_
        show own_Run p e below s _ _ _ (T26.setTop (mkF m 159 #[.val (.int i0), .val (.int i1), .val (.double ta), .second, .val (.double tb), .second, .val (.double ra), .second, .val (.double rb), .second, .val (.int (1 : Int32)), .val (.int (1 : Int32))] []))
        refine own_st (fun t k => XS.dload X26.here hx rfl (hb hby at_159) rfl k) ?_
        show own_Run p e below s _ _ _ (T26.setTop (mkF m 161 #[.val (.int i0), .val (.int i1), .val (.double ta), .second, .val (.double tb), .second, .val (.double ra), .second, .val (.double rb), .second, .val (.int (1 : Int32)), .val (.int (1 : Int32))] [(.double rb)]))
        refine own_st (fun t k => XS.dconst0 X26.here hx rfl (hb hby at_161) (v := 0) rfl k) ?_
        show own_Run p e below s _ _ _ (T26.setTop (mkF m 162 #[.val (.int i0), .val (.int i1), .val (.double ta), .second, .val (.double tb), .second, .val (.double ra), .second, .val (.double rb), .second, .val (.int (1 : Int32)), .val (.int (1 : Int32))] [(.double (0 : UInt64)), (.double rb)]))
        refine own_st (fun t k => XS.dcmpS X26.here hx rfl (hb hby at_162) rfl (v := (1 : Int32)) (k_rb.1) k) ?_
        show own_Run p e below s _ _ _ (T26.setTop (mkF m 163 #[.val (.int i0), .val (.int i1), .val (.double ta), .second, .val (.double tb), .second, .val (.double ra), .second, .val (.double rb), .second, .val (.int (1 : Int32)), .val (.int (1 : Int32))] [(.int (1 : Int32))]))
        refine own_st (fun t k => XS.ifNo X26.here hx rfl (hb hby at_163) rfl ((if0 _ _).trans (tlt (by decide : (0 : Int32) < (1 : Int32))).2.2.2) k) ?_
        show own_Run p e below s _ _ _ (T26.setTop (mkF m 166 #[.val (.int i0), .val (.int i1), .val (.double ta), .second, .val (.double tb), .second, .val (.double ra), .second, .val (.double rb), .second, .val (.int (1 : Int32)), .val (.int (1 : Int32))] []))
        refine own_st (fun t k => XS.iconst X26.here hx rfl (hb hby at_166) k) ?_
        show own_Run p e below s _ _ _ (T26.setTop (mkF m 167 #[.val (.int i0), .val (.int i1), .val (.double ta), .second, .val (.double tb), .second, .val (.double ra), .second, .val (.double rb), .second, .val (.int (1 : Int32)), .val (.int (1 : Int32))] [(.int (1 : Int32))]))
        refine own_st (fun t k => XS.goto X26.here hx rfl (pc0 := 167) (pc' := 171) rfl (hb hby at_167) (by decide) (by decide) k) ?_
        show own_Run p e below s _ _ _ (T26.setTop (mkF m 171 #[.val (.int i0), .val (.int i1), .val (.double ta), .second, .val (.double tb), .second, .val (.double ra), .second, .val (.double rb), .second, .val (.int (1 : Int32)), .val (.int (1 : Int32))] [(.int (1 : Int32))]))
        exact own_ret X26 hx hlk (t := .boolean) hret rfl (Or.inl ⟨rfl, by simp, _, rfl⟩) (hb hby at_171) (by decide) (by decide) ⟨rfl, N26⟩
set_option maxRecDepth 65536 in
set_option maxHeartbeats 40000000 in
theorem own_comes_1 {Post : Tables → Env → Array Value → State → Outcome → State → Prop} (hpost : ∀ tb e args s v u, (limb_1_1.after args s (.returned v) u = true ∧ limb_1_2.after args s (.returned v) u = true ∧ True) → FrameEnd s (.returned v) u (Jvm.fieldLocs frame_1_writes args s ++ Jvm.arrayLocs frame_1_arrays args s ++ Jvm.staticLocs frame_1_statics s) 0 0 → Post tb e args s (.returned v) u) :
    ArmFor flags0 classFile x code maxLocals ret World_1 tables_1 room_1 Calls_1 rest_1 Pre_1 Post := by
  intro l hfl _ _ p e ha hc hk s m args below hf hA hF happ hP
  obtain ⟨hcalls, hrest, hpre⟩ := hP
  obtain ⟨-, -, -, hnamed, -, -, -, hat⟩ := (Spec.applies_iff hf).mp happ
  obtain ⟨hg, hn⟩ := and_e (Cond.before_iff.mp (show (Jvm.Cond.and given_1 narrow_1).before args s = true from hpre))
  obtain ⟨gv1, gv2⟩ := and_e hg
  obtain ⟨gv3, gv4⟩ := and_e gv2
  obtain ⟨w0, w1, rfl⟩ : ∃ w0 w1 : Value, args = #[w0, w1] := by
    have hs : args.size = 2 := by simpa [Cond.value, given_1] using gv1
    obtain ⟨L⟩ := args
    match L, hs with
    | [w0, w1], _ => exact ⟨w0, w1, rfl⟩
  have hw := fun d (hd : d ∈ tables_1) => atoms_spec (ws := Jvm.Cond.code x code maxLocals ret :: tables_1) hat d (List.mem_cons_of_mem _ hd)
  have hfit : Fit s := fun {y c} hc i hi => by
    obtain ⟨ha, rfl⟩ := Array.getElem?_eq_some_iff.mp hc
    have q := List.all_eq_true.mp ((Array.all_eq_true_iff_forall_mem.mp hF) _ (Array.getElem_mem ha)) i (List.mem_range.mpr hi)
    simpa [Array.getElem?_eq_getElem hi] using q
  obtain ⟨i0, ei0⟩ := is_v gv3
  obtain rfl : w0 = (.int i0) := Option.some.inj ei0
  obtain ⟨i1, ei1⟩ := is_v gv4
  obtain rfl : w1 = (.int i1) := Option.some.inj ei1
  obtain ⟨n, o, h1, h2, h3, _, L, rfl, ⟨rfl, N⟩, hq⟩ := own_rm0 l s _ hw tables_1 i0 i1 s.heap s.heap.size (Nat.le_refl _) (Old.start s)  p e ha hc hk s m _ below hf ((Spec.applies_iff_loose hf).mp happ).1 ⟨rfl, State.Warmed39.refl s, rfl⟩ trivial
  refine ⟨n, _, h1, h2, h3, hpost _ _ _ _ _ _ ⟨Cond.after_iff.mpr rfl, Cond.after_iff.mpr (eq_i res_at (Term.int_eval (1)) rfl), trivial⟩ ⟨hq.1, hq.2.1, (hq.2.2.sift fun y hy => Or.inr (N y hy)).mono (by decide) (by decide)⟩⟩
theorem main_1_1 : Claimed_1_1 := own_comes_1 fun _ _ _ _ _ _ h hF => ⟨h.1, hF⟩
theorem main_1_2 : Claimed_1_2 := own_comes_1 fun _ _ _ _ _ _ h hF => ⟨h.2.1, hF⟩
end Jvm.Pilot.@@N@@
namespace Jvm.Pilot.@@N@@
open Jvm Jvm.ClassFile Sem Op Lib Jvm.Free Jvm.Stand Jvm.Pilot.@@N@@.Jvm.D
/-! MADE BY PROGRAM (witnessworld.py) out of the Statement's table words and the real class files: 9 classes; the members and pool entries that the words name. The judged class is class 1, her method 2. -/
namespace start1
open Jvm.ClassFile
def u (s : String) : CpInfo := .utf8 (stringToUtf16 s)
/-- a pool by its gaps: so many unusable entries, then the entry; so many at the end -/
def gap : Nat → List CpInfo → List CpInfo
  | 0, r => r
  | n + 1, r => .unusable :: gap n r
def poolList (es : List (Nat × CpInfo)) (last : Nat) : List CpInfo := es.foldr (fun e r => gap e.1 (e.2 :: r)) (gap last [])
def pool (es : List (Nat × CpInfo)) (last : Nat) : Array CpInfo := ⟨poolList es last⟩
def fileOf (pool : Array CpInfo) (this : Nat) (attrs : Array Attribute := #[]) (ms : Array MethodInfo := #[]) (fl : Nat := 33) (sup : Nat := 0) (ifs : Array Nat := #[]) (fds : Array FieldInfo := #[]) : ClassFile where
  minorVersion := 0
  majorVersion := 65
  constantPool := pool
  accessFlags := fl
  thisClass := this
  superClass := sup
  interfaces := ifs
  fields := fds
  methods := ms
  attributes := attrs
def plain (name : String) (sup : Option ClassId) : Class where
  name := name
  kind := .ordinary
  loader := none
  accessFlags := 33
  super := sup
  interfaces := #[]
  cf := none
  fields := #[]
  methods := #[]
  instanceTypes := #[]
  staticTypes := #[]
  resolved := #[]
  callSites := []
  init := .initialized
  statics := none
  mirror := none

def pool0 : Array CpInfo := pool [(5, u "<init>"), (0, u "()V"), (1, .class_ 10), (1, u "java/lang/Object")] 113

def k0m0 : Method := { name := "<init>", desc := "()V", sig := { parameters := [], returnType := none }, accessFlags := 1, code := none }
/-- java/lang/Object -/
def k0 : Class := { plain "java/lang/Object" none with
  accessFlags := 33
  interfaces := #[]
  cf := some (fileOf pool0 8 #[] #[{ accessFlags := 1, nameIndex := 5, descriptorIndex := 6, attributes := #[] }] 33 0 #[] #[])
  fields := #[]
  methods := #[k0m0]
  instanceTypes := #[]
  staticTypes := #[]
  resolved := Array.replicate 124 none
  statics := none }

def pool1 : Array CpInfo := pool [(2, .class_ 4), (1, u "java/lang/Object"), (0, u "<init>"), (0, u "()V"), (0, .double 4643512921809643110), (1, .double 4498657090234903196), (1, .double 4387073039832405526), (1, .double 4620693217682128896), (1, .methodref 16 17), (0, .class_ 18), (0, .nameAndType 19 20), (0, u "com/example/helioslope/helioslope/longwave/Longwave"), (0, u "blackbody"), (0, u "(D)D"), (0, .double 13866884958664418918), (1, .methodref 24 25), (0, .class_ 26), (0, .nameAndType 27 28), (0, u "com/example/helioslope/helioslope/longwave/LongwaveBlackbodyPinLaw"), (0, u "near"), (0, u "(DD)Z"), (3, u "law"), (0, u "(II)Z")] 2

def k1m0 : Method := { name := "<init>", desc := "()V", sig := { parameters := [], returnType := none }, accessFlags := 2, code := none }
def k1c1 : Code := { maxStack := 6, maxLocals := 14, code := method_2_code, exceptionTable := #[], attributes := #[] }
def k1m1 : Method := { name := "near", desc := "(DD)Z", sig := { parameters := [.double, .double], returnType := some .boolean }, accessFlags := 10, code := some k1c1 }
def k1c2 : Code := { maxStack := 4, maxLocals := 12, code := code, exceptionTable := #[], attributes := #[] }
def k1m2 : Method := { name := "law", desc := "(II)Z", sig := { parameters := [.int, .int], returnType := some .boolean }, accessFlags := 9, code := some k1c2 }
/-- com/example/helioslope/helioslope/longwave/LongwaveBlackbodyPinLaw -/
def k1 : Class := { plain "com/example/helioslope/helioslope/longwave/LongwaveBlackbodyPinLaw" (some 0) with
  accessFlags := 49
  interfaces := #[]
  cf := some (fileOf pool1 24 #[] #[{ accessFlags := 2, nameIndex := 5, descriptorIndex := 6, attributes := #[] }, { accessFlags := 10, nameIndex := 27, descriptorIndex := 28, attributes := #[] }, { accessFlags := 9, nameIndex := 32, descriptorIndex := 33, attributes := #[] }] 49 2 #[] #[])
  fields := #[]
  methods := #[k1m0, k1m1, k1m2]
  instanceTypes := #[]
  staticTypes := #[]
  resolved := Array.replicate 36 none
  statics := none }

def pool2 : Array CpInfo := pool [(2, .class_ 4), (1, u "java/lang/Object"), (0, u "<init>"), (0, u "()V"), (2, .double 4643512921809643110), (1, .class_ 12), (0, u "com/example/helioslope/helioslope/longwave/Longwave"), (0, .double 4498657090234903196), (17, u "blackbody"), (0, u "(D)D"), (0, u "SIGMA"), (0, u "D"), (1, u "MIN_TEMPERATURE"), (2, u "MAX_TEMPERATURE"), (2, u "MAX_VAPOUR_PRESSURE"), (2, u "MAX_INCOMING"), (2, u "MIN_SURFACE_TEMPERATURE"), (0, u "MAX_SURFACE_TEMPERATURE")] 6

def k2m0 : Method := { name := "<init>", desc := "()V", sig := { parameters := [], returnType := none }, accessFlags := 2, code := none }
def k2c1 : Code := { maxStack := 4, maxLocals := 4, code := prog_77_method_2_code, exceptionTable := #[], attributes := #[] }
def k2m1 : Method := { name := "blackbody", desc := "(D)D", sig := { parameters := [.double], returnType := some .double }, accessFlags := 8, code := some k2c1 }
/-- com/example/helioslope/helioslope/longwave/Longwave -/
def k2 : Class := { plain "com/example/helioslope/helioslope/longwave/Longwave" (some 0) with
  accessFlags := 49
  interfaces := #[]
  cf := some (fileOf pool2 11 #[] #[{ accessFlags := 2, nameIndex := 5, descriptorIndex := 6, attributes := #[] }, { accessFlags := 8, nameIndex := 31, descriptorIndex := 32, attributes := #[] }] 49 2 #[] #[{ accessFlags := 25, nameIndex := 33, descriptorIndex := 34, attributes := #[] }, { accessFlags := 25, nameIndex := 36, descriptorIndex := 34, attributes := #[] }, { accessFlags := 25, nameIndex := 39, descriptorIndex := 34, attributes := #[] }, { accessFlags := 25, nameIndex := 42, descriptorIndex := 34, attributes := #[] }, { accessFlags := 25, nameIndex := 45, descriptorIndex := 34, attributes := #[] }, { accessFlags := 25, nameIndex := 48, descriptorIndex := 34, attributes := #[] }, { accessFlags := 25, nameIndex := 49, descriptorIndex := 34, attributes := #[] }])
  fields := #[{ name := "SIGMA", type := .double, accessFlags := 25, slot := 0, constantValue := 0 }, { name := "MIN_TEMPERATURE", type := .double, accessFlags := 25, slot := 1, constantValue := 0 }, { name := "MAX_TEMPERATURE", type := .double, accessFlags := 25, slot := 2, constantValue := 0 }, { name := "MAX_VAPOUR_PRESSURE", type := .double, accessFlags := 25, slot := 3, constantValue := 0 }, { name := "MAX_INCOMING", type := .double, accessFlags := 25, slot := 4, constantValue := 0 }, { name := "MIN_SURFACE_TEMPERATURE", type := .double, accessFlags := 25, slot := 5, constantValue := 0 }, { name := "MAX_SURFACE_TEMPERATURE", type := .double, accessFlags := 25, slot := 6, constantValue := 0 }]
  methods := #[k2m0, k2m1]
  instanceTypes := #[]
  staticTypes := #[.double, .double, .double, .double, .double, .double, .double]
  resolved := Array.replicate 56 none
  statics := none }

def pool3 : Array CpInfo := pool [(1, u "java/lang/Cloneable"), (0, .class_ 1), (0, u "java/lang/Object"), (0, .class_ 3)] 3

/-- java/lang/Cloneable -/
def k3 : Class := { plain "java/lang/Cloneable" (some 0) with
  accessFlags := 1537
  interfaces := #[]
  cf := some (fileOf pool3 2 #[] #[] 1537 4 #[] #[])
  fields := #[]
  methods := #[]
  instanceTypes := #[]
  staticTypes := #[]
  resolved := Array.replicate 8 none
  statics := none }

def pool4 : Array CpInfo := pool [(1, u "java/io/Serializable"), (0, .class_ 1), (0, u "java/lang/Object"), (0, .class_ 3)] 3

/-- java/io/Serializable -/
def k4 : Class := { plain "java/io/Serializable" (some 0) with
  accessFlags := 1537
  interfaces := #[]
  cf := some (fileOf pool4 2 #[] #[] 1537 4 #[] #[])
  fields := #[]
  methods := #[]
  instanceTypes := #[]
  staticTypes := #[]
  resolved := Array.replicate 8 none
  statics := none }

/-- the primitive byte -/
def k5 : Class := { plain "byte" none with kind := .primitive 'B', accessFlags := 0x411 }
/-- [B -/
def k6 : Class := { plain "[B" (some 0) with kind := .array 5 .byte, interfaces := #[3, 4], accessFlags := 1041 }

/-- the primitive int -/
def k7 : Class := { plain "int" none with kind := .primitive 'I', accessFlags := 0x411 }
/-- [I -/
def k8 : Class := { plain "[I" (some 0) with kind := .array 7 .int, interfaces := #[3, 4], accessFlags := 1041 }

def heap : Heap := #[]
def classes : Array Class := #[k0, k1, k2, k3, k4, k5, k6, k7, k8]
def interned : List (Array UInt16 × Addr) := []
def slotsUsed : Nat := 0
def theMethod : MethodId := ⟨1, 2⟩
def args0 : Array Value := #[.int 3, .int 200]
def aboutOver (below : List Frame) : State where
  vm := { classes := classes, interned := interned.toArray }
  heap := heap
  slotsUsed := slotsUsed
  threads := #[{ frames := .invoking theMethod args0 :: below }]
def below0 : List Frame := [.native { method := ⟨0, 0⟩, args := #[] }]
def about1 : State := aboutOver below0
def p0 : Program := .bare "" "" ""
def e0 : Env := launch0.env 0 0 0
theorem w_frames : about1.frames = Frame.invoking theMethod args0 :: below0 := rfl
set_option maxRecDepth 65536 in
theorem w_args : argsFit about1.vm theMethod args0 = true := by decide +kernel
set_option maxRecDepth 65536 in
theorem w_heap : heapFits about1 = true := by decide +kernel
set_option maxRecDepth 65536 in
theorem w_runnable : about1.curStatus? = some .runnable := by decide +kernel
set_option maxRecDepth 65536 in
theorem w_alone : about1.alone = true := by decide +kernel
set_option maxRecDepth 65536 in
theorem w_named : about1.methodNamed? x = some theMethod := by decide +kernel
set_option maxRecDepth 65536 in
theorem w_hears : about1.hears theMethod below0 = true := by decide +kernel
set_option maxRecDepth 65536 in
theorem w_ripe : about1.ripe theMethod args0 below0 = true := by decide +kernel
theorem w_running : about1.status = .running := rfl
set_option maxRecDepth 65536 in
theorem w_room : about1.hasRoom e0.platform room_1 = true :=
  launch0.hasRoom_least _ room_1 (by decide +kernel) (by decide +kernel) (by decide +kernel) (by decide +kernel) (by decide +kernel) (by decide +kernel)
theorem allAtoms_all (ts : List Jvm.Cond) (a : Array Jvm.Value) (st : Jvm.State) : (allAtoms ts).before a st = ts.all (fun c => c.before a st) := by
  induction ts with
  | nil => rfl
  | cons c t ih =>
    show (Jvm.Cond.and c (allAtoms t)).before a st = _
    rw [Jvm.Cond.before_and, ih, List.all_cons]
def words1 : List Jvm.Cond := Jvm.Cond.code x code maxLocals ret :: tables_1
/-- a 'code' word, met by the world's own term for the bytes: nothing is compared byte by byte -/
theorem code_word {y : MethodName} {bytes : ByteArray} {mx : Nat} {rt : Option FieldType} {a : Array Value} {s : State} {m : MethodId} {meth : Method} {c : Code} (h1 : s.methodNamed? y = some m) (h2 : s.vm.method? m = some meth) (h3 : meth.code = some c) (h4 : c.code = bytes)
    (h5 : (c.maxLocals == mx && c.exceptionTable.isEmpty && decide (c.maxStack ≤ mostOperands) && decide (meth.sig.returnType = rt) && !meth.locks && decide (parseMethodDescriptor y.desc = some meth.sig)) = true) : (Jvm.Cond.code y bytes mx rt).before a s = true := by
  simp only [Bool.and_eq_true, beq_iff_eq, Bool.not_eq_true', decide_eq_true_eq] at h5
  obtain ⟨⟨⟨⟨⟨g1, g2⟩, g3⟩, g4⟩, g5⟩, g6⟩ := h5
  simp [Cond.before, Cond.holds, Cond.value, h1, h2, h3, h4, g1, g2, g3, g4, g5, g6]
def isCode : Jvm.Cond → Bool
  | .code _ _ _ _ => true
  | _ => false
theorem all_split {L : List Jvm.Cond} {P : Jvm.Cond → Bool} (h1 : L.all (fun c => isCode c || P c) = true) (h2 : ∀ c ∈ L.filter isCode, P c = true) : L.all P = true := by
  refine List.all_eq_true.mpr fun c hc => ?_
  have h := List.all_eq_true.mp h1 c hc
  rcases Bool.eq_false_or_eq_true (isCode c) with hi | hi
  · exact h2 c (List.mem_filter.mpr ⟨hc, hi⟩)
  · simpa [hi] using h
set_option maxRecDepth 65536 in
theorem w_c0 : (Jvm.Cond.code x code maxLocals ret).before args0 about1 = true := code_word (m := ⟨1, 2⟩) (meth := k1m2) (c := k1c2) (by decide +kernel) rfl rfl rfl (by decide +kernel)
set_option maxRecDepth 65536 in
theorem w_c1 : (Jvm.Cond.code ({ cls := "com/example/helioslope/helioslope/longwave/Longwave", name := "blackbody", desc := "(D)D" } : Jvm.MethodName) prog_77_method_2_code (4 : Nat) (Option.some Jvm.ClassFile.FieldType.double)).before args0 about1 = true := code_word (m := ⟨2, 1⟩) (meth := k2m1) (c := k2c1) (by decide +kernel) rfl rfl rfl (by decide +kernel)
set_option maxRecDepth 65536 in
theorem w_c2 : (Jvm.Cond.code ({ cls := "com/example/helioslope/helioslope/longwave/LongwaveBlackbodyPinLaw", name := "near", desc := "(DD)Z" } : Jvm.MethodName) method_2_code (14 : Nat) (Option.some Jvm.ClassFile.FieldType.boolean)).before args0 about1 = true := code_word (m := ⟨1, 1⟩) (meth := k1m1) (c := k1c1) (by decide +kernel) rfl rfl rfl (by decide +kernel)
def codes1 : List Jvm.Cond := [Jvm.Cond.code x code maxLocals ret, Jvm.Cond.code ({ cls := "com/example/helioslope/helioslope/longwave/Longwave", name := "blackbody", desc := "(D)D" } : Jvm.MethodName) prog_77_method_2_code (4 : Nat) (Option.some Jvm.ClassFile.FieldType.double), Jvm.Cond.code ({ cls := "com/example/helioslope/helioslope/longwave/LongwaveBlackbodyPinLaw", name := "near", desc := "(DD)Z" } : Jvm.MethodName) method_2_code (14 : Nat) (Option.some Jvm.ClassFile.FieldType.boolean)]
set_option maxRecDepth 65536 in
theorem codes_eq : words1.filter isCode = codes1 := rfl
theorem w_codes : ∀ c ∈ words1.filter isCode, c.before args0 about1 = true := by
  rw [codes_eq]
  intro c hc
  simp only [codes1, List.mem_cons, List.not_mem_nil, or_false] at hc
  rcases hc with rfl | rfl | rfl
  · exact w_c0
  · exact w_c1
  · exact w_c2
set_option maxRecDepth 65536 in
theorem w_t1 : words1.all (fun c => isCode c || c.before args0 about1) = true := by decide +kernel
theorem w_tables : (allAtoms (Jvm.Cond.code x code maxLocals ret :: tables_1)).before args0 about1 = true := by
  rw [allAtoms_all]
  show words1.all (fun c => c.before args0 about1) = true
  refine all_split ?_ w_codes
  rw [w_t1]
set_option maxRecDepth 65536 in
theorem w_case : (Jvm.Cond.and given_1 narrow_1).before args0 about1 = true := by decide +kernel
theorem w_applies : (headSpec (Jvm.Cond.code x code maxLocals ret :: tables_1) room_1).applies x e0.platform about1 = true :=
  (Spec.applies_iff w_frames).mpr ⟨w_running, w_runnable, w_alone, w_named, w_hears, w_ripe, w_room, w_tables⟩
theorem atStart : AtStart classFile x code maxLocals ret World_1 tables_1 room_1 Calls_1 rest_1 Pre_1 launch0 p0 e0 about1 theMethod args0 below0 :=
  ⟨lists_1, trivial, launch0.admits_env _ _ _, launch0.least_env, fairChoices_fair.cas, fairChoices_fair.clock, w_frames, w_args, w_heap, w_applies, trivial, trivial, w_case⟩
end start1
theorem witness_1 : WitnessClaimed_1 := ⟨start1.p0, start1.e0, start1.about1, start1.theMethod, start1.args0, start1.below0, start1.atStart⟩
end Jvm.Pilot.@@N@@
