import JvmDerived
import JvmDerived.Pilot.@@N@@Statement
import JvmDerived.Pilot.@@N@@Code
set_option linter.unusedVariables false
set_option linter.unusedSimpArgs false
namespace Jvm.Pilot.@@N@@
open Jvm Jvm.ClassFile Sem Op Lib Jvm.Free Jvm.Stand Jvm.LawKit Jvm.RoadKit Bundle Jvm.Pilot.@@N@@.Jvm.D
def own_Run (p : Program) (e : Env) (below : List Frame) (s : State) (Q : Option Value → Heap → List Loc → Prop) (ck sk : Nat) (U : State) : Prop :=
  ∃ s₂ o, Steps p.tables e below U s₂ ∧ s₂.status = .running ∧ Ended s₂ below o ∧ ∃ v L, o = .returned v ∧ Q v s₂.heap L ∧ FrameEnd s o s₂ L ck sk
section OwnLayer
variable {p : Program} {l : Launch} {e : Env} {R : Room} {s : State} {m : MethodId} {args : Array Value} {below : List Frame} {meth : Method} {c : Code} {T : State} {locs : List Loc} {cells slots : Nat} {Z : State} {a0 : Array Value} {h : Heap} {Q : Option Value → Heap → List Loc → Prop} {ck sk : Nat}
theorem own_st {U U' : State} (hh : ∀ t, Steps p.tables e below U' t → Steps p.tables e below U t) (K : own_Run p e below s Q ck sk U') : own_Run p e below s Q ck sk U := by
  obtain ⟨s2, o, h1, r⟩ := K
  exact ⟨s2, o, hh _ h1, r⟩
theorem own_topI {pc : Nat} {Ls : Array Slot} {st : List Value} {v v' : Int32} (hv : v = v') (K : own_Run p e below s Q ck sk (T.setTop (mkF m pc Ls (.int v' :: st)))) : own_Run p e below s Q ck sk (T.setTop (mkF m pc Ls (.int v :: st))) := hv ▸ K
theorem own_topJ {pc : Nat} {Ls : Array Slot} {st : List Value} {v v' : Int64} (hv : v = v') (K : own_Run p e below s Q ck sk (T.setTop (mkF m pc Ls (.long v' :: st)))) : own_Run p e below s Q ck sk (T.setTop (mkF m pc Ls (.long v :: st))) := hv ▸ K
theorem own_topD {pc : Nat} {Ls : Array Slot} {st : List Value} {v v' : UInt64} (hv : v = v') (K : own_Run p e below s Q ck sk (T.setTop (mkF m pc Ls (.double v' :: st)))) : own_Run p e below s Q ck sk (T.setTop (mkF m pc Ls (.double v :: st))) := hv ▸ K
theorem own_ret (X : Stand p l e R s m args below meth c T locs cells slots) (hx : p.tables.exec = Jvm.exec) (hlk : meth.locks = false) {pc : Nat} {Ls : Array Slot} {w : Value} {t : FieldType} {i : Instr} {rest : List Value} (hret : meth.sig.returnType = some t) (hn : narrow t w = w)
    (hi : (i = .ireturn ∧ (t = .int ∨ t = .boolean ∨ t = .byte ∨ t = .char ∨ t = .short) ∧ ∃ z, w = .int z) ∨ (i = .lreturn ∧ t = .long ∧ ∃ z, w = .long z) ∨ (i = .dreturn ∧ t = .double ∧ ∃ z, w = .double z) ∨ (i = .freturn ∧ t = .float ∧ ∃ z, w = .float z) ∨ (i = .areturn ∧ t.isReference = true ∧ w.isRef = true))
    (hd : decode c.code pc = .ok (i, 1)) (hc : cells ≤ ck) (hs : slots ≤ sk) (hq : Q (some w) T.heap locs) : own_Run p e below s Q ck sk (T.setTop (mkF m pc Ls (w :: rest))) := by
  obtain ⟨fs, hr, hrun, hended, hW, hsame⟩ := X.leave (v := some w) (fun q => by rw [hret] at q; cases q) hlk
  exact ⟨_, _, retOut X hx hret hn hi hd hr, hrun, hended, _, _, rfl, hq, ⟨_, rfl⟩, hW, hsame.mono hc hs⟩
theorem own_retV (X : Stand p l e R s m args below meth c T locs cells slots) (hx : p.tables.exec = Jvm.exec) (hlk : meth.locks = false) {pc : Nat} {Ls : Array Slot} (hret : meth.sig.returnType = none)
    (hd : decode c.code pc = .ok (.return_, 1)) (hc : cells ≤ ck) (hs : slots ≤ sk) (hq : Q none T.heap locs) : own_Run p e below s Q ck sk (T.setTop (mkF m pc Ls [])) := by
  obtain ⟨fs, hr, hrun, hended, hW, hsame⟩ := X.leave (v := none) (fun _ => rfl) hlk
  exact ⟨_, _, X.returnOut hx hret hd hr, hrun, hended, _, _, rfl, hq, ⟨_, rfl⟩, hW, hsame.mono hc hs⟩
theorem own_body {y : MethodName} {bytes : ByteArray} {maxL : Nat} {ret : Option FieldType} {ws : List Jvm.Cond} {rm : Room} {as' : Array Value} {h0 : Heap} (hpl : plainFor y = true)
    (hbody : ∀ (p : Program) (e : Env) (s : State) (m : MethodId) (below : List Frame) (meth : Method) (c : Code) (s₁ : State), p.tables.exec = Jvm.exec → c.code = bytes → c.maxLocals = maxL → Z.Warmed39 s.vm → s.vm.findClass y.cls = some m.cls → meth.name = y.name → meth.sig.returnType = ret → meth.locks = false → Stand p l e rm s m as' below meth c s₁ [] 0 0 → s₁.heap = h0 → own_Run p e below s Q rm.cells rm.slots (s₁.setTop (entryFrame m as' maxL))) :
    MetFree l y (head1 (Jvm.Cond.code y bytes maxL ret :: ws) rm) (fun a U => a = as' ∧ Z.Warmed39 U.vm ∧ U.heap = h0) (fun _ _ _ _ _ => True) (fun _ U o U' => ∃ v L, o = .returned v ∧ Q v U'.heap L ∧ FrameEnd U o U' L rm.cells rm.slots) := by
  refine MetFree.of_bodySF hpl hisR ?_
  intro p e s m args below meth c s₁ Bd hml0 hP hK
  obtain ⟨rfl, hZ, hh⟩ := hP
  exact hbody p e s m below meth c s₁ Bd.exec Bd.bytes hml0 hZ (findClass_of_methodNamed Bd.named) (name_of_methodNamed Bd.named Bd.method).1 Bd.returns Bd.notSynchronized (Stand.of_body Bd) (by rw [← hh, Bd.state]; rfl)
theorem own_callI (X : Stand p l e R s m args below meth c T locs cells slots) (hx : p.tables.exec = Jvm.exec) (hZ : Z.Warmed39 s.vm) {own : String} {idx : Nat} {y : MethodName} (hy1 : y.name = "<init>") (hown : s.vm.findClass own = some m.cls) (w1 : (Jvm.Cond.methodLink own idx y).before a0 Z = true) (w2 : (Jvm.Cond.instanceMethod y).before a0 Z = true)
    {bytes : ByteArray} {maxL : Nat} (w3 : (Jvm.Cond.code y bytes maxL none).before a0 Z = true) (wz : (Jvm.Cond.initialized y.cls).before a0 Z = true) (hy : y.cls ≠ "java/lang/invoke/MethodHandle" ∧ y.cls ≠ "java/lang/invoke/VarHandle") (eT : T.heap = h) {rm : Room} {Qc : Option Value → Heap → List Loc → Prop} {a : Addr} {argsL rest : List Value}
    (hM : MetFree l y (head1 [Jvm.Cond.code y bytes maxL none] rm) (fun b U => b = (Value.ref a :: argsL).toArray ∧ Z.Warmed39 U.vm ∧ U.heap = h) (fun _ _ _ _ _ => True) (fun _ U o U' => ∃ v L, o = .returned v ∧ Qc v U'.heap L ∧ FrameEnd U o U' L rm.cells rm.slots))
    {W : Nat} (hf : rm.frames + 1 ≤ R.frames) (hl : W + (maxL + 11) + rm.locals ≤ R.locals) {pc : Nat} {Ls : Array Slot} {st : List Value} (hsize : Ls.size = c.maxLocals) (hlen : ∀ sig, parseMethodDescriptor y.desc = some sig → argsL.length = sig.parameters.length) (hst : st = argsL.reverse ++ .ref a :: rest) (hW : (rest.map fun v => v.category).sum ≤ W) (hd : decode c.code pc = .ok (.invokespecial idx, 3)) (hc : cells + rm.cells ≤ R.cells) (hs : slots + rm.slots ≤ R.slots)
    (K : ∀ (T' : State) (v : Option Value) (L : List Loc), Stand p l e R s m args below meth c T' (locs ++ L) (cells + rm.cells) (slots + rm.slots) → Qc v T'.heap L → own_Run p e below s Q ck sk (T'.setTop (mkF m (pc + 3) Ls (v.toList ++ rest)))) :
    own_Run p e below s Q ck sk (T.setTop (mkF m pc Ls st)) := by
  obtain ⟨v, _, ⟨T', L', k', n'⟩, -, X', ⟨Lc, hQ, hl', hk', hn'⟩, st'⟩ := X.specialBack hx (y := y) hy1 hown (mvT hZ w1) (mvT hZ w2) (mvT hZ w3) hy (backOf (W := W) hM hZ w3 wz hf hl) (g := mkF m pc Ls st) rfl hsize (Steps.refl _) (a := a) (argsL := argsL) (rest := rest) hlen hst (by show 2 * 0 + _ ≤ _; omega) hd (fun _ _ => ⟨rfl, eT, hc, hs⟩)
  dsimp only [Pt.U, Pt.locs, Pt.cells, Pt.slots] at X' hl' hk' hn' st' hQ
  subst hl' hk' hn'
  exact own_st (fun t k => st'.trans k) (K T' v Lc X' hQ)
theorem own_callV (X : Stand p l e R s m args below meth c T locs cells slots) (hx : p.tables.exec = Jvm.exec) (hZ : Z.Warmed39 s.vm) {own C : String} {idx : Nat} {y : MethodName} (hown : s.vm.findClass own = some m.cls) (w1 : (Jvm.Cond.methodLink own idx y).before a0 Z = true) (w2 : (Jvm.Cond.declares y).before a0 Z = true) (w3 : (Jvm.Cond.selects C y y).before a0 Z = true) (w4 : (Jvm.Cond.instanceMethod y).before a0 Z = true)
    {bytes : ByteArray} {maxL : Nat} {ret : Option FieldType} (w5 : (Jvm.Cond.code y bytes maxL ret).before a0 Z = true) (wz : (Jvm.Cond.initialized y.cls).before a0 Z = true) (hy : y.cls ≠ "java/lang/invoke/MethodHandle" ∧ y.cls ≠ "java/lang/invoke/VarHandle") (eT : T.heap = h) {a : Addr} (E : Exa Z h a C) {rm : Room} {Qc : Option Value → Heap → List Loc → Prop} {argsL rest : List Value}
    (hM : MetFree l y (head1 [Jvm.Cond.code y bytes maxL ret] rm) (fun b U => b = (Value.ref a :: argsL).toArray ∧ Z.Warmed39 U.vm ∧ U.heap = h) (fun _ _ _ _ _ => True) (fun _ U o U' => ∃ v L, o = .returned v ∧ Qc v U'.heap L ∧ FrameEnd U o U' L rm.cells rm.slots))
    {W : Nat} (hf : rm.frames + 1 ≤ R.frames) (hl : W + (maxL + 11) + rm.locals ≤ R.locals) {pc : Nat} {Ls : Array Slot} {st : List Value} (hsize : Ls.size = c.maxLocals) (hlen : ∀ sig, parseMethodDescriptor y.desc = some sig → argsL.length = sig.parameters.length) (hst : st = argsL.reverse ++ .ref a :: rest) (hW : (rest.map fun v => v.category).sum ≤ W) (hd : decode c.code pc = .ok (.invokevirtual idx, 3)) (hc : cells + rm.cells ≤ R.cells) (hs : slots + rm.slots ≤ R.slots)
    (K : ∀ (T' : State) (v : Option Value) (L : List Loc), Stand p l e R s m args below meth c T' (locs ++ L) (cells + rm.cells) (slots + rm.slots) → Qc v T'.heap L → own_Run p e below s Q ck sk (T'.setTop (mkF m (pc + 3) Ls (v.toList ++ rest)))) :
    own_Run p e below s Q ck sk (T.setTop (mkF m pc Ls st)) := by
  obtain ⟨cq, kq, qa, qb, qc⟩ := isOf hZ eT E
  obtain ⟨v, _, ⟨T', L', k', n'⟩, -, X', ⟨Lc, hQ, hl', hk', hn'⟩, st'⟩ := X.virtualBack hx (y := y) (z := y) hown (mvT hZ w1) (mvT hZ w2) (notFace_of_selects (args := #[]) (mvT hZ w3)) (mvT hZ w3) (mvT hZ w4) hy (backOf (W := W) hM hZ w5 wz hf hl) qa qc (g := mkF m pc Ls st) rfl hsize (Steps.refl _) (argsL := argsL) (rest := rest) hlen hst (by show 2 * 0 + _ ≤ _; omega) hd (fun _ _ => ⟨rfl, eT, hc, hs⟩)
  dsimp only [Pt.U, Pt.locs, Pt.cells, Pt.slots] at X' hl' hk' hn' st' hQ
  subst hl' hk' hn'
  exact own_st (fun t k => st'.trans k) (K T' v Lc X' hQ)
theorem own_callS (X : Stand p l e R s m args below meth c T locs cells slots) (hx : p.tables.exec = Jvm.exec) (hZ : Z.Warmed39 s.vm) {own : String} {idx : Nat} {y : MethodName} (hown : s.vm.findClass own = some m.cls) (w1 : (Jvm.Cond.methodLink own idx y).before a0 Z = true) (w2 : (Jvm.Cond.static y).before a0 Z = true)
    {bytes : ByteArray} {maxL : Nat} {ret : Option FieldType} (w5 : (Jvm.Cond.code y bytes maxL ret).before a0 Z = true) (wz : (Jvm.Cond.initialized y.cls).before a0 Z = true) (hy : y.cls ≠ "java/lang/invoke/MethodHandle" ∧ y.cls ≠ "java/lang/invoke/VarHandle") (eT : T.heap = h) {rm : Room} {Qc : Option Value → Heap → List Loc → Prop} {argsL rest : List Value}
    (hM : MetFree l y (head1 [Jvm.Cond.code y bytes maxL ret] rm) (fun b U => b = argsL.toArray ∧ Z.Warmed39 U.vm ∧ U.heap = h) (fun _ _ _ _ _ => True) (fun _ U o U' => ∃ v L, o = .returned v ∧ Qc v U'.heap L ∧ FrameEnd U o U' L rm.cells rm.slots))
    {W : Nat} (hf : rm.frames + 1 ≤ R.frames) (hl : W + (maxL + 11) + rm.locals ≤ R.locals) {pc : Nat} {Ls : Array Slot} {st : List Value} (hsize : Ls.size = c.maxLocals) (hlen : ∀ sig, parseMethodDescriptor y.desc = some sig → argsL.length = sig.parameters.length) (hst : st = argsL.reverse ++ rest) (hW : (rest.map fun v => v.category).sum ≤ W) (hd : decode c.code pc = .ok (.invokestatic idx, 3)) (hc : cells + rm.cells ≤ R.cells) (hs : slots + rm.slots ≤ R.slots)
    (K : ∀ (T' : State) (v : Option Value) (L : List Loc), Stand p l e R s m args below meth c T' (locs ++ L) (cells + rm.cells) (slots + rm.slots) → Qc v T'.heap L → own_Run p e below s Q ck sk (T'.setTop (mkF m (pc + 3) Ls (v.toList ++ rest)))) :
    own_Run p e below s Q ck sk (T.setTop (mkF m pc Ls st)) := by
  obtain ⟨v, _, ⟨T', L', k', n'⟩, -, X', ⟨Lc, hQ, hl', hk', hn'⟩, st'⟩ := Jvm.LawKit.callS X hx (y := y) hown (mvT hZ w1) (mvT hZ w2) (mvT hZ wz) (mvT hZ w5) hy (backOf (W := W) hM hZ w5 wz hf hl) (g := mkF m pc Ls st) rfl hsize (argsL := argsL) (rest := rest) hlen hst (by show 2 * 0 + _ ≤ _; omega) hd (fun _ _ => ⟨rfl, eT, hc, hs⟩)
  dsimp only [Pt.U, Pt.locs, Pt.cells, Pt.slots] at X' hl' hk' hn' st' hQ
  subst hl' hk' hn'
  exact own_st st' (K T' v Lc X' hQ)
end OwnLayer
section OwnNums
open Jvm.FP Jvm.Free.Fl
theorem own_b53 (x : Int32) : B53 x.toInt64 := by
  have := x.le_toInt; have := x.toInt_lt
  unfold B53; rw [Int32.toInt_toInt64]; omega
theorem own_i64lt (x y : Int32) : x.toInt64 < y.toInt64 ↔ x < y := by
  rw [Int64.lt_iff_toInt_lt, Int32.lt_iff_toInt_lt, Int32.toInt_toInt64, Int32.toInt_toInt64]
theorem own_i64eq (x y : Int32) : x.toInt64 = y.toInt64 ↔ x = y := by
  rw [← Int64.toInt_inj, ← Int32.toInt_inj, Int32.toInt_toInt64, Int32.toInt_toInt64]
theorem own_dcmp_lt (x y : Int32) (o : CmpOp) : cmpValue (FP.dcmp (FP.i2d x) (FP.i2d y)) o < 0 ↔ x < y := by
  rw [i2d_w, i2d_w, dcmpV_w (own_b53 x) (own_b53 y), lw_lt, own_i64lt]
theorem own_dcmp_gt (x y : Int32) (o : CmpOp) : 0 < cmpValue (FP.dcmp (FP.i2d x) (FP.i2d y)) o ↔ y < x := by
  rw [i2d_w, i2d_w, dcmpV_w (own_b53 x) (own_b53 y), lw_gt, own_i64lt]
theorem own_dcmp_eq (x y : Int32) (o : CmpOp) : cmpValue (FP.dcmp (FP.i2d x) (FP.i2d y)) o = 0 ↔ x = y := by
  rw [i2d_w, i2d_w, dcmpV_w (own_b53 x) (own_b53 y), lw_eq, own_i64eq]
theorem own_sub_lt (x y : Int32) : lcmpW (x.toInt64 - y.toInt64) 0 < 0 ↔ x < y := by
  have h := sub64 (own_b53 x) (own_b53 y)
  rw [lw_lt, Int64.lt_iff_toInt_lt, Int32.lt_iff_toInt_lt, h, Int32.toInt_toInt64, Int32.toInt_toInt64]
  have : (0 : Int64).toInt = 0 := rfl
  omega
end OwnNums
section OwnWords
theorem own_eqint {args : Array Value} {first s : State} {o : Option Outcome} {idx : List Nat} {t : Term} {k : Int32} (h : (Jvm.Cond.eq t (.int k)).value args first o s idx = some true) : t.eval args first o idx s = some (.int k) := by
  simp only [Cond.value, Term.eval] at h
  cases ht : t.eval args first o idx s with
  | none => simp [ht] at h
  | some x => cases x <;> simp [ht] at h ⊢; exact h
end OwnWords
section OwnInts
theorem own_prod {a b : Int} {A B : Nat} (ha : a.natAbs ≤ A) (hb : b.natAbs ≤ B) : (a * b).natAbs ≤ A * B := by
  rw [Int.natAbs_mul]; exact Nat.mul_le_mul ha hb
theorem own_shr (x : Int32) : (x >>> ((11 : Int32) &&& 31)).toInt.natAbs ≤ 1048576 := by
  rw [c_ishr x 11 11 (by decide)]
  have := x.le_toInt; have := x.toInt_lt
  show (x.toInt / (2048 : Nat)).natAbs ≤ _
  omega
end OwnInts
section OwnFl
open Jvm.FP Jvm.Free.Fl
abbrev own_zv (a : UInt64) : Int := Core.zval Core.b64 (Core.val64 a)
abbrev own_zm (a : UInt64) : Nat := Core.zmag Core.b64 (Core.val64 a)
theorem own_one : (Core.one64 : Nat) = 2 ^ 1074 := rfl
theorem own_finnn {a : UInt64} (h : Core.DFin a) : NoNaN64 a := (fin64_core.mpr h).noNaN
theorem own_finne {a : UInt64} (h : Core.DFin a) : Core.val64 a ≠ .nan := h.ne_nan
theorem own_addle {a b V : UInt64} (ha : Core.DFin a) (hb : Core.DFin b) (hV : Core.val64 V ≠ .nan) (h : own_zv a + own_zv b ≤ own_zv V) : own_zv (FP.dadd a b) ≤ own_zv V := by
  show Core.zval Core.b64 (Core.val64 (Core.dadd a b)) ≤ _
  rw [Core.val64_dadd]
  exact Core.sum_le Core.good_b64 ha hb (Core.val64_fits a) (Core.val64_fits b) (Core.val64_fits V) hV h
theorem own_addge {a b V : UInt64} (ha : Core.DFin a) (hb : Core.DFin b) (hV : Core.val64 V ≠ .nan) (h : own_zv V ≤ own_zv a + own_zv b) : own_zv V ≤ own_zv (FP.dadd a b) := by
  show _ ≤ Core.zval Core.b64 (Core.val64 (Core.dadd a b))
  rw [Core.val64_dadd]
  exact Core.sum_ge Core.good_b64 ha hb (Core.val64_fits a) (Core.val64_fits b) (Core.val64_fits V) hV h
theorem own_negfin {b : UInt64} (hb : Core.DFin b) : ∃ s c q, Core.negate (Core.val64 b) = .fin s c q := by
  obtain ⟨s, c, q, h⟩ := hb
  exact ⟨!s, c, q, by rw [h]; rfl⟩
theorem own_suble {a b V : UInt64} (ha : Core.DFin a) (hb : Core.DFin b) (hV : Core.val64 V ≠ .nan) (h : own_zv a - own_zv b ≤ own_zv V) : own_zv (FP.dsub a b) ≤ own_zv V := by
  show Core.zval Core.b64 (Core.val64 (Core.dsub a b)) ≤ _
  rw [Core.val64_dsub]
  exact Core.sum_le Core.good_b64 ha (own_negfin hb) (Core.val64_fits a) (Core.negate_fits (Core.val64_fits b)) (Core.val64_fits V) hV (by rw [Core.zval_negate]; exact h)
theorem own_subge {a b V : UInt64} (ha : Core.DFin a) (hb : Core.DFin b) (hV : Core.val64 V ≠ .nan) (h : own_zv V ≤ own_zv a - own_zv b) : own_zv V ≤ own_zv (FP.dsub a b) := by
  show _ ≤ Core.zval Core.b64 (Core.val64 (Core.dsub a b))
  rw [Core.val64_dsub]
  exact Core.sum_ge Core.good_b64 ha (own_negfin hb) (Core.val64_fits a) (Core.negate_fits (Core.val64_fits b)) (Core.val64_fits V) hV (by rw [Core.zval_negate]; exact h)
theorem own_pow2q : (2 ^ (Core.b64.qmin - 2 * Core.b64.qmin).toNat : Nat) = Core.one64 := by
  rw [show Core.b64.qmin - 2 * Core.b64.qmin = -Core.b64.qmin by omega]; exact Core.pow_qmin64
theorem own_mulle {a b V : UInt64} (ha : Core.DFin a) (hb : Core.DFin b) (hV : Core.val64 V ≠ .nan) (h : own_zv a * own_zv b ≤ own_zv V * (Core.one64 : Int)) : own_zv (FP.dmul a b) ≤ own_zv V := by
  obtain ⟨s, c, q, ea⟩ := ha
  obtain ⟨t, d, r, eb⟩ := hb
  have fa := Core.val64_fits a
  have fb := Core.val64_fits b
  rw [ea] at fa; rw [eb] at fb
  obtain ⟨h1, h2, h3⟩ := Core.product_units fa fb
  show Core.zval Core.b64 (Core.val64 (Core.dmul a b)) ≤ _
  rw [Core.val64_dmul, ea, eb, h1]
  refine Core.zval_round_le Core.good_b64 (Core.val64_fits V) hV (e0 := 2 * Core.b64.qmin) (by decide) h2 ?_
  rw [h3, Core.signed_xor, own_pow2q]
  simp only [own_zv, ea, eb] at h
  exact h
theorem own_mulge {a b V : UInt64} (ha : Core.DFin a) (hb : Core.DFin b) (hV : Core.val64 V ≠ .nan) (h : own_zv V * (Core.one64 : Int) ≤ own_zv a * own_zv b) : own_zv V ≤ own_zv (FP.dmul a b) := by
  obtain ⟨s, c, q, ea⟩ := ha
  obtain ⟨t, d, r, eb⟩ := hb
  have fa := Core.val64_fits a
  have fb := Core.val64_fits b
  rw [ea] at fa; rw [eb] at fb
  obtain ⟨h1, h2, h3⟩ := Core.product_units fa fb
  show _ ≤ Core.zval Core.b64 (Core.val64 (Core.dmul a b))
  rw [Core.val64_dmul, ea, eb, h1]
  refine Core.zval_round_ge Core.good_b64 (Core.val64_fits V) hV (e0 := 2 * Core.b64.qmin) (by decide) h2 ?_
  rw [h3, Core.signed_xor, own_pow2q]
  simp only [own_zv, ea, eb] at h
  exact h
theorem own_divdat {a b : UInt64} (ha : Core.DFin a) (hb : Core.DFin b) (hz : own_zm b ≠ 0) : ∃ (s t : Bool) (c d : Nat) (q r : Int), Core.val64 a = .fin s c q ∧ Core.val64 b = .fin t d r ∧ 0 < d ∧ Core.b64.qmin ≤ q ∧ Core.b64.qmin ≤ r ∧ Core.val64 (FP.ddiv a b) = Core.roundRatio Core.b64 (s != t) c d (q - r) := by
  obtain ⟨s, c, q, ea⟩ := ha
  obtain ⟨t, d, r, eb⟩ := hb
  have fa := Core.val64_fits a
  have fb := Core.val64_fits b
  rw [ea] at fa; rw [eb] at fb
  have hd : d ≠ 0 := fun q => hz (by unfold own_zm; rw [eb, q]; show Core.inUnits 0 _ _ = 0; unfold Core.inUnits; exact Nat.zero_mul _)
  refine ⟨s, t, c, d, q, r, ea, eb, Nat.pos_of_ne_zero hd, fa.2.1, fb.2.1, ?_⟩
  show Core.val64 (Core.ddiv a b) = _
  rw [Core.val64_ddiv, ea, eb]
  show (if d = 0 then _ else _) = _
  rw [if_neg hd]
theorem own_divunits {c d : Nat} {q r : Int} (hq : Core.b64.qmin ≤ q) (hr : Core.b64.qmin ≤ r) : 2 * Core.b64.qmin - r ≤ Core.b64.qmin ∧ 2 * Core.b64.qmin - r ≤ q - r ∧ Core.inUnits c (q - r) (2 * Core.b64.qmin - r) = Core.inUnits c q Core.b64.qmin * Core.one64 ∧ ∀ m : Nat, m * 2 ^ (Core.b64.qmin - (2 * Core.b64.qmin - r)).toNat * d = m * Core.inUnits d r Core.b64.qmin := by
  have hqm : Core.b64.qmin = -1074 := Core.qmin_b64
  refine ⟨by omega, by omega, ?_, fun m => ?_⟩
  · unfold Core.inUnits
    rw [show (q - r - (2 * Core.b64.qmin - r)).toNat = (q - Core.b64.qmin).toNat + (-Core.b64.qmin).toNat by omega, Nat.pow_add, Core.pow_qmin64, Nat.mul_assoc]
  · unfold Core.inUnits
    rw [show (Core.b64.qmin - (2 * Core.b64.qmin - r)).toNat = (r - Core.b64.qmin).toNat by omega, Nat.mul_assoc, Nat.mul_comm d]
theorem own_divle {a b V : UInt64} (ha : Core.DFin a) (hb : Core.DFin b) (hz : own_zm b ≠ 0) (hV : Core.val64 V ≠ .nan) (h : own_zm a * Core.one64 ≤ own_zm V * own_zm b) : own_zm (FP.ddiv a b) ≤ own_zm V := by
  obtain ⟨s, t, c, d, q, r, ea, eb, hd, hq, hr, e⟩ := own_divdat ha hb hz
  obtain ⟨u1, u2, u3, u4⟩ := own_divunits (c := c) (d := d) hq hr
  unfold own_zm
  rw [e]
  refine Core.zmag_roundRatio_le Core.good_b64 hd (Core.val64_fits V) hV u1 u2 ?_
  rw [u3, u4]
  simp only [own_zm, ea, eb] at h
  exact h
theorem own_divge {a b V : UInt64} (ha : Core.DFin a) (hb : Core.DFin b) (hz : own_zm b ≠ 0) (h : own_zm V * own_zm b ≤ own_zm a * Core.one64) : own_zm V ≤ own_zm (FP.ddiv a b) := by
  obtain ⟨s, t, c, d, q, r, ea, eb, hd, hq, hr, e⟩ := own_divdat ha hb hz
  obtain ⟨u1, u2, u3, u4⟩ := own_divunits (c := c) (d := d) hq hr
  unfold own_zm
  rw [e]
  refine Core.zmag_roundRatio_ge Core.good_b64 hd (Core.val64_fits V) u1 u2 ?_
  rw [u3, u4]
  simp only [own_zm, ea, eb] at h
  exact h
theorem own_divsgn {a b : UInt64} (ha : Core.DFin a) (hb : Core.DFin b) (hz : own_zm b ≠ 0) : Core.sgn (Core.val64 (FP.ddiv a b)) = (Core.sgn (Core.val64 a) != Core.sgn (Core.val64 b)) ∧ Core.val64 (FP.ddiv a b) ≠ .nan := by
  obtain ⟨s, t, c, d, q, r, ea, eb, hd, hq, hr, e⟩ := own_divdat ha hb hz
  rw [e, ea, eb]
  exact ⟨Core.sgn_roundRatio _ _ _ _ _, Core.roundRatio_ne_nan _ _ _ _ _⟩
theorem own_fintop {a : UInt64} (hn : Core.val64 a ≠ .nan) (h : own_zm a < Core.b64.tails * 2 ^ (Core.b64.exps - 2)) : Core.DFin a := by
  cases e : Core.val64 a with
  | nan => exact absurd e hn
  | inf s => rw [own_zm, e] at h; exact absurd h (Nat.lt_irrefl _)
  | fin s c q => exact ⟨s, c, q, e⟩
theorem own_finle {a V : UInt64} (hn : Core.val64 a ≠ .nan) (hV : Core.DFin V) (h : own_zm a ≤ own_zm V) : Core.DFin a := own_fintop hn (Nat.lt_of_le_of_lt h hV.zval_lt)
theorem own_zmabs (a : UInt64) : (own_zv a).natAbs = own_zm a := Core.natAbs_signed _ _
theorem own_addne {a b : UInt64} (ha : Core.DFin a) (hb : Core.DFin b) : Core.val64 (FP.dadd a b) ≠ .nan := (Core.notNaN_iff _).mp (Core.dadd_out ha.notNaN hb)
theorem own_subne {a b : UInt64} (ha : Core.DFin a) (hb : Core.DFin b) : Core.val64 (FP.dsub a b) ≠ .nan := (Core.notNaN_iff _).mp (Core.dsub_out ha.notNaN hb)
theorem own_mulne {a b : UInt64} (ha : Core.DFin a) (hb : Core.DFin b) : Core.val64 (FP.dmul a b) ≠ .nan := (Core.notNaN_iff _).mp (Core.dmul_out ha hb)
theorem own_nnof {a : UInt64} (h : Core.val64 a ≠ .nan) : NoNaN64 a := val64_no.mpr h
/-- the double a is i times two to the power (j - 1074) -/
def own_Z (j : Nat) (i : Int) (a : UInt64) : Prop := Core.DFin a ∧ own_zv a = i * ((2 ^ j : Nat) : Int)
theorem own_rep (n : Int) (j : Nat) (hn : n.natAbs < 2 ^ 53) (hj : j ≤ 2045) : ∃ V, own_Z j n V := by
  have hqm : Core.b64.qmin = -1074 := Core.qmin_b64
  have hqx : Core.b64.qmax = 971 := by decide
  obtain ⟨c', q', h1, h2⟩ := Core.round_exact Core.good_b64 (decide (n < 0)) (c := n.natAbs) (q := Core.b64.qmin + j) hn (by omega) (by omega)
  have hv : Core.val64 (Core.of64 (Core.round Core.b64 (.fin (decide (n < 0)) n.natAbs (Core.b64.qmin + j)))) = .fin (decide (n < 0)) c' q' := by
    rw [Core.val64_of64 (Core.round_fits Core.good_b64 _), h1]
  refine ⟨_, ⟨_, _, _, hv⟩, ?_⟩
  unfold own_zv
  rw [hv]
  show Core.signed (decide (n < 0)) (Core.inUnits c' q' Core.b64.qmin) = _
  rw [h2]
  unfold Core.inUnits
  rw [show (Core.b64.qmin + (j : Int) - Core.b64.qmin).toNat = j by omega, Core.signed_mul]
  congr 1
  unfold Core.signed
  by_cases h : n < 0 <;> simp [h] <;> omega
theorem own_Z.nn {j : Nat} {i : Int} {a : UInt64} (h : own_Z j i a) : NoNaN64 a := own_finnn h.1
theorem own_Z.eqv {j : Nat} {i : Int} {a V : UInt64} (hV : own_Z j i V) (hn : Core.val64 a ≠ .nan) (h1 : own_zv a ≤ own_zv V) (h2 : own_zv V ≤ own_zv a) : own_Z j i a := by
  have e : own_zv a = own_zv V := Int.le_antisymm h1 h2
  refine ⟨own_finle hn hV.1 ?_, e.trans hV.2⟩
  rw [← own_zmabs, ← own_zmabs, e]; exact Nat.le_refl _
theorem own_Z.add {j : Nat} {i k : Int} {a b : UInt64} (ha : own_Z j i a) (hb : own_Z j k b) (hn : (i + k).natAbs < 2 ^ 53) (hj : j ≤ 2045 := by decide) : own_Z j (i + k) (FP.dadd a b) := by
  obtain ⟨V, hV⟩ := own_rep (i + k) j hn hj
  have e : own_zv a + own_zv b = own_zv V := by rw [ha.2, hb.2, hV.2, Int.add_mul]
  exact hV.eqv (own_addne ha.1 hb.1) (own_addle ha.1 hb.1 (own_finne hV.1) (Int.le_of_eq e)) (own_addge ha.1 hb.1 (own_finne hV.1) (Int.le_of_eq e.symm))
theorem own_Z.sub {j : Nat} {i k : Int} {a b : UInt64} (ha : own_Z j i a) (hb : own_Z j k b) (hn : (i - k).natAbs < 2 ^ 53) (hj : j ≤ 2045 := by decide) : own_Z j (i - k) (FP.dsub a b) := by
  obtain ⟨V, hV⟩ := own_rep (i - k) j hn hj
  have e : own_zv a - own_zv b = own_zv V := by rw [ha.2, hb.2, hV.2, Int.sub_mul]
  exact hV.eqv (own_subne ha.1 hb.1) (own_suble ha.1 hb.1 (own_finne hV.1) (Int.le_of_eq e)) (own_subge ha.1 hb.1 (own_finne hV.1) (Int.le_of_eq e.symm))
theorem own_Z.mul {j j' J : Nat} {i k : Int} {a b : UInt64} (ha : own_Z j i a) (hb : own_Z j' k b) (hn : (i * k).natAbs < 2 ^ 53) (hJ : J + 1074 = j + j' := by decide) (hj : J ≤ 2045 := by decide) : own_Z J (i * k) (FP.dmul a b) := by
  obtain ⟨V, hV⟩ := own_rep (i * k) J hn hj
  have e : own_zv a * own_zv b = own_zv V * (Core.one64 : Int) := by
    rw [ha.2, hb.2, hV.2, own_one, Int.mul_assoc (i * k), ← Int.natCast_mul, ← Nat.pow_add, hJ, Nat.pow_add, Int.natCast_mul]
    simp only [Int.mul_assoc, Int.mul_left_comm, Int.mul_comm]
  exact hV.eqv (own_mulne ha.1 hb.1) (own_mulle ha.1 hb.1 (own_finne hV.1) (Int.le_of_eq e)) (own_mulge ha.1 hb.1 (own_finne hV.1) (Int.le_of_eq e.symm))
theorem own_zmZ {j : Nat} {i : Int} {a : UInt64} (h : own_Z j i a) : own_zm a = i.natAbs * 2 ^ j := by
  rw [← own_zmabs, h.2, Int.natAbs_mul, Int.natAbs_natCast]
theorem own_Z.div {j j' J : Nat} {i m : Int} {a b : UInt64} (ha : own_Z j (i * m) a) (hb : own_Z j' m b) (hm : m ≠ 0) (hn : i.natAbs < 2 ^ 53) (hJ : J + j' = j + 1074 := by decide) (hj : J ≤ 2045 := by decide) : own_Z J i (FP.ddiv a b) := by
  obtain ⟨V, hV⟩ := own_rep i J hn hj
  have hb0 : own_zm b ≠ 0 := by
    rw [own_zmZ hb]
    exact Nat.mul_ne_zero (by omega) (Nat.ne_of_gt (Nat.two_pow_pos _))
  have e : own_zm a * Core.one64 = own_zm V * own_zm b := by
    rw [own_zmZ ha, own_zmZ hb, own_zmZ hV, own_one, Int.natAbs_mul, Nat.mul_assoc, ← Nat.pow_add, ← hJ, Nat.pow_add]
    simp only [Nat.mul_assoc, Nat.mul_left_comm, Nat.mul_comm]
  obtain ⟨hs, hne⟩ := own_divsgn ha.1 hb.1 hb0
  have em : own_zm (FP.ddiv a b) = own_zm V := Nat.le_antisymm (own_divle ha.1 hb.1 hb0 (own_finne hV.1) (Nat.le_of_eq e)) (own_divge ha.1 hb.1 hb0 (Nat.le_of_eq e.symm))
  refine ⟨own_finle hne hV.1 (Nat.le_of_eq em), ?_⟩
  have ev : own_zv (FP.ddiv a b) * own_zv b = own_zv a * (Core.one64 : Int) := by
    show Core.signed _ _ * Core.signed _ _ = Core.signed _ _ * _
    rw [← Core.signed_xor, hs, ← Core.signed_mul]
    have e2 : Core.zmag Core.b64 (Core.val64 (FP.ddiv a b)) * Core.zmag Core.b64 (Core.val64 b) = Core.zmag Core.b64 (Core.val64 a) * Core.one64 := by
      rw [show Core.zmag Core.b64 (Core.val64 (FP.ddiv a b)) = own_zm V from em]; exact e.symm
    rw [e2]
    cases Core.sgn (Core.val64 a) <;> cases Core.sgn (Core.val64 b) <;> rfl
  rw [ha.2, hb.2, own_one] at ev
  have hp : ((2 ^ j' : Nat) : Int) ≠ 0 := by have := Nat.two_pow_pos j'; omega
  refine Int.eq_of_mul_eq_mul_right (Int.mul_ne_zero hm hp) (ev.trans ?_)
  rw [Int.mul_assoc (i * m), ← Int.natCast_mul, ← Nat.pow_add, ← hJ, Nat.pow_add, Int.natCast_mul]
  simp only [Int.mul_assoc, Int.mul_left_comm, Int.mul_comm]
theorem own_Z.neg {j : Nat} {i : Int} {a : UInt64} (h : own_Z j i a) : own_Z j (-i) (FP.dneg a) := by
  refine ⟨?_, ?_⟩
  · obtain ⟨s, c, q, e⟩ := own_negfin h.1
    exact ⟨s, c, q, by rw [FP.val64_dneg]; exact e⟩
  · unfold own_zv
    rw [FP.val64_dneg, Core.zval_negate]
    have := h.2; unfold own_zv at this; rw [this, Int.neg_mul]
theorem own_Z.of_int {i : Int} {a : UInt64} (h : Core.DInt i a) : own_Z 1074 i a := by
  refine ⟨?_, Core.DInt_zval h⟩
  unfold Core.DInt at h
  cases e : Core.val64 a with
  | nan => rw [e] at h; exact h.elim
  | inf s => rw [e] at h; exact h.elim
  | fin s c q => exact ⟨s, c, q, e⟩
theorem own_Z.i2d (x : Int32) : own_Z 1074 x.toInt (FP.i2d x) := own_Z.of_int (Core.i2d_int x)
theorem own_Z.l2d {x : Int64} (h : x.toInt.natAbs ≤ 2 ^ 53) : own_Z 1074 x.toInt (FP.l2d x) := own_Z.of_int (Core.l2d_int h)
theorem own_Z.shift {j k : Nat} {i : Int} {a : UInt64} (h : own_Z (j + k) i a) : own_Z j (i * ((2 ^ k : Nat) : Int)) a := by
  refine ⟨h.1, h.2.trans ?_⟩
  rw [Nat.add_comm, Nat.pow_add, Int.natCast_mul, Int.mul_assoc]
theorem own_Z.cmp {j : Nat} {i k : Int} {a b : UInt64} (ha : own_Z j i a) (hb : own_Z j k b) : FP.dcmp a b = some (compare i k) := by
  have h := Core.dcmp_zval (own_finne ha.1) (own_finne hb.1)
  have h1 := ha.2; have h2 := hb.2
  unfold own_zv at h1 h2
  rw [h1, h2, Core.compare_mul_pos _ _ _ (by have := Nat.two_pow_pos j; omega)] at h
  exact h
theorem own_Z.cmpE {j : Nat} {i k : Int} {a b : UInt64} (ha : own_Z j i a) (hb : own_Z j k b) (h : i = k) (o : CmpOp) : cmpValue (FP.dcmp a b) o = 0 := by
  rw [ha.cmp hb, (Core.compare_eq_iff _ _).mpr h]; cases o <;> rfl
theorem own_Z.cmpL {j : Nat} {i k : Int} {a b : UInt64} (ha : own_Z j i a) (hb : own_Z j k b) (h : i < k) (o : CmpOp) : cmpValue (FP.dcmp a b) o = -1 := by
  rw [ha.cmp hb, (Core.compare_lt_iff _ _).mpr h]; cases o <;> rfl
theorem own_Z.cmpG {j : Nat} {i k : Int} {a b : UInt64} (ha : own_Z j i a) (hb : own_Z j k b) (h : k < i) (o : CmpOp) : cmpValue (FP.dcmp a b) o = 1 := by
  rw [ha.cmp hb, (Core.compare_gt_iff _ _).mpr h]; cases o <;> rfl
theorem own_Z.eq {j : Nat} {i k : Int} {a : UInt64} (ha : own_Z j i a) (h : i = k) : own_Z j k a := h ▸ ha
theorem own_mulb {a b : Int} {A B : Nat} (ha : a.natAbs ≤ A) (hb : b.natAbs ≤ B) : (a * b).natAbs ≤ A * B := by
  rw [Int.natAbs_mul]; exact Nat.mul_le_mul ha hb
theorem own_Z0 : own_Z 1074 0 0 := by
  refine ⟨⟨false, 0, Core.b64.qmin, by decide +kernel⟩, by decide +kernel⟩
theorem own_Z1 : own_Z 1074 1 4607182418800017408 := own_Z.of_int Core.dint_one
end OwnFl
theorem own_d2_0 : decode jdk_30_method_1_code 0 = .ok (.aload_n 0, 1) := by decide +kernel
theorem own_d2_1 : decode jdk_30_method_1_code 1 = .ok (.invokespecial 1, 3) := by decide +kernel
theorem own_d2_4 : decode jdk_30_method_1_code 4 = .ok (.return_, 1) := by decide +kernel
set_option maxHeartbeats 4000000 in
theorem own_ef2 (m : MethodId) (x0 : Addr) : entryFrame m #[(.ref x0)] 1 = mkF m 0 #[.val (.ref x0)] [] := by first | (simp [entryFrame, mkF, argsToLocals, Value.category]; done) | rfl
theorem own_pn0 : plainName "java/lang/Record" = true := by first | (simp [plainName, overriddenIn]; done) | decide +kernel
def own_Q2 (Z : State) (a0 : Array Value) (o0 : Addr) (h0 : Heap) (n0 : Nat) (v : Option Value) (h : Heap) (L : List Loc) : Prop := v = none ∧ Fr n0 L ∧ h = h0
set_option maxRecDepth 65536 in
set_option maxHeartbeats 40000000 in
theorem own_rm2 (l : Launch) (Z : State) (a0 : Array Value) (hw : ∀ d ∈ tables_1, d.before a0 Z = true) (ws : List Jvm.Cond) (o0 : Addr) (h0 : Heap) (n0 : Nat) (Z0 : n0 ≤ h0.size) :
    MetFree l (⟨"java/lang/Record", "<init>", "()V"⟩ : MethodName) (head1 (Jvm.Cond.code (⟨"java/lang/Record", "<init>", "()V"⟩ : MethodName) jdk_30_method_1_code 1 none :: ws) ({ frames := 1, cells := 0, slots := 0, locals := 12 } : Room)) (fun a U => a = #[(.ref o0)] ∧ Z.Warmed39 U.vm ∧ U.heap = h0) (fun _ _ _ _ _ => True) (fun _ U o U' => ∃ v L, o = .returned v ∧ own_Q2 Z a0 o0 h0 n0 v U'.heap L ∧ FrameEnd U o U' L ({ frames := 1, cells := 0, slots := 0, locals := 12 } : Room).cells ({ frames := 1, cells := 0, slots := 0, locals := 12 } : Room).slots) := by
  refine own_body (Q := fun v h L => own_Q2 Z a0 o0 h0 n0 v h L) (plainFor_of_name own_pn0) ?_
  intro p e s m below meth c s₁ hx hby hml hZ hown hnm hret hlk X0 e0
  replace hml : c.maxLocals = 1 := hml
  have N0 := Fr.nil n0
  have K0 : Keep h0 h0 [] := Keep.refl _ _
  refine own_st (fun t k => castTop (own_ef2 m o0) k) ?_
  show own_Run p e below s _ _ _ (s₁.setTop (mkF m 0 #[.val (.ref o0)] []))
  refine own_st (fun t k => XS.aloadN X0.here hx rfl (hb hby own_d2_0) rfl rfl k) ?_
  show own_Run p e below s _ _ _ (s₁.setTop (mkF m 1 #[.val (.ref o0)] [(.ref o0)]))
  obtain ⟨T1, X1, e1, st1⟩ := initO X0 hx hZ hown (hw _ (List.mem_of_getElem? (i := 12) rfl)) (hw _ (List.mem_of_getElem? (i := 13) rfl)) (hw _ (List.mem_of_getElem? (i := 14) rfl)) e0 (g := (mkF m 1 #[.val (.ref o0)] [(.ref o0)])) rfl (by rw [hml]; rfl) rfl (hb hby own_d2_1) (by decide) (W := 0) (by show 2 * 0 + _ ≤ _; exact Nat.le_of_eq rfl) (by decide)
  refine own_st st1 ?_
  show own_Run p e below s _ _ _ (T1.setTop (mkF m 4 #[.val (.ref o0)] []))
  exact own_retV X1 hx hlk hret (hb hby own_d2_4) (by decide) (by decide) ⟨rfl, N0, e1⟩
theorem own_d1_0 : decode prog_91_method_1_code 0 = .ok (.aload_n 0, 1) := by decide +kernel
theorem own_d1_1 : decode prog_91_method_1_code 1 = .ok (.invokespecial 1, 3) := by decide +kernel
theorem own_pd1 : parseMethodDescriptor "()V" = some ⟨[], none⟩ := by decide +kernel
theorem own_d1_4 : decode prog_91_method_1_code 4 = .ok (.aload_n 0, 1) := by decide +kernel
theorem own_d1_5 : decode prog_91_method_1_code 5 = .ok (.dload_n 1, 1) := by decide +kernel
theorem own_d1_6 : decode prog_91_method_1_code 6 = .ok (.putfield 7, 3) := by decide +kernel
theorem own_d1_9 : decode prog_91_method_1_code 9 = .ok (.aload_n 0, 1) := by decide +kernel
theorem own_d1_10 : decode prog_91_method_1_code 10 = .ok (.dload_n 3, 1) := by decide +kernel
theorem own_d1_11 : decode prog_91_method_1_code 11 = .ok (.putfield 13, 3) := by decide +kernel
theorem own_d1_14 : decode prog_91_method_1_code 14 = .ok (.aload_n 0, 1) := by decide +kernel
theorem own_d1_15 : decode prog_91_method_1_code 15 = .ok (.dload 5, 2) := by decide +kernel
theorem own_d1_17 : decode prog_91_method_1_code 17 = .ok (.putfield 16, 3) := by decide +kernel
theorem own_d1_20 : decode prog_91_method_1_code 20 = .ok (.aload_n 0, 1) := by decide +kernel
theorem own_d1_21 : decode prog_91_method_1_code 21 = .ok (.dload 7, 2) := by decide +kernel
theorem own_d1_23 : decode prog_91_method_1_code 23 = .ok (.putfield 19, 3) := by decide +kernel
theorem own_d1_26 : decode prog_91_method_1_code 26 = .ok (.aload_n 0, 1) := by decide +kernel
theorem own_d1_27 : decode prog_91_method_1_code 27 = .ok (.dload 9, 2) := by decide +kernel
theorem own_d1_29 : decode prog_91_method_1_code 29 = .ok (.putfield 22, 3) := by decide +kernel
theorem own_d1_32 : decode prog_91_method_1_code 32 = .ok (.aload_n 0, 1) := by decide +kernel
theorem own_d1_33 : decode prog_91_method_1_code 33 = .ok (.dload 11, 2) := by decide +kernel
theorem own_d1_35 : decode prog_91_method_1_code 35 = .ok (.putfield 25, 3) := by decide +kernel
theorem own_d1_38 : decode prog_91_method_1_code 38 = .ok (.return_, 1) := by decide +kernel
set_option maxHeartbeats 4000000 in
theorem own_ef1 (m : MethodId) (x0 : Addr) (x1 : UInt64) (x2 : UInt64) (x3 : UInt64) (x4 : UInt64) (x5 : UInt64) (x6 : UInt64) : entryFrame m #[(.ref x0), (.double x1), (.double x2), (.double x3), (.double x4), (.double x5), (.double x6)] 13 = mkF m 0 #[.val (.ref x0), .val (.double x1), .second, .val (.double x2), .second, .val (.double x3), .second, .val (.double x4), .second, .val (.double x5), .second, .val (.double x6), .second] [] := by first | (simp [entryFrame, mkF, argsToLocals, Value.category]; done) | rfl
theorem own_pn2 : plainName "com/example/helioslope/helioslope/terrain/ClearSkyTerrain$Irradiance" = true := by first | (simp [plainName, overriddenIn]; done) | decide +kernel
def own_Q1 (Z : State) (a0 : Array Value) (a0_ : Addr) (d1 : UInt64) (d2 : UInt64) (d3 : UInt64) (d4 : UInt64) (d5 : UInt64) (d6 : UInt64) (h0 : Heap) (n0 : Nat) (v : Option Value) (h : Heap) (L : List Loc) : Prop := v = none ∧ Fr n0 L ∧ Keep h0 h [a0_] ∧ Exa Z h a0_ "com/example/helioslope/helioslope/terrain/ClearSkyTerrain$Irradiance" ∧ Fld Z h a0_ "com/example/helioslope/helioslope/terrain/ClearSkyTerrain$Irradiance" "beam" "D" (.double d1) ∧ Fld Z h a0_ "com/example/helioslope/helioslope/terrain/ClearSkyTerrain$Irradiance" "diffuse" "D" (.double d2) ∧ Fld Z h a0_ "com/example/helioslope/helioslope/terrain/ClearSkyTerrain$Irradiance" "reflected" "D" (.double d3)
set_option maxRecDepth 65536 in
set_option maxHeartbeats 40000000 in
theorem own_rm1 (l : Launch) (Z : State) (a0 : Array Value) (hw : ∀ d ∈ tables_1, d.before a0 Z = true) (ws : List Jvm.Cond) (a0_ : Addr) (d1 : UInt64) (d2 : UInt64) (d3 : UInt64) (d4 : UInt64) (d5 : UInt64) (d6 : UInt64) (h0 : Heap) (n0 : Nat) (Z0 : n0 ≤ h0.size) (E0 : Exa Z h0 a0_ "com/example/helioslope/helioslope/terrain/ClearSkyTerrain$Irradiance") (D0 : ∀ {O nm d : String} {ty : FieldType}, Laid Z a0 "com/example/helioslope/helioslope/terrain/ClearSkyTerrain$Irradiance" O nm d → parseFieldDescriptor d = some ty → Fld Z h0 a0_ O nm d (defaultValue ty)) (G0 : n0 ≤ a0_) :
    MetFree l (⟨"com/example/helioslope/helioslope/terrain/ClearSkyTerrain$Irradiance", "<init>", "(DDDDDD)V"⟩ : MethodName) (head1 (Jvm.Cond.code (⟨"com/example/helioslope/helioslope/terrain/ClearSkyTerrain$Irradiance", "<init>", "(DDDDDD)V"⟩ : MethodName) prog_91_method_1_code 13 none :: ws) ({ frames := 2, cells := 0, slots := 0, locals := 24 } : Room)) (fun a U => a = #[(.ref a0_), (.double d1), (.double d2), (.double d3), (.double d4), (.double d5), (.double d6)] ∧ Z.Warmed39 U.vm ∧ U.heap = h0) (fun _ _ _ _ _ => True) (fun _ U o U' => ∃ v L, o = .returned v ∧ own_Q1 Z a0 a0_ d1 d2 d3 d4 d5 d6 h0 n0 v U'.heap L ∧ FrameEnd U o U' L ({ frames := 2, cells := 0, slots := 0, locals := 24 } : Room).cells ({ frames := 2, cells := 0, slots := 0, locals := 24 } : Room).slots) := by
  refine own_body (Q := fun v h L => own_Q1 Z a0 a0_ d1 d2 d3 d4 d5 d6 h0 n0 v h L) (plainFor_of_name own_pn2) ?_
  intro p e s m below meth c s₁ hx hby hml hZ hown hnm hret hlk X0 e0
  replace hml : c.maxLocals = 13 := hml
  have N0 := Fr.nil n0
  have K0 : Keep h0 h0 [a0_] := Keep.refl _ _
  refine own_st (fun t k => castTop (own_ef1 m a0_ d1 d2 d3 d4 d5 d6) k) ?_
  show own_Run p e below s _ _ _ (s₁.setTop (mkF m 0 #[.val (.ref a0_), .val (.double d1), .second, .val (.double d2), .second, .val (.double d3), .second, .val (.double d4), .second, .val (.double d5), .second, .val (.double d6), .second] []))
  refine own_st (fun t k => XS.aloadN X0.here hx rfl (hb hby own_d1_0) rfl rfl k) ?_
  show own_Run p e below s _ _ _ (s₁.setTop (mkF m 1 #[.val (.ref a0_), .val (.double d1), .second, .val (.double d2), .second, .val (.double d3), .second, .val (.double d4), .second, .val (.double d5), .second, .val (.double d6), .second] [(.ref a0_)]))
  refine own_callI X0 hx hZ (y := (⟨"java/lang/Record", "<init>", "()V"⟩ : MethodName)) rfl hown (hw _ (List.mem_of_getElem? (i := 7) rfl)) (hw _ (List.mem_of_getElem? (i := 8) rfl)) (hw _ (List.mem_of_getElem? (i := 11) rfl)) (hw _ (List.mem_of_getElem? (i := 10) rfl)) (by decide) e0 (a := a0_) (argsL := []) (rest := []) (W := 0) (own_rm2 l Z a0 hw [] a0_ h0 n0 (Nat.le_trans Z0 K0.1) ) (by decide) (by decide) (by rw [hml]; rfl) (lenOf own_pd1 rfl) rfl (by exact Nat.le_of_eq rfl) (hb hby own_d1_1) (by decide) (by decide) ?_
  intro T2 v2 L2 X2 hq2
  obtain ⟨rfl, N2q, hh2⟩ := hq2
  have N2 := Fr.app N0 N2q
  show own_Run p e below s _ _ _ (T2.setTop (mkF m 4 #[.val (.ref a0_), .val (.double d1), .second, .val (.double d2), .second, .val (.double d3), .second, .val (.double d4), .second, .val (.double d5), .second, .val (.double d6), .second] []))
  refine own_st (fun t k => XS.aloadN X2.here hx rfl (hb hby own_d1_4) rfl rfl k) ?_
  show own_Run p e below s _ _ _ (T2.setTop (mkF m 5 #[.val (.ref a0_), .val (.double d1), .second, .val (.double d2), .second, .val (.double d3), .second, .val (.double d4), .second, .val (.double d5), .second, .val (.double d6), .second] [(.ref a0_)]))
  refine own_st (fun t k => XS.dloadN X2.here hx rfl (hb hby own_d1_5) rfl k) ?_
  show own_Run p e below s _ _ _ (T2.setTop (mkF m 6 #[.val (.ref a0_), .val (.double d1), .second, .val (.double d2), .second, .val (.double d3), .second, .val (.double d4), .second, .val (.double d5), .second, .val (.double d6), .second] [(.double d1), (.ref a0_)]))
  have F3 : Fld Z _ a0_ "com/example/helioslope/helioslope/terrain/ClearSkyTerrain$Irradiance" "beam" "D" (.double (0 : UInt64)) := D0 (Or.inr (hw _ (List.mem_of_getElem? (i := 16) rfl))) (ty := .double) (by decide)
  obtain ⟨T4, h4, X4, e4, W4, st4⟩ := putF X2 hx hZ hown (host := "") (Or.inl (hw _ (List.mem_of_getElem? (i := 15) rfl))) Via.refl hh2 F3 E0 (Or.inr ⟨(hw _ (List.mem_of_getElem? (i := 16) rfl)), rfl, hnm⟩) (hw _ (List.mem_of_getElem? (i := 2) rfl)) (ty := .double) (by decide) rfl rfl (g := (mkF m 6 #[.val (.ref a0_), .val (.double d1), .second, .val (.double d2), .second, .val (.double d3), .second, .val (.double d4), .second, .val (.double d5), .second, .val (.double d6), .second] [(.double d1), (.ref a0_)])) rfl rfl (hb hby own_d1_6)
  refine own_st st4 ?_
  have Fw4 := F3.same W4
  have N4 := Fr.snoc X4 N2 G0
  have K5 : Keep h0 h4 [a0_] := K0.wr W4 (Or.inl (List.mem_of_getElem? (i := 0) rfl))
  show own_Run p e below s _ _ _ (T4.setTop (mkF m 9 #[.val (.ref a0_), .val (.double d1), .second, .val (.double d2), .second, .val (.double d3), .second, .val (.double d4), .second, .val (.double d5), .second, .val (.double d6), .second] []))
  refine own_st (fun t k => XS.aloadN X4.here hx rfl (hb hby own_d1_9) rfl rfl k) ?_
  show own_Run p e below s _ _ _ (T4.setTop (mkF m 10 #[.val (.ref a0_), .val (.double d1), .second, .val (.double d2), .second, .val (.double d3), .second, .val (.double d4), .second, .val (.double d5), .second, .val (.double d6), .second] [(.ref a0_)]))
  refine own_st (fun t k => XS.dloadN X4.here hx rfl (hb hby own_d1_10) rfl k) ?_
  show own_Run p e below s _ _ _ (T4.setTop (mkF m 11 #[.val (.ref a0_), .val (.double d1), .second, .val (.double d2), .second, .val (.double d3), .second, .val (.double d4), .second, .val (.double d5), .second, .val (.double d6), .second] [(.double d2), (.ref a0_)]))
  have E7 := (E0.wr W4)
  have F8 : Fld Z _ a0_ "com/example/helioslope/helioslope/terrain/ClearSkyTerrain$Irradiance" "diffuse" "D" (.double (0 : UInt64)) := D0 (Or.inr (hw _ (List.mem_of_getElem? (i := 18) rfl))) (ty := .double) (by decide)
  have F9 := (F8.other W4 (Or.inr (slot_ne (Or.inr (hw _ (List.mem_of_getElem? (i := 18) rfl))) (Or.inr (hw _ (List.mem_of_getElem? (i := 16) rfl))) (by decide) (t := .double) (t' := .double) (by decide) (by decide))))
  obtain ⟨T10, h10, X10, e10, W10, st10⟩ := putF X4 hx hZ hown (host := "") (Or.inl (hw _ (List.mem_of_getElem? (i := 17) rfl))) Via.refl e4 F9 E7 (Or.inr ⟨(hw _ (List.mem_of_getElem? (i := 18) rfl)), rfl, hnm⟩) (hw _ (List.mem_of_getElem? (i := 2) rfl)) (ty := .double) (by decide) rfl rfl (g := (mkF m 11 #[.val (.ref a0_), .val (.double d1), .second, .val (.double d2), .second, .val (.double d3), .second, .val (.double d4), .second, .val (.double d5), .second, .val (.double d6), .second] [(.double d2), (.ref a0_)])) rfl rfl (hb hby own_d1_11)
  refine own_st st10 ?_
  have Fw10 := F9.same W10
  have N10 := Fr.snoc X10 N4 G0
  have K11 : Keep h0 h10 [a0_] := K5.wr W10 (Or.inl (List.mem_of_getElem? (i := 0) rfl))
  show own_Run p e below s _ _ _ (T10.setTop (mkF m 14 #[.val (.ref a0_), .val (.double d1), .second, .val (.double d2), .second, .val (.double d3), .second, .val (.double d4), .second, .val (.double d5), .second, .val (.double d6), .second] []))
  refine own_st (fun t k => XS.aloadN X10.here hx rfl (hb hby own_d1_14) rfl rfl k) ?_
  show own_Run p e below s _ _ _ (T10.setTop (mkF m 15 #[.val (.ref a0_), .val (.double d1), .second, .val (.double d2), .second, .val (.double d3), .second, .val (.double d4), .second, .val (.double d5), .second, .val (.double d6), .second] [(.ref a0_)]))
  refine own_st (fun t k => XS.dload X10.here hx rfl (hb hby own_d1_15) rfl k) ?_
  show own_Run p e below s _ _ _ (T10.setTop (mkF m 17 #[.val (.ref a0_), .val (.double d1), .second, .val (.double d2), .second, .val (.double d3), .second, .val (.double d4), .second, .val (.double d5), .second, .val (.double d6), .second] [(.double d3), (.ref a0_)]))
  have E13 := (E7.wr W10)
  have F14 : Fld Z _ a0_ "com/example/helioslope/helioslope/terrain/ClearSkyTerrain$Irradiance" "reflected" "D" (.double (0 : UInt64)) := D0 (Or.inr (hw _ (List.mem_of_getElem? (i := 20) rfl))) (ty := .double) (by decide)
  have F15 := ((F14.other W4 (Or.inr (slot_ne (Or.inr (hw _ (List.mem_of_getElem? (i := 20) rfl))) (Or.inr (hw _ (List.mem_of_getElem? (i := 16) rfl))) (by decide) (t := .double) (t' := .double) (by decide) (by decide)))).other W10 (Or.inr (slot_ne (Or.inr (hw _ (List.mem_of_getElem? (i := 20) rfl))) (Or.inr (hw _ (List.mem_of_getElem? (i := 18) rfl))) (by decide) (t := .double) (t' := .double) (by decide) (by decide))))
  obtain ⟨T16, h16, X16, e16, W16, st16⟩ := putF X10 hx hZ hown (host := "") (Or.inl (hw _ (List.mem_of_getElem? (i := 19) rfl))) Via.refl e10 F15 E13 (Or.inr ⟨(hw _ (List.mem_of_getElem? (i := 20) rfl)), rfl, hnm⟩) (hw _ (List.mem_of_getElem? (i := 2) rfl)) (ty := .double) (by decide) rfl rfl (g := (mkF m 17 #[.val (.ref a0_), .val (.double d1), .second, .val (.double d2), .second, .val (.double d3), .second, .val (.double d4), .second, .val (.double d5), .second, .val (.double d6), .second] [(.double d3), (.ref a0_)])) rfl rfl (hb hby own_d1_17)
  refine own_st st16 ?_
  have Fw16 := F15.same W16
  have N16 := Fr.snoc X16 N10 G0
  have K17 : Keep h0 h16 [a0_] := K11.wr W16 (Or.inl (List.mem_of_getElem? (i := 0) rfl))
  show own_Run p e below s _ _ _ (T16.setTop (mkF m 20 #[.val (.ref a0_), .val (.double d1), .second, .val (.double d2), .second, .val (.double d3), .second, .val (.double d4), .second, .val (.double d5), .second, .val (.double d6), .second] []))
  refine own_st (fun t k => XS.aloadN X16.here hx rfl (hb hby own_d1_20) rfl rfl k) ?_
  show own_Run p e below s _ _ _ (T16.setTop (mkF m 21 #[.val (.ref a0_), .val (.double d1), .second, .val (.double d2), .second, .val (.double d3), .second, .val (.double d4), .second, .val (.double d5), .second, .val (.double d6), .second] [(.ref a0_)]))
  refine own_st (fun t k => XS.dload X16.here hx rfl (hb hby own_d1_21) rfl k) ?_
  show own_Run p e below s _ _ _ (T16.setTop (mkF m 23 #[.val (.ref a0_), .val (.double d1), .second, .val (.double d2), .second, .val (.double d3), .second, .val (.double d4), .second, .val (.double d5), .second, .val (.double d6), .second] [(.double d4), (.ref a0_)]))
  have E19 := (E13.wr W16)
  have F20 : Fld Z _ a0_ "com/example/helioslope/helioslope/terrain/ClearSkyTerrain$Irradiance" "directHorizontal" "D" (.double (0 : UInt64)) := D0 (Or.inr (hw _ (List.mem_of_getElem? (i := 22) rfl))) (ty := .double) (by decide)
  have F21 := (((F20.other W4 (Or.inr (slot_ne (Or.inr (hw _ (List.mem_of_getElem? (i := 22) rfl))) (Or.inr (hw _ (List.mem_of_getElem? (i := 16) rfl))) (by decide) (t := .double) (t' := .double) (by decide) (by decide)))).other W10 (Or.inr (slot_ne (Or.inr (hw _ (List.mem_of_getElem? (i := 22) rfl))) (Or.inr (hw _ (List.mem_of_getElem? (i := 18) rfl))) (by decide) (t := .double) (t' := .double) (by decide) (by decide)))).other W16 (Or.inr (slot_ne (Or.inr (hw _ (List.mem_of_getElem? (i := 22) rfl))) (Or.inr (hw _ (List.mem_of_getElem? (i := 20) rfl))) (by decide) (t := .double) (t' := .double) (by decide) (by decide))))
  obtain ⟨T22, h22, X22, e22, W22, st22⟩ := putF X16 hx hZ hown (host := "") (Or.inl (hw _ (List.mem_of_getElem? (i := 21) rfl))) Via.refl e16 F21 E19 (Or.inr ⟨(hw _ (List.mem_of_getElem? (i := 22) rfl)), rfl, hnm⟩) (hw _ (List.mem_of_getElem? (i := 2) rfl)) (ty := .double) (by decide) rfl rfl (g := (mkF m 23 #[.val (.ref a0_), .val (.double d1), .second, .val (.double d2), .second, .val (.double d3), .second, .val (.double d4), .second, .val (.double d5), .second, .val (.double d6), .second] [(.double d4), (.ref a0_)])) rfl rfl (hb hby own_d1_23)
  refine own_st st22 ?_
  have Fw22 := F21.same W22
  have N22 := Fr.snoc X22 N16 G0
  have K23 : Keep h0 h22 [a0_] := K17.wr W22 (Or.inl (List.mem_of_getElem? (i := 0) rfl))
  show own_Run p e below s _ _ _ (T22.setTop (mkF m 26 #[.val (.ref a0_), .val (.double d1), .second, .val (.double d2), .second, .val (.double d3), .second, .val (.double d4), .second, .val (.double d5), .second, .val (.double d6), .second] []))
  refine own_st (fun t k => XS.aloadN X22.here hx rfl (hb hby own_d1_26) rfl rfl k) ?_
  show own_Run p e below s _ _ _ (T22.setTop (mkF m 27 #[.val (.ref a0_), .val (.double d1), .second, .val (.double d2), .second, .val (.double d3), .second, .val (.double d4), .second, .val (.double d5), .second, .val (.double d6), .second] [(.ref a0_)]))
  refine own_st (fun t k => XS.dload X22.here hx rfl (hb hby own_d1_27) rfl k) ?_
  show own_Run p e below s _ _ _ (T22.setTop (mkF m 29 #[.val (.ref a0_), .val (.double d1), .second, .val (.double d2), .second, .val (.double d3), .second, .val (.double d4), .second, .val (.double d5), .second, .val (.double d6), .second] [(.double d5), (.ref a0_)]))
  have E25 := (E19.wr W22)
  have F26 : Fld Z _ a0_ "com/example/helioslope/helioslope/terrain/ClearSkyTerrain$Irradiance" "diffuseHorizontal" "D" (.double (0 : UInt64)) := D0 (Or.inr (hw _ (List.mem_of_getElem? (i := 24) rfl))) (ty := .double) (by decide)
  have F27 := ((((F26.other W4 (Or.inr (slot_ne (Or.inr (hw _ (List.mem_of_getElem? (i := 24) rfl))) (Or.inr (hw _ (List.mem_of_getElem? (i := 16) rfl))) (by decide) (t := .double) (t' := .double) (by decide) (by decide)))).other W10 (Or.inr (slot_ne (Or.inr (hw _ (List.mem_of_getElem? (i := 24) rfl))) (Or.inr (hw _ (List.mem_of_getElem? (i := 18) rfl))) (by decide) (t := .double) (t' := .double) (by decide) (by decide)))).other W16 (Or.inr (slot_ne (Or.inr (hw _ (List.mem_of_getElem? (i := 24) rfl))) (Or.inr (hw _ (List.mem_of_getElem? (i := 20) rfl))) (by decide) (t := .double) (t' := .double) (by decide) (by decide)))).other W22 (Or.inr (slot_ne (Or.inr (hw _ (List.mem_of_getElem? (i := 24) rfl))) (Or.inr (hw _ (List.mem_of_getElem? (i := 22) rfl))) (by decide) (t := .double) (t' := .double) (by decide) (by decide))))
  obtain ⟨T28, h28, X28, e28, W28, st28⟩ := putF X22 hx hZ hown (host := "") (Or.inl (hw _ (List.mem_of_getElem? (i := 23) rfl))) Via.refl e22 F27 E25 (Or.inr ⟨(hw _ (List.mem_of_getElem? (i := 24) rfl)), rfl, hnm⟩) (hw _ (List.mem_of_getElem? (i := 2) rfl)) (ty := .double) (by decide) rfl rfl (g := (mkF m 29 #[.val (.ref a0_), .val (.double d1), .second, .val (.double d2), .second, .val (.double d3), .second, .val (.double d4), .second, .val (.double d5), .second, .val (.double d6), .second] [(.double d5), (.ref a0_)])) rfl rfl (hb hby own_d1_29)
  refine own_st st28 ?_
  have Fw28 := F27.same W28
  have N28 := Fr.snoc X28 N22 G0
  have K29 : Keep h0 h28 [a0_] := K23.wr W28 (Or.inl (List.mem_of_getElem? (i := 0) rfl))
  show own_Run p e below s _ _ _ (T28.setTop (mkF m 32 #[.val (.ref a0_), .val (.double d1), .second, .val (.double d2), .second, .val (.double d3), .second, .val (.double d4), .second, .val (.double d5), .second, .val (.double d6), .second] []))
  refine own_st (fun t k => XS.aloadN X28.here hx rfl (hb hby own_d1_32) rfl rfl k) ?_
  show own_Run p e below s _ _ _ (T28.setTop (mkF m 33 #[.val (.ref a0_), .val (.double d1), .second, .val (.double d2), .second, .val (.double d3), .second, .val (.double d4), .second, .val (.double d5), .second, .val (.double d6), .second] [(.ref a0_)]))
  refine own_st (fun t k => XS.dload X28.here hx rfl (hb hby own_d1_33) rfl k) ?_
  show own_Run p e below s _ _ _ (T28.setTop (mkF m 35 #[.val (.ref a0_), .val (.double d1), .second, .val (.double d2), .second, .val (.double d3), .second, .val (.double d4), .second, .val (.double d5), .second, .val (.double d6), .second] [(.double d6), (.ref a0_)]))
  have E31 := (E25.wr W28)
  have F32 : Fld Z _ a0_ "com/example/helioslope/helioslope/terrain/ClearSkyTerrain$Irradiance" "extraterrestrialHorizontal" "D" (.double (0 : UInt64)) := D0 (Or.inr (hw _ (List.mem_of_getElem? (i := 26) rfl))) (ty := .double) (by decide)
  have F33 := (((((F32.other W4 (Or.inr (slot_ne (Or.inr (hw _ (List.mem_of_getElem? (i := 26) rfl))) (Or.inr (hw _ (List.mem_of_getElem? (i := 16) rfl))) (by decide) (t := .double) (t' := .double) (by decide) (by decide)))).other W10 (Or.inr (slot_ne (Or.inr (hw _ (List.mem_of_getElem? (i := 26) rfl))) (Or.inr (hw _ (List.mem_of_getElem? (i := 18) rfl))) (by decide) (t := .double) (t' := .double) (by decide) (by decide)))).other W16 (Or.inr (slot_ne (Or.inr (hw _ (List.mem_of_getElem? (i := 26) rfl))) (Or.inr (hw _ (List.mem_of_getElem? (i := 20) rfl))) (by decide) (t := .double) (t' := .double) (by decide) (by decide)))).other W22 (Or.inr (slot_ne (Or.inr (hw _ (List.mem_of_getElem? (i := 26) rfl))) (Or.inr (hw _ (List.mem_of_getElem? (i := 22) rfl))) (by decide) (t := .double) (t' := .double) (by decide) (by decide)))).other W28 (Or.inr (slot_ne (Or.inr (hw _ (List.mem_of_getElem? (i := 26) rfl))) (Or.inr (hw _ (List.mem_of_getElem? (i := 24) rfl))) (by decide) (t := .double) (t' := .double) (by decide) (by decide))))
  obtain ⟨T34, h34, X34, e34, W34, st34⟩ := putF X28 hx hZ hown (host := "") (Or.inl (hw _ (List.mem_of_getElem? (i := 25) rfl))) Via.refl e28 F33 E31 (Or.inr ⟨(hw _ (List.mem_of_getElem? (i := 26) rfl)), rfl, hnm⟩) (hw _ (List.mem_of_getElem? (i := 2) rfl)) (ty := .double) (by decide) rfl rfl (g := (mkF m 35 #[.val (.ref a0_), .val (.double d1), .second, .val (.double d2), .second, .val (.double d3), .second, .val (.double d4), .second, .val (.double d5), .second, .val (.double d6), .second] [(.double d6), (.ref a0_)])) rfl rfl (hb hby own_d1_35)
  refine own_st st34 ?_
  have Fw34 := F33.same W34
  have N34 := Fr.snoc X34 N28 G0
  have K35 : Keep h0 h34 [a0_] := K29.wr W34 (Or.inl (List.mem_of_getElem? (i := 0) rfl))
  show own_Run p e below s _ _ _ (T34.setTop (mkF m 38 #[.val (.ref a0_), .val (.double d1), .second, .val (.double d2), .second, .val (.double d3), .second, .val (.double d4), .second, .val (.double d5), .second, .val (.double d6), .second] []))
  have hQe := e34
  subst hQe
  have E37 := (E31.wr W34)
  have F38 := (((((Fw4.other W10 (Or.inr (slot_ne (Or.inr (hw _ (List.mem_of_getElem? (i := 16) rfl))) (Or.inr (hw _ (List.mem_of_getElem? (i := 18) rfl))) (by decide) (t := .double) (t' := .double) (by decide) (by decide)))).other W16 (Or.inr (slot_ne (Or.inr (hw _ (List.mem_of_getElem? (i := 16) rfl))) (Or.inr (hw _ (List.mem_of_getElem? (i := 20) rfl))) (by decide) (t := .double) (t' := .double) (by decide) (by decide)))).other W22 (Or.inr (slot_ne (Or.inr (hw _ (List.mem_of_getElem? (i := 16) rfl))) (Or.inr (hw _ (List.mem_of_getElem? (i := 22) rfl))) (by decide) (t := .double) (t' := .double) (by decide) (by decide)))).other W28 (Or.inr (slot_ne (Or.inr (hw _ (List.mem_of_getElem? (i := 16) rfl))) (Or.inr (hw _ (List.mem_of_getElem? (i := 24) rfl))) (by decide) (t := .double) (t' := .double) (by decide) (by decide)))).other W34 (Or.inr (slot_ne (Or.inr (hw _ (List.mem_of_getElem? (i := 16) rfl))) (Or.inr (hw _ (List.mem_of_getElem? (i := 26) rfl))) (by decide) (t := .double) (t' := .double) (by decide) (by decide))))
  have F39 := ((((Fw10.other W16 (Or.inr (slot_ne (Or.inr (hw _ (List.mem_of_getElem? (i := 18) rfl))) (Or.inr (hw _ (List.mem_of_getElem? (i := 20) rfl))) (by decide) (t := .double) (t' := .double) (by decide) (by decide)))).other W22 (Or.inr (slot_ne (Or.inr (hw _ (List.mem_of_getElem? (i := 18) rfl))) (Or.inr (hw _ (List.mem_of_getElem? (i := 22) rfl))) (by decide) (t := .double) (t' := .double) (by decide) (by decide)))).other W28 (Or.inr (slot_ne (Or.inr (hw _ (List.mem_of_getElem? (i := 18) rfl))) (Or.inr (hw _ (List.mem_of_getElem? (i := 24) rfl))) (by decide) (t := .double) (t' := .double) (by decide) (by decide)))).other W34 (Or.inr (slot_ne (Or.inr (hw _ (List.mem_of_getElem? (i := 18) rfl))) (Or.inr (hw _ (List.mem_of_getElem? (i := 26) rfl))) (by decide) (t := .double) (t' := .double) (by decide) (by decide))))
  have F40 := (((Fw16.other W22 (Or.inr (slot_ne (Or.inr (hw _ (List.mem_of_getElem? (i := 20) rfl))) (Or.inr (hw _ (List.mem_of_getElem? (i := 22) rfl))) (by decide) (t := .double) (t' := .double) (by decide) (by decide)))).other W28 (Or.inr (slot_ne (Or.inr (hw _ (List.mem_of_getElem? (i := 20) rfl))) (Or.inr (hw _ (List.mem_of_getElem? (i := 24) rfl))) (by decide) (t := .double) (t' := .double) (by decide) (by decide)))).other W34 (Or.inr (slot_ne (Or.inr (hw _ (List.mem_of_getElem? (i := 20) rfl))) (Or.inr (hw _ (List.mem_of_getElem? (i := 26) rfl))) (by decide) (t := .double) (t' := .double) (by decide) (by decide))))
  exact own_retV X34 hx hlk hret (hb hby own_d1_38) (by decide) (by decide) ⟨rfl, N34, K35, E37, F38, F39, F40⟩
theorem own_d4_0 : decode prog_91_method_2_code 0 = .ok (.aload_n 0, 1) := by decide +kernel
theorem own_d4_1 : decode prog_91_method_2_code 1 = .ok (.getfield 7, 3) := by decide +kernel
theorem own_d4_4 : decode prog_91_method_2_code 4 = .ok (.aload_n 0, 1) := by decide +kernel
theorem own_d4_5 : decode prog_91_method_2_code 5 = .ok (.getfield 13, 3) := by decide +kernel
theorem own_d4_8 : decode prog_91_method_2_code 8 = .ok (.dadd, 1) := by decide +kernel
theorem own_d4_9 : decode prog_91_method_2_code 9 = .ok (.aload_n 0, 1) := by decide +kernel
theorem own_d4_10 : decode prog_91_method_2_code 10 = .ok (.getfield 16, 3) := by decide +kernel
theorem own_d4_13 : decode prog_91_method_2_code 13 = .ok (.dadd, 1) := by decide +kernel
theorem own_d4_14 : decode prog_91_method_2_code 14 = .ok (.dreturn, 1) := by decide +kernel
set_option maxHeartbeats 4000000 in
theorem own_ef4 (m : MethodId) (x0 : Addr) : entryFrame m #[(.ref x0)] 1 = mkF m 0 #[.val (.ref x0)] [] := by first | (simp [entryFrame, mkF, argsToLocals, Value.category]; done) | rfl
def own_Q4 (Z : State) (a0 : Array Value) (o0 : Addr) (x0 : UInt64) (x1 : UInt64) (x2 : UInt64) (h0 : Heap) (n0 : Nat) (v : Option Value) (h : Heap) (L : List Loc) : Prop := v = some (.double (FP.dadd (FP.dadd x0 x1) x2)) ∧ Fr n0 L ∧ h = h0
set_option maxRecDepth 65536 in
set_option maxHeartbeats 40000000 in
theorem own_rm4 (l : Launch) (Z : State) (a0 : Array Value) (hw : ∀ d ∈ tables_1, d.before a0 Z = true) (ws : List Jvm.Cond) (o0 : Addr) (x0 : UInt64) (x1 : UInt64) (x2 : UInt64) (h0 : Heap) (n0 : Nat) (Z0 : n0 ≤ h0.size) (F_beam : Fld Z h0 o0 "com/example/helioslope/helioslope/terrain/ClearSkyTerrain$Irradiance" "beam" "D" (.double x0)) (F_diffuse : Fld Z h0 o0 "com/example/helioslope/helioslope/terrain/ClearSkyTerrain$Irradiance" "diffuse" "D" (.double x1)) (F_reflected : Fld Z h0 o0 "com/example/helioslope/helioslope/terrain/ClearSkyTerrain$Irradiance" "reflected" "D" (.double x2)) (pn0 : Jvm.Free.Fl.NoNaN64 (FP.dadd x0 x1)) (pn1 : Jvm.Free.Fl.NoNaN64 (FP.dadd (FP.dadd x0 x1) x2)) :
    MetFree l (⟨"com/example/helioslope/helioslope/terrain/ClearSkyTerrain$Irradiance", "global", "()D"⟩ : MethodName) (head1 (Jvm.Cond.code (⟨"com/example/helioslope/helioslope/terrain/ClearSkyTerrain$Irradiance", "global", "()D"⟩ : MethodName) prog_91_method_2_code 1 (some .double) :: ws) ({ frames := 0, cells := 0, slots := 0, locals := 0 } : Room)) (fun a U => a = #[(.ref o0)] ∧ Z.Warmed39 U.vm ∧ U.heap = h0) (fun _ _ _ _ _ => True) (fun _ U o U' => ∃ v L, o = .returned v ∧ own_Q4 Z a0 o0 x0 x1 x2 h0 n0 v U'.heap L ∧ FrameEnd U o U' L ({ frames := 0, cells := 0, slots := 0, locals := 0 } : Room).cells ({ frames := 0, cells := 0, slots := 0, locals := 0 } : Room).slots) := by
  refine own_body (Q := fun v h L => own_Q4 Z a0 o0 x0 x1 x2 h0 n0 v h L) (plainFor_of_name own_pn2) ?_
  intro p e s m below meth c s₁ hx hby hml hZ hown hnm hret hlk X0 e0
  replace hml : c.maxLocals = 1 := hml
  have N0 := Fr.nil n0
  have K0 : Keep h0 h0 [] := Keep.refl _ _
  refine own_st (fun t k => castTop (own_ef4 m o0) k) ?_
  show own_Run p e below s _ _ _ (s₁.setTop (mkF m 0 #[.val (.ref o0)] []))
  refine own_st (fun t k => XS.aloadN X0.here hx rfl (hb hby own_d4_0) rfl rfl k) ?_
  show own_Run p e below s _ _ _ (s₁.setTop (mkF m 1 #[.val (.ref o0)] [(.ref o0)]))
  obtain ⟨T41, X41, e41, st41⟩ := getF X0 hx hZ hown (host := "") (Or.inl (hw _ (List.mem_of_getElem? (i := 15) rfl))) Via.refl e0 F_beam (g := (mkF m 1 #[.val (.ref o0)] [(.ref o0)])) rfl rfl (hb hby own_d4_1)
  refine own_st st41 ?_
  show own_Run p e below s _ _ _ (T41.setTop (mkF m 4 #[.val (.ref o0)] [(.double x0)]))
  refine own_st (fun t k => XS.aloadN X41.here hx rfl (hb hby own_d4_4) rfl rfl k) ?_
  show own_Run p e below s _ _ _ (T41.setTop (mkF m 5 #[.val (.ref o0)] [(.ref o0), (.double x0)]))
  obtain ⟨T42, X42, e42, st42⟩ := getF X41 hx hZ hown (host := "") (Or.inl (hw _ (List.mem_of_getElem? (i := 17) rfl))) Via.refl e41 F_diffuse (g := (mkF m 5 #[.val (.ref o0)] [(.ref o0), (.double x0)])) rfl rfl (hb hby own_d4_5)
  refine own_st st42 ?_
  show own_Run p e below s _ _ _ (T42.setTop (mkF m 8 #[.val (.ref o0)] [(.double x1), (.double x0)]))
  refine own_st (fun t k => XS.daddS X42.here hx rfl (hb hby own_d4_8) rfl (pn0) (v := (FP.dadd x0 x1)) (rfl) k) ?_
  show own_Run p e below s _ _ _ (T42.setTop (mkF m 9 #[.val (.ref o0)] [(.double (FP.dadd x0 x1))]))
  refine own_st (fun t k => XS.aloadN X42.here hx rfl (hb hby own_d4_9) rfl rfl k) ?_
  show own_Run p e below s _ _ _ (T42.setTop (mkF m 10 #[.val (.ref o0)] [(.ref o0), (.double (FP.dadd x0 x1))]))
  obtain ⟨T43, X43, e43, st43⟩ := getF X42 hx hZ hown (host := "") (Or.inl (hw _ (List.mem_of_getElem? (i := 19) rfl))) Via.refl e42 F_reflected (g := (mkF m 10 #[.val (.ref o0)] [(.ref o0), (.double (FP.dadd x0 x1))])) rfl rfl (hb hby own_d4_10)
  refine own_st st43 ?_
  show own_Run p e below s _ _ _ (T43.setTop (mkF m 13 #[.val (.ref o0)] [(.double x2), (.double (FP.dadd x0 x1))]))
  refine own_st (fun t k => XS.daddS X43.here hx rfl (hb hby own_d4_13) rfl (pn1) (v := (FP.dadd (FP.dadd x0 x1) x2)) (rfl) k) ?_
  show own_Run p e below s _ _ _ (T43.setTop (mkF m 14 #[.val (.ref o0)] [(.double (FP.dadd (FP.dadd x0 x1) x2))]))
  exact own_ret X43 hx hlk (t := .double) hret rfl (Or.inr (Or.inr (Or.inl ⟨rfl, rfl, _, rfl⟩))) (hb hby own_d4_14) (by decide) (by decide) ⟨rfl, N0, e43⟩
theorem own_pd3 : parseMethodDescriptor "(DDDDDD)V" = some ⟨[.double, .double, .double, .double, .double, .double], none⟩ := by decide +kernel
theorem own_pd4 : parseMethodDescriptor "()D" = some ⟨[], some .double⟩ := by decide +kernel
set_option maxHeartbeats 4000000 in
theorem own_ef0 (m : MethodId) (x0 : Int32) (x1 : Int32) (x2 : Int32) (x3 : Int32) (x4 : Int32) (x5 : Int32) : entryFrame m #[(.int x0), (.int x1), (.int x2), (.int x3), (.int x4), (.int x5)] maxLocals = mkF m 0 #[.val (.int x0), .val (.int x1), .val (.int x2), .val (.int x3), .val (.int x4), .val (.int x5), .unset, .unset, .unset, .unset, .unset, .unset, .unset, .unset, .unset, .unset, .unset] [] := by first | (simp [entryFrame, mkF, argsToLocals, Value.category, maxLocals]; done) | rfl
theorem own_pn5 : plainName "com/example/helioslope/helioslope/terrain/IrradianceGlobalPinLaw" = true := by first | (simp [plainName, overriddenIn]; done) | decide +kernel
def own_Q0 (Z : State) (a0 : Array Value) (i0 : Int32) (i1 : Int32) (i2 : Int32) (i3 : Int32) (i4 : Int32) (i5 : Int32) (h0 : Heap) (n0 : Nat) (v : Option Value) (h : Heap) (L : List Loc) : Prop := v = some (.int 1) ∧ Fr n0 L
set_option maxRecDepth 65536 in
set_option maxHeartbeats 40000000 in
theorem own_rm0 (l : Launch) (Z : State) (a0 : Array Value) (hw : ∀ d ∈ tables_1, d.before a0 Z = true) (ws : List Jvm.Cond) (i0 : Int32) (i1 : Int32) (i2 : Int32) (i3 : Int32) (i4 : Int32) (i5 : Int32) (h0 : Heap) (n0 : Nat) (Z0 : n0 ≤ h0.size) (O0 : Old Z n0 h0) :
    MetFree l x (head1 (Jvm.Cond.code x code maxLocals ret :: ws) room_1) (fun a U => a = #[(.int i0), (.int i1), (.int i2), (.int i3), (.int i4), (.int i5)] ∧ Z.Warmed39 U.vm ∧ U.heap = h0) (fun _ _ _ _ _ => True) (fun _ U o U' => ∃ v L, o = .returned v ∧ own_Q0 Z a0 i0 i1 i2 i3 i4 i5 h0 n0 v U'.heap L ∧ FrameEnd U o U' L room_1.cells room_1.slots) := by
  refine own_body (Q := fun v h L => own_Q0 Z a0 i0 i1 i2 i3 i4 i5 h0 n0 v h L) (plainFor_of_name own_pn5) ?_
  intro p e s m below meth c s₁ hx hby hml hZ hown hnm hret hlk X0 e0
  replace hml : c.maxLocals = 17 := hml
  replace hown : s.vm.findClass "com/example/helioslope/helioslope/terrain/IrradianceGlobalPinLaw" = some m.cls := hown
  have N0 := Fr.nil n0
  have K0 : Keep h0 h0 [] := Keep.refl _ _
  refine own_st (fun t k => castTop (own_ef0 m i0 i1 i2 i3 i4 i5) k) ?_
  have z4 : own_Z 1076 1 4616189618054758400 := by refine ⟨⟨false, 4503599627370496, -50, by decide +kernel⟩, by decide +kernel⟩
  have y0 : own_Z 1072 i0.toInt (FP.ddiv (FP.i2d i0) 4616189618054758400) := own_Z.div (own_Z.eq (own_Z.i2d i0) (Int.mul_one _).symm) z4 (by decide) (by have := i0.le_toInt; have := i0.toInt_lt; omega)
  have y1 : own_Z 1072 i1.toInt (FP.ddiv (FP.i2d i1) 4616189618054758400) := own_Z.div (own_Z.eq (own_Z.i2d i1) (Int.mul_one _).symm) z4 (by decide) (by have := i1.le_toInt; have := i1.toInt_lt; omega)
  have y2 : own_Z 1072 i2.toInt (FP.ddiv (FP.i2d i2) 4616189618054758400) := own_Z.div (own_Z.eq (own_Z.i2d i2) (Int.mul_one _).symm) z4 (by decide) (by have := i2.le_toInt; have := i2.toInt_lt; omega)
  have r0 := i0.le_toInt; have r1 := i0.toInt_lt; have r2 := i1.le_toInt; have r3 := i1.toInt_lt; have r4 := i2.le_toInt; have r5 := i2.toInt_lt
  have w1 := y0.add y1 (by omega)
  have w2 := w1.add y2 (by omega)
  have e1 : (i0.toInt64 + i1.toInt64).toInt = i0.toInt + i1.toInt := by rw [Jvm.FP.Core.int64_add (by simp only [Int32.toInt_toInt64]; omega) (by simp only [Int32.toInt_toInt64]; omega)]; simp only [Int32.toInt_toInt64]
  have e2 : (i0.toInt64 + i1.toInt64 + i2.toInt64).toInt = i0.toInt + i1.toInt + i2.toInt := by rw [Jvm.FP.Core.int64_add (by simp only [Int32.toInt_toInt64, e1]; omega) (by simp only [Int32.toInt_toInt64, e1]; omega)]; simp only [Int32.toInt_toInt64, e1]
  have y9 : own_Z 1072 (i0.toInt + i1.toInt + i2.toInt) (FP.ddiv (FP.l2d (i0.toInt64 + i1.toInt64 + i2.toInt64)) 4616189618054758400) := own_Z.div (own_Z.eq (own_Z.l2d (by rw [e2]; omega)) (by rw [e2]; exact (Int.mul_one _).symm)) z4 (by decide) (by omega)
  show own_Run p e below s _ _ _ (s₁.setTop (mkF m 0 #[.val (.int i0), .val (.int i1), .val (.int i2), .val (.int i3), .val (.int i4), .val (.int i5), .unset, .unset, .unset, .unset, .unset, .unset, .unset, .unset, .unset, .unset, .unset] []))
  refine own_st (fun t k => XS.iloadN X0.here hx rfl (hb hby at_0) rfl k) ?_
  show own_Run p e below s _ _ _ (s₁.setTop (mkF m 1 #[.val (.int i0), .val (.int i1), .val (.int i2), .val (.int i3), .val (.int i4), .val (.int i5), .unset, .unset, .unset, .unset, .unset, .unset, .unset, .unset, .unset, .unset, .unset] [(.int i0)]))
  refine own_st (fun t k => XS.i2dS X0.here hx rfl (hb hby at_1) rfl (v := (FP.i2d i0)) (rfl) k) ?_
  show own_Run p e below s _ _ _ (s₁.setTop (mkF m 2 #[.val (.int i0), .val (.int i1), .val (.int i2), .val (.int i3), .val (.int i4), .val (.int i5), .unset, .unset, .unset, .unset, .unset, .unset, .unset, .unset, .unset, .unset, .unset] [(.double (FP.i2d i0))]))
  refine own_st (X0.ldc2DoubleC hx hown (mvT hZ (hw _ (List.mem_of_getElem? (i := 0) rfl))) (g := (mkF m 2 #[.val (.int i0), .val (.int i1), .val (.int i2), .val (.int i3), .val (.int i4), .val (.int i5), .unset, .unset, .unset, .unset, .unset, .unset, .unset, .unset, .unset, .unset, .unset] [(.double (FP.i2d i0))])) rfl (hb hby at_2)) ?_
  show own_Run p e below s _ _ _ (s₁.setTop (mkF m 5 #[.val (.int i0), .val (.int i1), .val (.int i2), .val (.int i3), .val (.int i4), .val (.int i5), .unset, .unset, .unset, .unset, .unset, .unset, .unset, .unset, .unset, .unset, .unset] [(.double (4616189618054758400 : UInt64)), (.double (FP.i2d i0))]))
  refine own_st (fun t k => XS.ddivS X0.here hx rfl (hb hby at_5) rfl (own_Z.nn y0) (v := (FP.ddiv (FP.i2d i0) (4616189618054758400 : UInt64))) (rfl) k) ?_
  show own_Run p e below s _ _ _ (s₁.setTop (mkF m 6 #[.val (.int i0), .val (.int i1), .val (.int i2), .val (.int i3), .val (.int i4), .val (.int i5), .unset, .unset, .unset, .unset, .unset, .unset, .unset, .unset, .unset, .unset, .unset] [(.double (FP.ddiv (FP.i2d i0) (4616189618054758400 : UInt64)))]))
  refine own_st (fun t k => XS.dstore X0.here hx rfl (hb hby at_6) rfl (l' := #[.val (.int i0), .val (.int i1), .val (.int i2), .val (.int i3), .val (.int i4), .val (.int i5), .val (.double (FP.ddiv (FP.i2d i0) (4616189618054758400 : UInt64))), .second, .unset, .unset, .unset, .unset, .unset, .unset, .unset, .unset, .unset]) rfl k) ?_
  show own_Run p e below s _ _ _ (s₁.setTop (mkF m 8 #[.val (.int i0), .val (.int i1), .val (.int i2), .val (.int i3), .val (.int i4), .val (.int i5), .val (.double (FP.ddiv (FP.i2d i0) (4616189618054758400 : UInt64))), .second, .unset, .unset, .unset, .unset, .unset, .unset, .unset, .unset, .unset] []))
  refine own_st (fun t k => XS.iloadN X0.here hx rfl (hb hby at_8) rfl k) ?_
  show own_Run p e below s _ _ _ (s₁.setTop (mkF m 9 #[.val (.int i0), .val (.int i1), .val (.int i2), .val (.int i3), .val (.int i4), .val (.int i5), .val (.double (FP.ddiv (FP.i2d i0) (4616189618054758400 : UInt64))), .second, .unset, .unset, .unset, .unset, .unset, .unset, .unset, .unset, .unset] [(.int i1)]))
  refine own_st (fun t k => XS.i2dS X0.here hx rfl (hb hby at_9) rfl (v := (FP.i2d i1)) (rfl) k) ?_
  show own_Run p e below s _ _ _ (s₁.setTop (mkF m 10 #[.val (.int i0), .val (.int i1), .val (.int i2), .val (.int i3), .val (.int i4), .val (.int i5), .val (.double (FP.ddiv (FP.i2d i0) (4616189618054758400 : UInt64))), .second, .unset, .unset, .unset, .unset, .unset, .unset, .unset, .unset, .unset] [(.double (FP.i2d i1))]))
  refine own_st (X0.ldc2DoubleC hx hown (mvT hZ (hw _ (List.mem_of_getElem? (i := 0) rfl))) (g := (mkF m 10 #[.val (.int i0), .val (.int i1), .val (.int i2), .val (.int i3), .val (.int i4), .val (.int i5), .val (.double (FP.ddiv (FP.i2d i0) (4616189618054758400 : UInt64))), .second, .unset, .unset, .unset, .unset, .unset, .unset, .unset, .unset, .unset] [(.double (FP.i2d i1))])) rfl (hb hby at_10)) ?_
  show own_Run p e below s _ _ _ (s₁.setTop (mkF m 13 #[.val (.int i0), .val (.int i1), .val (.int i2), .val (.int i3), .val (.int i4), .val (.int i5), .val (.double (FP.ddiv (FP.i2d i0) (4616189618054758400 : UInt64))), .second, .unset, .unset, .unset, .unset, .unset, .unset, .unset, .unset, .unset] [(.double (4616189618054758400 : UInt64)), (.double (FP.i2d i1))]))
  refine own_st (fun t k => XS.ddivS X0.here hx rfl (hb hby at_13) rfl (own_Z.nn y1) (v := (FP.ddiv (FP.i2d i1) (4616189618054758400 : UInt64))) (rfl) k) ?_
  show own_Run p e below s _ _ _ (s₁.setTop (mkF m 14 #[.val (.int i0), .val (.int i1), .val (.int i2), .val (.int i3), .val (.int i4), .val (.int i5), .val (.double (FP.ddiv (FP.i2d i0) (4616189618054758400 : UInt64))), .second, .unset, .unset, .unset, .unset, .unset, .unset, .unset, .unset, .unset] [(.double (FP.ddiv (FP.i2d i1) (4616189618054758400 : UInt64)))]))
  refine own_st (fun t k => XS.dstore X0.here hx rfl (hb hby at_14) rfl (l' := #[.val (.int i0), .val (.int i1), .val (.int i2), .val (.int i3), .val (.int i4), .val (.int i5), .val (.double (FP.ddiv (FP.i2d i0) (4616189618054758400 : UInt64))), .second, .val (.double (FP.ddiv (FP.i2d i1) (4616189618054758400 : UInt64))), .second, .unset, .unset, .unset, .unset, .unset, .unset, .unset]) rfl k) ?_
  show own_Run p e below s _ _ _ (s₁.setTop (mkF m 16 #[.val (.int i0), .val (.int i1), .val (.int i2), .val (.int i3), .val (.int i4), .val (.int i5), .val (.double (FP.ddiv (FP.i2d i0) (4616189618054758400 : UInt64))), .second, .val (.double (FP.ddiv (FP.i2d i1) (4616189618054758400 : UInt64))), .second, .unset, .unset, .unset, .unset, .unset, .unset, .unset] []))
  refine own_st (fun t k => XS.iloadN X0.here hx rfl (hb hby at_16) rfl k) ?_
  show own_Run p e below s _ _ _ (s₁.setTop (mkF m 17 #[.val (.int i0), .val (.int i1), .val (.int i2), .val (.int i3), .val (.int i4), .val (.int i5), .val (.double (FP.ddiv (FP.i2d i0) (4616189618054758400 : UInt64))), .second, .val (.double (FP.ddiv (FP.i2d i1) (4616189618054758400 : UInt64))), .second, .unset, .unset, .unset, .unset, .unset, .unset, .unset] [(.int i2)]))
  refine own_st (fun t k => XS.i2dS X0.here hx rfl (hb hby at_17) rfl (v := (FP.i2d i2)) (rfl) k) ?_
  show own_Run p e below s _ _ _ (s₁.setTop (mkF m 18 #[.val (.int i0), .val (.int i1), .val (.int i2), .val (.int i3), .val (.int i4), .val (.int i5), .val (.double (FP.ddiv (FP.i2d i0) (4616189618054758400 : UInt64))), .second, .val (.double (FP.ddiv (FP.i2d i1) (4616189618054758400 : UInt64))), .second, .unset, .unset, .unset, .unset, .unset, .unset, .unset] [(.double (FP.i2d i2))]))
  refine own_st (X0.ldc2DoubleC hx hown (mvT hZ (hw _ (List.mem_of_getElem? (i := 0) rfl))) (g := (mkF m 18 #[.val (.int i0), .val (.int i1), .val (.int i2), .val (.int i3), .val (.int i4), .val (.int i5), .val (.double (FP.ddiv (FP.i2d i0) (4616189618054758400 : UInt64))), .second, .val (.double (FP.ddiv (FP.i2d i1) (4616189618054758400 : UInt64))), .second, .unset, .unset, .unset, .unset, .unset, .unset, .unset] [(.double (FP.i2d i2))])) rfl (hb hby at_18)) ?_
  show own_Run p e below s _ _ _ (s₁.setTop (mkF m 21 #[.val (.int i0), .val (.int i1), .val (.int i2), .val (.int i3), .val (.int i4), .val (.int i5), .val (.double (FP.ddiv (FP.i2d i0) (4616189618054758400 : UInt64))), .second, .val (.double (FP.ddiv (FP.i2d i1) (4616189618054758400 : UInt64))), .second, .unset, .unset, .unset, .unset, .unset, .unset, .unset] [(.double (4616189618054758400 : UInt64)), (.double (FP.i2d i2))]))
  refine own_st (fun t k => XS.ddivS X0.here hx rfl (hb hby at_21) rfl (own_Z.nn y2) (v := (FP.ddiv (FP.i2d i2) (4616189618054758400 : UInt64))) (rfl) k) ?_
  show own_Run p e below s _ _ _ (s₁.setTop (mkF m 22 #[.val (.int i0), .val (.int i1), .val (.int i2), .val (.int i3), .val (.int i4), .val (.int i5), .val (.double (FP.ddiv (FP.i2d i0) (4616189618054758400 : UInt64))), .second, .val (.double (FP.ddiv (FP.i2d i1) (4616189618054758400 : UInt64))), .second, .unset, .unset, .unset, .unset, .unset, .unset, .unset] [(.double (FP.ddiv (FP.i2d i2) (4616189618054758400 : UInt64)))]))
  refine own_st (fun t k => XS.dstore X0.here hx rfl (hb hby at_22) rfl (l' := #[.val (.int i0), .val (.int i1), .val (.int i2), .val (.int i3), .val (.int i4), .val (.int i5), .val (.double (FP.ddiv (FP.i2d i0) (4616189618054758400 : UInt64))), .second, .val (.double (FP.ddiv (FP.i2d i1) (4616189618054758400 : UInt64))), .second, .val (.double (FP.ddiv (FP.i2d i2) (4616189618054758400 : UInt64))), .second, .unset, .unset, .unset, .unset, .unset]) rfl k) ?_
  show own_Run p e below s _ _ _ (s₁.setTop (mkF m 24 #[.val (.int i0), .val (.int i1), .val (.int i2), .val (.int i3), .val (.int i4), .val (.int i5), .val (.double (FP.ddiv (FP.i2d i0) (4616189618054758400 : UInt64))), .second, .val (.double (FP.ddiv (FP.i2d i1) (4616189618054758400 : UInt64))), .second, .val (.double (FP.ddiv (FP.i2d i2) (4616189618054758400 : UInt64))), .second, .unset, .unset, .unset, .unset, .unset] []))
  obtain ⟨T44, h44, X44, e44, E44, A44, D44, -, st44⟩ := newO X0 hx hZ hown (hw _ (List.mem_of_getElem? (i := 1) rfl)) (hw _ (List.mem_of_getElem? (i := 2) rfl)) (hw _ (List.mem_of_getElem? (i := 3) rfl)) e0 (g := (mkF m 24 #[.val (.int i0), .val (.int i1), .val (.int i2), .val (.int i3), .val (.int i4), .val (.int i5), .val (.double (FP.ddiv (FP.i2d i0) (4616189618054758400 : UInt64))), .second, .val (.double (FP.ddiv (FP.i2d i1) (4616189618054758400 : UInt64))), .second, .val (.double (FP.ddiv (FP.i2d i2) (4616189618054758400 : UInt64))), .second, .unset, .unset, .unset, .unset, .unset] [])) rfl (hb hby at_24) (by decide) (by decide)
  obtain ⟨b44, g44⟩ : ∃ z, z = h0.size := ⟨_, rfl⟩
  rw [← g44] at A44 D44 st44
  have sz45 : h0.size ≤ b44 := Nat.le_trans K0.1 (Nat.le_of_eq g44.symm)
  have ge46 : n0 ≤ b44 := Nat.le_trans Z0 sz45
  refine own_st st44 ?_
  have K47 : Keep h0 h44 [] := K0.ext E44
  have O48 := O0.ext E44
  show own_Run p e below s _ _ _ (T44.setTop (mkF m 27 #[.val (.int i0), .val (.int i1), .val (.int i2), .val (.int i3), .val (.int i4), .val (.int i5), .val (.double (FP.ddiv (FP.i2d i0) (4616189618054758400 : UInt64))), .second, .val (.double (FP.ddiv (FP.i2d i1) (4616189618054758400 : UInt64))), .second, .val (.double (FP.ddiv (FP.i2d i2) (4616189618054758400 : UInt64))), .second, .unset, .unset, .unset, .unset, .unset] [(.ref b44)]))
  refine own_st (fun t k => XS.dup X44.here hx rfl (hb hby at_27) rfl rfl k) ?_
  show own_Run p e below s _ _ _ (T44.setTop (mkF m 28 #[.val (.int i0), .val (.int i1), .val (.int i2), .val (.int i3), .val (.int i4), .val (.int i5), .val (.double (FP.ddiv (FP.i2d i0) (4616189618054758400 : UInt64))), .second, .val (.double (FP.ddiv (FP.i2d i1) (4616189618054758400 : UInt64))), .second, .val (.double (FP.ddiv (FP.i2d i2) (4616189618054758400 : UInt64))), .second, .unset, .unset, .unset, .unset, .unset] [(.ref b44), (.ref b44)]))
  refine own_st (fun t k => XS.dload X44.here hx rfl (hb hby at_28) rfl k) ?_
  show own_Run p e below s _ _ _ (T44.setTop (mkF m 30 #[.val (.int i0), .val (.int i1), .val (.int i2), .val (.int i3), .val (.int i4), .val (.int i5), .val (.double (FP.ddiv (FP.i2d i0) (4616189618054758400 : UInt64))), .second, .val (.double (FP.ddiv (FP.i2d i1) (4616189618054758400 : UInt64))), .second, .val (.double (FP.ddiv (FP.i2d i2) (4616189618054758400 : UInt64))), .second, .unset, .unset, .unset, .unset, .unset] [(.double (FP.ddiv (FP.i2d i0) (4616189618054758400 : UInt64))), (.ref b44), (.ref b44)]))
  refine own_st (fun t k => XS.dload X44.here hx rfl (hb hby at_30) rfl k) ?_
  show own_Run p e below s _ _ _ (T44.setTop (mkF m 32 #[.val (.int i0), .val (.int i1), .val (.int i2), .val (.int i3), .val (.int i4), .val (.int i5), .val (.double (FP.ddiv (FP.i2d i0) (4616189618054758400 : UInt64))), .second, .val (.double (FP.ddiv (FP.i2d i1) (4616189618054758400 : UInt64))), .second, .val (.double (FP.ddiv (FP.i2d i2) (4616189618054758400 : UInt64))), .second, .unset, .unset, .unset, .unset, .unset] [(.double (FP.ddiv (FP.i2d i1) (4616189618054758400 : UInt64))), (.double (FP.ddiv (FP.i2d i0) (4616189618054758400 : UInt64))), (.ref b44), (.ref b44)]))
  refine own_st (fun t k => XS.dload X44.here hx rfl (hb hby at_32) rfl k) ?_
  show own_Run p e below s _ _ _ (T44.setTop (mkF m 34 #[.val (.int i0), .val (.int i1), .val (.int i2), .val (.int i3), .val (.int i4), .val (.int i5), .val (.double (FP.ddiv (FP.i2d i0) (4616189618054758400 : UInt64))), .second, .val (.double (FP.ddiv (FP.i2d i1) (4616189618054758400 : UInt64))), .second, .val (.double (FP.ddiv (FP.i2d i2) (4616189618054758400 : UInt64))), .second, .unset, .unset, .unset, .unset, .unset] [(.double (FP.ddiv (FP.i2d i2) (4616189618054758400 : UInt64))), (.double (FP.ddiv (FP.i2d i1) (4616189618054758400 : UInt64))), (.double (FP.ddiv (FP.i2d i0) (4616189618054758400 : UInt64))), (.ref b44), (.ref b44)]))
  refine own_st (fun t k => XS.iloadN X44.here hx rfl (hb hby at_34) rfl k) ?_
  show own_Run p e below s _ _ _ (T44.setTop (mkF m 35 #[.val (.int i0), .val (.int i1), .val (.int i2), .val (.int i3), .val (.int i4), .val (.int i5), .val (.double (FP.ddiv (FP.i2d i0) (4616189618054758400 : UInt64))), .second, .val (.double (FP.ddiv (FP.i2d i1) (4616189618054758400 : UInt64))), .second, .val (.double (FP.ddiv (FP.i2d i2) (4616189618054758400 : UInt64))), .second, .unset, .unset, .unset, .unset, .unset] [(.int i3), (.double (FP.ddiv (FP.i2d i2) (4616189618054758400 : UInt64))), (.double (FP.ddiv (FP.i2d i1) (4616189618054758400 : UInt64))), (.double (FP.ddiv (FP.i2d i0) (4616189618054758400 : UInt64))), (.ref b44), (.ref b44)]))
  refine own_st (fun t k => XS.i2dS X44.here hx rfl (hb hby at_35) rfl (v := (FP.i2d i3)) (rfl) k) ?_
  show own_Run p e below s _ _ _ (T44.setTop (mkF m 36 #[.val (.int i0), .val (.int i1), .val (.int i2), .val (.int i3), .val (.int i4), .val (.int i5), .val (.double (FP.ddiv (FP.i2d i0) (4616189618054758400 : UInt64))), .second, .val (.double (FP.ddiv (FP.i2d i1) (4616189618054758400 : UInt64))), .second, .val (.double (FP.ddiv (FP.i2d i2) (4616189618054758400 : UInt64))), .second, .unset, .unset, .unset, .unset, .unset] [(.double (FP.i2d i3)), (.double (FP.ddiv (FP.i2d i2) (4616189618054758400 : UInt64))), (.double (FP.ddiv (FP.i2d i1) (4616189618054758400 : UInt64))), (.double (FP.ddiv (FP.i2d i0) (4616189618054758400 : UInt64))), (.ref b44), (.ref b44)]))
  refine own_st (fun t k => XS.iload X44.here hx rfl (hb hby at_36) rfl k) ?_
  show own_Run p e below s _ _ _ (T44.setTop (mkF m 38 #[.val (.int i0), .val (.int i1), .val (.int i2), .val (.int i3), .val (.int i4), .val (.int i5), .val (.double (FP.ddiv (FP.i2d i0) (4616189618054758400 : UInt64))), .second, .val (.double (FP.ddiv (FP.i2d i1) (4616189618054758400 : UInt64))), .second, .val (.double (FP.ddiv (FP.i2d i2) (4616189618054758400 : UInt64))), .second, .unset, .unset, .unset, .unset, .unset] [(.int i4), (.double (FP.i2d i3)), (.double (FP.ddiv (FP.i2d i2) (4616189618054758400 : UInt64))), (.double (FP.ddiv (FP.i2d i1) (4616189618054758400 : UInt64))), (.double (FP.ddiv (FP.i2d i0) (4616189618054758400 : UInt64))), (.ref b44), (.ref b44)]))
  refine own_st (fun t k => XS.i2dS X44.here hx rfl (hb hby at_38) rfl (v := (FP.i2d i4)) (rfl) k) ?_
  show own_Run p e below s _ _ _ (T44.setTop (mkF m 39 #[.val (.int i0), .val (.int i1), .val (.int i2), .val (.int i3), .val (.int i4), .val (.int i5), .val (.double (FP.ddiv (FP.i2d i0) (4616189618054758400 : UInt64))), .second, .val (.double (FP.ddiv (FP.i2d i1) (4616189618054758400 : UInt64))), .second, .val (.double (FP.ddiv (FP.i2d i2) (4616189618054758400 : UInt64))), .second, .unset, .unset, .unset, .unset, .unset] [(.double (FP.i2d i4)), (.double (FP.i2d i3)), (.double (FP.ddiv (FP.i2d i2) (4616189618054758400 : UInt64))), (.double (FP.ddiv (FP.i2d i1) (4616189618054758400 : UInt64))), (.double (FP.ddiv (FP.i2d i0) (4616189618054758400 : UInt64))), (.ref b44), (.ref b44)]))
  refine own_st (fun t k => XS.iload X44.here hx rfl (hb hby at_39) rfl k) ?_
  show own_Run p e below s _ _ _ (T44.setTop (mkF m 41 #[.val (.int i0), .val (.int i1), .val (.int i2), .val (.int i3), .val (.int i4), .val (.int i5), .val (.double (FP.ddiv (FP.i2d i0) (4616189618054758400 : UInt64))), .second, .val (.double (FP.ddiv (FP.i2d i1) (4616189618054758400 : UInt64))), .second, .val (.double (FP.ddiv (FP.i2d i2) (4616189618054758400 : UInt64))), .second, .unset, .unset, .unset, .unset, .unset] [(.int i5), (.double (FP.i2d i4)), (.double (FP.i2d i3)), (.double (FP.ddiv (FP.i2d i2) (4616189618054758400 : UInt64))), (.double (FP.ddiv (FP.i2d i1) (4616189618054758400 : UInt64))), (.double (FP.ddiv (FP.i2d i0) (4616189618054758400 : UInt64))), (.ref b44), (.ref b44)]))
  refine own_st (fun t k => XS.i2dS X44.here hx rfl (hb hby at_41) rfl (v := (FP.i2d i5)) (rfl) k) ?_
  show own_Run p e below s _ _ _ (T44.setTop (mkF m 42 #[.val (.int i0), .val (.int i1), .val (.int i2), .val (.int i3), .val (.int i4), .val (.int i5), .val (.double (FP.ddiv (FP.i2d i0) (4616189618054758400 : UInt64))), .second, .val (.double (FP.ddiv (FP.i2d i1) (4616189618054758400 : UInt64))), .second, .val (.double (FP.ddiv (FP.i2d i2) (4616189618054758400 : UInt64))), .second, .unset, .unset, .unset, .unset, .unset] [(.double (FP.i2d i5)), (.double (FP.i2d i4)), (.double (FP.i2d i3)), (.double (FP.ddiv (FP.i2d i2) (4616189618054758400 : UInt64))), (.double (FP.ddiv (FP.i2d i1) (4616189618054758400 : UInt64))), (.double (FP.ddiv (FP.i2d i0) (4616189618054758400 : UInt64))), (.ref b44), (.ref b44)]))
  refine own_callI X44 hx hZ (y := (⟨"com/example/helioslope/helioslope/terrain/ClearSkyTerrain$Irradiance", "<init>", "(DDDDDD)V"⟩ : MethodName)) rfl hown (hw _ (List.mem_of_getElem? (i := 4) rfl)) (hw _ (List.mem_of_getElem? (i := 5) rfl)) (hw _ (List.mem_of_getElem? (i := 6) rfl)) (hw _ (List.mem_of_getElem? (i := 3) rfl)) (by decide) e44 (a := b44) (argsL := [(.double (FP.ddiv (FP.i2d i0) (4616189618054758400 : UInt64))), (.double (FP.ddiv (FP.i2d i1) (4616189618054758400 : UInt64))), (.double (FP.ddiv (FP.i2d i2) (4616189618054758400 : UInt64))), (.double (FP.i2d i3)), (.double (FP.i2d i4)), (.double (FP.i2d i5))]) (rest := [(.ref b44)]) (W := 1) (own_rm1 l Z a0 hw [] b44 (FP.ddiv (FP.i2d i0) (4616189618054758400 : UInt64)) (FP.ddiv (FP.i2d i1) (4616189618054758400 : UInt64)) (FP.ddiv (FP.i2d i2) (4616189618054758400 : UInt64)) (FP.i2d i3) (FP.i2d i4) (FP.i2d i5) h44 n0 (Nat.le_trans Z0 K47.1) A44 D44 ge46) (by decide) (by decide) (by rw [hml]; rfl) (lenOf own_pd3 rfl) rfl (by exact Nat.le_of_eq rfl) (hb hby at_42) (by decide) (by decide) ?_
  intro T49 v49 L49 X49 hq49
  obtain ⟨rfl, N49q, K49q, Q50, Q51, Q52, Q53⟩ := hq49
  have K54 : Keep h0 T49.heap [] := K47.trans K49q (allS (Or.inr sz45) all0)
  have O55 := O48.keep K49q (allS ge46 all0)
  have N49 := Fr.app N0 N49q
  show own_Run p e below s _ _ _ (T49.setTop (mkF m 45 #[.val (.int i0), .val (.int i1), .val (.int i2), .val (.int i3), .val (.int i4), .val (.int i5), .val (.double (FP.ddiv (FP.i2d i0) (4616189618054758400 : UInt64))), .second, .val (.double (FP.ddiv (FP.i2d i1) (4616189618054758400 : UInt64))), .second, .val (.double (FP.ddiv (FP.i2d i2) (4616189618054758400 : UInt64))), .second, .unset, .unset, .unset, .unset, .unset] [(.ref b44)]))
  refine own_st (fun t k => XS.astore X49.here hx rfl (hb hby at_45) rfl rfl (l' := #[.val (.int i0), .val (.int i1), .val (.int i2), .val (.int i3), .val (.int i4), .val (.int i5), .val (.double (FP.ddiv (FP.i2d i0) (4616189618054758400 : UInt64))), .second, .val (.double (FP.ddiv (FP.i2d i1) (4616189618054758400 : UInt64))), .second, .val (.double (FP.ddiv (FP.i2d i2) (4616189618054758400 : UInt64))), .second, .val (.ref b44), .unset, .unset, .unset, .unset]) rfl k) ?_
  show own_Run p e below s _ _ _ (T49.setTop (mkF m 47 #[.val (.int i0), .val (.int i1), .val (.int i2), .val (.int i3), .val (.int i4), .val (.int i5), .val (.double (FP.ddiv (FP.i2d i0) (4616189618054758400 : UInt64))), .second, .val (.double (FP.ddiv (FP.i2d i1) (4616189618054758400 : UInt64))), .second, .val (.double (FP.ddiv (FP.i2d i2) (4616189618054758400 : UInt64))), .second, .val (.ref b44), .unset, .unset, .unset, .unset] []))
  refine own_st (fun t k => XS.iloadN X49.here hx rfl (hb hby at_47) rfl k) ?_
  show own_Run p e below s _ _ _ (T49.setTop (mkF m 48 #[.val (.int i0), .val (.int i1), .val (.int i2), .val (.int i3), .val (.int i4), .val (.int i5), .val (.double (FP.ddiv (FP.i2d i0) (4616189618054758400 : UInt64))), .second, .val (.double (FP.ddiv (FP.i2d i1) (4616189618054758400 : UInt64))), .second, .val (.double (FP.ddiv (FP.i2d i2) (4616189618054758400 : UInt64))), .second, .val (.ref b44), .unset, .unset, .unset, .unset] [(.int i0)]))
  refine own_st (fun t k => XS.i2l X49.here hx rfl (hb hby at_48) rfl k) ?_
  show own_Run p e below s _ _ _ (T49.setTop (mkF m 49 #[.val (.int i0), .val (.int i1), .val (.int i2), .val (.int i3), .val (.int i4), .val (.int i5), .val (.double (FP.ddiv (FP.i2d i0) (4616189618054758400 : UInt64))), .second, .val (.double (FP.ddiv (FP.i2d i1) (4616189618054758400 : UInt64))), .second, .val (.double (FP.ddiv (FP.i2d i2) (4616189618054758400 : UInt64))), .second, .val (.ref b44), .unset, .unset, .unset, .unset] [(.long (i0.toInt64))]))
  refine own_st (fun t k => XS.iloadN X49.here hx rfl (hb hby at_49) rfl k) ?_
  show own_Run p e below s _ _ _ (T49.setTop (mkF m 50 #[.val (.int i0), .val (.int i1), .val (.int i2), .val (.int i3), .val (.int i4), .val (.int i5), .val (.double (FP.ddiv (FP.i2d i0) (4616189618054758400 : UInt64))), .second, .val (.double (FP.ddiv (FP.i2d i1) (4616189618054758400 : UInt64))), .second, .val (.double (FP.ddiv (FP.i2d i2) (4616189618054758400 : UInt64))), .second, .val (.ref b44), .unset, .unset, .unset, .unset] [(.int i1), (.long (i0.toInt64))]))
  refine own_st (fun t k => XS.i2l X49.here hx rfl (hb hby at_50) rfl k) ?_
  show own_Run p e below s _ _ _ (T49.setTop (mkF m 51 #[.val (.int i0), .val (.int i1), .val (.int i2), .val (.int i3), .val (.int i4), .val (.int i5), .val (.double (FP.ddiv (FP.i2d i0) (4616189618054758400 : UInt64))), .second, .val (.double (FP.ddiv (FP.i2d i1) (4616189618054758400 : UInt64))), .second, .val (.double (FP.ddiv (FP.i2d i2) (4616189618054758400 : UInt64))), .second, .val (.ref b44), .unset, .unset, .unset, .unset] [(.long (i1.toInt64)), (.long (i0.toInt64))]))
  refine own_st (fun t k => XS.ladd X49.here hx rfl (hb hby at_51) rfl k) ?_
  show own_Run p e below s _ _ _ (T49.setTop (mkF m 52 #[.val (.int i0), .val (.int i1), .val (.int i2), .val (.int i3), .val (.int i4), .val (.int i5), .val (.double (FP.ddiv (FP.i2d i0) (4616189618054758400 : UInt64))), .second, .val (.double (FP.ddiv (FP.i2d i1) (4616189618054758400 : UInt64))), .second, .val (.double (FP.ddiv (FP.i2d i2) (4616189618054758400 : UInt64))), .second, .val (.ref b44), .unset, .unset, .unset, .unset] [(.long ((i0.toInt64) + (i1.toInt64)))]))
  refine own_st (fun t k => XS.iloadN X49.here hx rfl (hb hby at_52) rfl k) ?_
  show own_Run p e below s _ _ _ (T49.setTop (mkF m 53 #[.val (.int i0), .val (.int i1), .val (.int i2), .val (.int i3), .val (.int i4), .val (.int i5), .val (.double (FP.ddiv (FP.i2d i0) (4616189618054758400 : UInt64))), .second, .val (.double (FP.ddiv (FP.i2d i1) (4616189618054758400 : UInt64))), .second, .val (.double (FP.ddiv (FP.i2d i2) (4616189618054758400 : UInt64))), .second, .val (.ref b44), .unset, .unset, .unset, .unset] [(.int i2), (.long ((i0.toInt64) + (i1.toInt64)))]))
  refine own_st (fun t k => XS.i2l X49.here hx rfl (hb hby at_53) rfl k) ?_
  show own_Run p e below s _ _ _ (T49.setTop (mkF m 54 #[.val (.int i0), .val (.int i1), .val (.int i2), .val (.int i3), .val (.int i4), .val (.int i5), .val (.double (FP.ddiv (FP.i2d i0) (4616189618054758400 : UInt64))), .second, .val (.double (FP.ddiv (FP.i2d i1) (4616189618054758400 : UInt64))), .second, .val (.double (FP.ddiv (FP.i2d i2) (4616189618054758400 : UInt64))), .second, .val (.ref b44), .unset, .unset, .unset, .unset] [(.long (i2.toInt64)), (.long ((i0.toInt64) + (i1.toInt64)))]))
  refine own_st (fun t k => XS.ladd X49.here hx rfl (hb hby at_54) rfl k) ?_
  show own_Run p e below s _ _ _ (T49.setTop (mkF m 55 #[.val (.int i0), .val (.int i1), .val (.int i2), .val (.int i3), .val (.int i4), .val (.int i5), .val (.double (FP.ddiv (FP.i2d i0) (4616189618054758400 : UInt64))), .second, .val (.double (FP.ddiv (FP.i2d i1) (4616189618054758400 : UInt64))), .second, .val (.double (FP.ddiv (FP.i2d i2) (4616189618054758400 : UInt64))), .second, .val (.ref b44), .unset, .unset, .unset, .unset] [(.long (((i0.toInt64) + (i1.toInt64)) + (i2.toInt64)))]))
  refine own_st (fun t k => XS.lstore X49.here hx rfl (hb hby at_55) rfl (l' := #[.val (.int i0), .val (.int i1), .val (.int i2), .val (.int i3), .val (.int i4), .val (.int i5), .val (.double (FP.ddiv (FP.i2d i0) (4616189618054758400 : UInt64))), .second, .val (.double (FP.ddiv (FP.i2d i1) (4616189618054758400 : UInt64))), .second, .val (.double (FP.ddiv (FP.i2d i2) (4616189618054758400 : UInt64))), .second, .val (.ref b44), .val (.long (((i0.toInt64) + (i1.toInt64)) + (i2.toInt64))), .second, .unset, .unset]) rfl k) ?_
  show own_Run p e below s _ _ _ (T49.setTop (mkF m 57 #[.val (.int i0), .val (.int i1), .val (.int i2), .val (.int i3), .val (.int i4), .val (.int i5), .val (.double (FP.ddiv (FP.i2d i0) (4616189618054758400 : UInt64))), .second, .val (.double (FP.ddiv (FP.i2d i1) (4616189618054758400 : UInt64))), .second, .val (.double (FP.ddiv (FP.i2d i2) (4616189618054758400 : UInt64))), .second, .val (.ref b44), .val (.long (((i0.toInt64) + (i1.toInt64)) + (i2.toInt64))), .second, .unset, .unset] []))
  refine own_st (fun t k => XS.lload X49.here hx rfl (hb hby at_57) rfl k) ?_
  show own_Run p e below s _ _ _ (T49.setTop (mkF m 59 #[.val (.int i0), .val (.int i1), .val (.int i2), .val (.int i3), .val (.int i4), .val (.int i5), .val (.double (FP.ddiv (FP.i2d i0) (4616189618054758400 : UInt64))), .second, .val (.double (FP.ddiv (FP.i2d i1) (4616189618054758400 : UInt64))), .second, .val (.double (FP.ddiv (FP.i2d i2) (4616189618054758400 : UInt64))), .second, .val (.ref b44), .val (.long (((i0.toInt64) + (i1.toInt64)) + (i2.toInt64))), .second, .unset, .unset] [(.long (((i0.toInt64) + (i1.toInt64)) + (i2.toInt64)))]))
  refine own_st (fun t k => XS.l2dS X49.here hx rfl (hb hby at_59) rfl (v := (FP.l2d (((i0.toInt64) + (i1.toInt64)) + (i2.toInt64)))) (rfl) k) ?_
  show own_Run p e below s _ _ _ (T49.setTop (mkF m 60 #[.val (.int i0), .val (.int i1), .val (.int i2), .val (.int i3), .val (.int i4), .val (.int i5), .val (.double (FP.ddiv (FP.i2d i0) (4616189618054758400 : UInt64))), .second, .val (.double (FP.ddiv (FP.i2d i1) (4616189618054758400 : UInt64))), .second, .val (.double (FP.ddiv (FP.i2d i2) (4616189618054758400 : UInt64))), .second, .val (.ref b44), .val (.long (((i0.toInt64) + (i1.toInt64)) + (i2.toInt64))), .second, .unset, .unset] [(.double (FP.l2d (((i0.toInt64) + (i1.toInt64)) + (i2.toInt64))))]))
  refine own_st (X49.ldc2DoubleC hx hown (mvT hZ (hw _ (List.mem_of_getElem? (i := 0) rfl))) (g := (mkF m 60 #[.val (.int i0), .val (.int i1), .val (.int i2), .val (.int i3), .val (.int i4), .val (.int i5), .val (.double (FP.ddiv (FP.i2d i0) (4616189618054758400 : UInt64))), .second, .val (.double (FP.ddiv (FP.i2d i1) (4616189618054758400 : UInt64))), .second, .val (.double (FP.ddiv (FP.i2d i2) (4616189618054758400 : UInt64))), .second, .val (.ref b44), .val (.long (((i0.toInt64) + (i1.toInt64)) + (i2.toInt64))), .second, .unset, .unset] [(.double (FP.l2d (((i0.toInt64) + (i1.toInt64)) + (i2.toInt64))))])) rfl (hb hby at_60)) ?_
  show own_Run p e below s _ _ _ (T49.setTop (mkF m 63 #[.val (.int i0), .val (.int i1), .val (.int i2), .val (.int i3), .val (.int i4), .val (.int i5), .val (.double (FP.ddiv (FP.i2d i0) (4616189618054758400 : UInt64))), .second, .val (.double (FP.ddiv (FP.i2d i1) (4616189618054758400 : UInt64))), .second, .val (.double (FP.ddiv (FP.i2d i2) (4616189618054758400 : UInt64))), .second, .val (.ref b44), .val (.long (((i0.toInt64) + (i1.toInt64)) + (i2.toInt64))), .second, .unset, .unset] [(.double (4616189618054758400 : UInt64)), (.double (FP.l2d (((i0.toInt64) + (i1.toInt64)) + (i2.toInt64))))]))
  refine own_st (fun t k => XS.ddivS X49.here hx rfl (hb hby at_63) rfl (own_Z.nn y9) (v := (FP.ddiv (FP.l2d (((i0.toInt64) + (i1.toInt64)) + (i2.toInt64))) (4616189618054758400 : UInt64))) (rfl) k) ?_
  show own_Run p e below s _ _ _ (T49.setTop (mkF m 64 #[.val (.int i0), .val (.int i1), .val (.int i2), .val (.int i3), .val (.int i4), .val (.int i5), .val (.double (FP.ddiv (FP.i2d i0) (4616189618054758400 : UInt64))), .second, .val (.double (FP.ddiv (FP.i2d i1) (4616189618054758400 : UInt64))), .second, .val (.double (FP.ddiv (FP.i2d i2) (4616189618054758400 : UInt64))), .second, .val (.ref b44), .val (.long (((i0.toInt64) + (i1.toInt64)) + (i2.toInt64))), .second, .unset, .unset] [(.double (FP.ddiv (FP.l2d (((i0.toInt64) + (i1.toInt64)) + (i2.toInt64))) (4616189618054758400 : UInt64)))]))
  refine own_st (fun t k => XS.dstore X49.here hx rfl (hb hby at_64) rfl (l' := #[.val (.int i0), .val (.int i1), .val (.int i2), .val (.int i3), .val (.int i4), .val (.int i5), .val (.double (FP.ddiv (FP.i2d i0) (4616189618054758400 : UInt64))), .second, .val (.double (FP.ddiv (FP.i2d i1) (4616189618054758400 : UInt64))), .second, .val (.double (FP.ddiv (FP.i2d i2) (4616189618054758400 : UInt64))), .second, .val (.ref b44), .val (.long (((i0.toInt64) + (i1.toInt64)) + (i2.toInt64))), .second, .val (.double (FP.ddiv (FP.l2d (((i0.toInt64) + (i1.toInt64)) + (i2.toInt64))) (4616189618054758400 : UInt64))), .second]) rfl k) ?_
  show own_Run p e below s _ _ _ (T49.setTop (mkF m 66 #[.val (.int i0), .val (.int i1), .val (.int i2), .val (.int i3), .val (.int i4), .val (.int i5), .val (.double (FP.ddiv (FP.i2d i0) (4616189618054758400 : UInt64))), .second, .val (.double (FP.ddiv (FP.i2d i1) (4616189618054758400 : UInt64))), .second, .val (.double (FP.ddiv (FP.i2d i2) (4616189618054758400 : UInt64))), .second, .val (.ref b44), .val (.long (((i0.toInt64) + (i1.toInt64)) + (i2.toInt64))), .second, .val (.double (FP.ddiv (FP.l2d (((i0.toInt64) + (i1.toInt64)) + (i2.toInt64))) (4616189618054758400 : UInt64))), .second] []))
  refine own_st (fun t k => XS.aload X49.here hx rfl (hb hby at_66) rfl rfl k) ?_
  show own_Run p e below s _ _ _ (T49.setTop (mkF m 68 #[.val (.int i0), .val (.int i1), .val (.int i2), .val (.int i3), .val (.int i4), .val (.int i5), .val (.double (FP.ddiv (FP.i2d i0) (4616189618054758400 : UInt64))), .second, .val (.double (FP.ddiv (FP.i2d i1) (4616189618054758400 : UInt64))), .second, .val (.double (FP.ddiv (FP.i2d i2) (4616189618054758400 : UInt64))), .second, .val (.ref b44), .val (.long (((i0.toInt64) + (i1.toInt64)) + (i2.toInt64))), .second, .val (.double (FP.ddiv (FP.l2d (((i0.toInt64) + (i1.toInt64)) + (i2.toInt64))) (4616189618054758400 : UInt64))), .second] [(.ref b44)]))
  refine own_callV X49 hx hZ (y := (⟨"com/example/helioslope/helioslope/terrain/ClearSkyTerrain$Irradiance", "global", "()D"⟩ : MethodName)) (C := "com/example/helioslope/helioslope/terrain/ClearSkyTerrain$Irradiance") hown (hw _ (List.mem_of_getElem? (i := 27) rfl)) (hw _ (List.mem_of_getElem? (i := 28) rfl)) (hw _ (List.mem_of_getElem? (i := 30) rfl)) (hw _ (List.mem_of_getElem? (i := 29) rfl)) (hw _ (List.mem_of_getElem? (i := 31) rfl)) (hw _ (List.mem_of_getElem? (i := 3) rfl)) (by decide) rfl (a := b44) Q50 (argsL := []) (rest := []) (W := 0) (own_rm4 l Z a0 hw [] b44 (FP.ddiv (FP.i2d i0) (4616189618054758400 : UInt64)) (FP.ddiv (FP.i2d i1) (4616189618054758400 : UInt64)) (FP.ddiv (FP.i2d i2) (4616189618054758400 : UInt64)) T49.heap n0 (Nat.le_trans Z0 K54.1) Q51 Q52 Q53 (w1.nn) (w2.nn)) (by decide) (by decide) (by rw [hml]; rfl) (lenOf own_pd4 rfl) rfl (by exact Nat.le_of_eq rfl) (hb hby at_68) (by decide) (by decide) ?_
  intro T56 v56 L56 X56 hq56
  obtain ⟨rfl, N56q, hh56⟩ := hq56
  have N56 := Fr.app N49 N56q
  show own_Run p e below s _ _ _ (T56.setTop (mkF m 71 #[.val (.int i0), .val (.int i1), .val (.int i2), .val (.int i3), .val (.int i4), .val (.int i5), .val (.double (FP.ddiv (FP.i2d i0) (4616189618054758400 : UInt64))), .second, .val (.double (FP.ddiv (FP.i2d i1) (4616189618054758400 : UInt64))), .second, .val (.double (FP.ddiv (FP.i2d i2) (4616189618054758400 : UInt64))), .second, .val (.ref b44), .val (.long (((i0.toInt64) + (i1.toInt64)) + (i2.toInt64))), .second, .val (.double (FP.ddiv (FP.l2d (((i0.toInt64) + (i1.toInt64)) + (i2.toInt64))) (4616189618054758400 : UInt64))), .second] [(.double (FP.dadd (FP.dadd (FP.ddiv (FP.i2d i0) (4616189618054758400 : UInt64)) (FP.ddiv (FP.i2d i1) (4616189618054758400 : UInt64))) (FP.ddiv (FP.i2d i2) (4616189618054758400 : UInt64))))]))
  refine own_st (fun t k => XS.dload X56.here hx rfl (hb hby at_71) rfl k) ?_
  show own_Run p e below s _ _ _ (T56.setTop (mkF m 73 #[.val (.int i0), .val (.int i1), .val (.int i2), .val (.int i3), .val (.int i4), .val (.int i5), .val (.double (FP.ddiv (FP.i2d i0) (4616189618054758400 : UInt64))), .second, .val (.double (FP.ddiv (FP.i2d i1) (4616189618054758400 : UInt64))), .second, .val (.double (FP.ddiv (FP.i2d i2) (4616189618054758400 : UInt64))), .second, .val (.ref b44), .val (.long (((i0.toInt64) + (i1.toInt64)) + (i2.toInt64))), .second, .val (.double (FP.ddiv (FP.l2d (((i0.toInt64) + (i1.toInt64)) + (i2.toInt64))) (4616189618054758400 : UInt64))), .second] [(.double (FP.ddiv (FP.l2d (((i0.toInt64) + (i1.toInt64)) + (i2.toInt64))) (4616189618054758400 : UInt64))), (.double (FP.dadd (FP.dadd (FP.ddiv (FP.i2d i0) (4616189618054758400 : UInt64)) (FP.ddiv (FP.i2d i1) (4616189618054758400 : UInt64))) (FP.ddiv (FP.i2d i2) (4616189618054758400 : UInt64))))]))
  refine own_st (fun t k => XS.dcmpS X56.here hx rfl (hb hby at_73) rfl (v := (0 : Int32)) (w2.cmpE y9 rfl _) k) ?_
  show own_Run p e below s _ _ _ (T56.setTop (mkF m 74 #[.val (.int i0), .val (.int i1), .val (.int i2), .val (.int i3), .val (.int i4), .val (.int i5), .val (.double (FP.ddiv (FP.i2d i0) (4616189618054758400 : UInt64))), .second, .val (.double (FP.ddiv (FP.i2d i1) (4616189618054758400 : UInt64))), .second, .val (.double (FP.ddiv (FP.i2d i2) (4616189618054758400 : UInt64))), .second, .val (.ref b44), .val (.long (((i0.toInt64) + (i1.toInt64)) + (i2.toInt64))), .second, .val (.double (FP.ddiv (FP.l2d (((i0.toInt64) + (i1.toInt64)) + (i2.toInt64))) (4616189618054758400 : UInt64))), .second] [(.int (0 : Int32))]))
  refine own_st (fun t k => XS.ifNo X56.here hx rfl (hb hby at_74) rfl ((if0 _ _).trans (teq (by decide : (0 : Int32) = (0 : Int32))).2) k) ?_
  show own_Run p e below s _ _ _ (T56.setTop (mkF m 77 #[.val (.int i0), .val (.int i1), .val (.int i2), .val (.int i3), .val (.int i4), .val (.int i5), .val (.double (FP.ddiv (FP.i2d i0) (4616189618054758400 : UInt64))), .second, .val (.double (FP.ddiv (FP.i2d i1) (4616189618054758400 : UInt64))), .second, .val (.double (FP.ddiv (FP.i2d i2) (4616189618054758400 : UInt64))), .second, .val (.ref b44), .val (.long (((i0.toInt64) + (i1.toInt64)) + (i2.toInt64))), .second, .val (.double (FP.ddiv (FP.l2d (((i0.toInt64) + (i1.toInt64)) + (i2.toInt64))) (4616189618054758400 : UInt64))), .second] []))
  refine own_st (fun t k => XS.iconst X56.here hx rfl (hb hby at_77) k) ?_
  show own_Run p e below s _ _ _ (T56.setTop (mkF m 78 #[.val (.int i0), .val (.int i1), .val (.int i2), .val (.int i3), .val (.int i4), .val (.int i5), .val (.double (FP.ddiv (FP.i2d i0) (4616189618054758400 : UInt64))), .second, .val (.double (FP.ddiv (FP.i2d i1) (4616189618054758400 : UInt64))), .second, .val (.double (FP.ddiv (FP.i2d i2) (4616189618054758400 : UInt64))), .second, .val (.ref b44), .val (.long (((i0.toInt64) + (i1.toInt64)) + (i2.toInt64))), .second, .val (.double (FP.ddiv (FP.l2d (((i0.toInt64) + (i1.toInt64)) + (i2.toInt64))) (4616189618054758400 : UInt64))), .second] [(.int (1 : Int32))]))
  refine own_st (fun t k => XS.goto X56.here hx rfl (pc0 := 78) (pc' := 82) rfl (hb hby at_78) (by decide) (by decide) k) ?_
  show own_Run p e below s _ _ _ (T56.setTop (mkF m 82 #[.val (.int i0), .val (.int i1), .val (.int i2), .val (.int i3), .val (.int i4), .val (.int i5), .val (.double (FP.ddiv (FP.i2d i0) (4616189618054758400 : UInt64))), .second, .val (.double (FP.ddiv (FP.i2d i1) (4616189618054758400 : UInt64))), .second, .val (.double (FP.ddiv (FP.i2d i2) (4616189618054758400 : UInt64))), .second, .val (.ref b44), .val (.long (((i0.toInt64) + (i1.toInt64)) + (i2.toInt64))), .second, .val (.double (FP.ddiv (FP.l2d (((i0.toInt64) + (i1.toInt64)) + (i2.toInt64))) (4616189618054758400 : UInt64))), .second] [(.int (1 : Int32))]))
  exact own_ret X56 hx hlk (t := .boolean) hret rfl (Or.inl ⟨rfl, by simp, _, rfl⟩) (hb hby at_82) (by decide) (by decide) ⟨rfl, N56⟩
set_option maxRecDepth 65536 in
set_option maxHeartbeats 40000000 in
theorem own_comes_1 {Post : Tables → Env → Array Value → State → Outcome → State → Prop} (hpost : ∀ tb e args s v u, (limb_1_1.after args s (.returned v) u = true ∧ limb_1_2.after args s (.returned v) u = true ∧ True) → FrameEnd s (.returned v) u (Jvm.fieldLocs frame_1_writes args s ++ Jvm.arrayLocs frame_1_arrays args s ++ Jvm.staticLocs frame_1_statics s) 16 128 → Post tb e args s (.returned v) u) :
    ArmFor flags0 classFile x code maxLocals ret World_1 tables_1 room_1 Calls_1 rest_1 Pre_1 Post := by
  intro l hfl _ _ p e ha hc hk s m args below hf hA hF happ hP
  obtain ⟨hcalls, hrest, hpre⟩ := hP
  obtain ⟨-, -, -, hnamed, -, -, -, hat⟩ := (Spec.applies_iff hf).mp happ
  obtain ⟨hg, hn⟩ := and_e (Cond.before_iff.mp (show (Jvm.Cond.and given_1 narrow_1).before args s = true from hpre))
  obtain ⟨gv1, gv2⟩ := and_e hg
  obtain ⟨gv3, gv4⟩ := and_e gv2
  obtain ⟨gv5, gv6⟩ := and_e gv4
  obtain ⟨gv7, gv8⟩ := and_e gv6
  obtain ⟨gv9, gv10⟩ := and_e gv8
  obtain ⟨gv11, gv12⟩ := and_e gv10
  obtain ⟨w0, w1, w2, w3, w4, w5, rfl⟩ : ∃ w0 w1 w2 w3 w4 w5 : Value, args = #[w0, w1, w2, w3, w4, w5] := by
    have hs : args.size = 6 := by simpa [Cond.value, given_1] using gv1
    obtain ⟨L⟩ := args
    match L, hs with
    | [w0, w1, w2, w3, w4, w5], _ => exact ⟨w0, w1, w2, w3, w4, w5, rfl⟩
  have hw := fun d (hd : d ∈ tables_1) => atoms_spec (ws := Jvm.Cond.code x code maxLocals ret :: tables_1) hat d (List.mem_cons_of_mem _ hd)
  have hfit : Fit s := fun {y c} hc i hi => by
    obtain ⟨ha, rfl⟩ := Array.getElem?_eq_some_iff.mp hc
    have q := List.all_eq_true.mp ((Array.all_eq_true_iff_forall_mem.mp hF) _ (Array.getElem_mem ha)) i (List.mem_range.mpr hi)
    simpa [Array.getElem?_eq_getElem hi] using q
  obtain ⟨i0, ei0⟩ := is_v gv3
  obtain rfl : w0 = (.int i0) := Option.some.inj ei0
  obtain ⟨i1, ei1⟩ := is_v gv5
  obtain rfl : w1 = (.int i1) := Option.some.inj ei1
  obtain ⟨i2, ei2⟩ := is_v gv7
  obtain rfl : w2 = (.int i2) := Option.some.inj ei2
  obtain ⟨i3, ei3⟩ := is_v gv9
  obtain rfl : w3 = (.int i3) := Option.some.inj ei3
  obtain ⟨i4, ei4⟩ := is_v gv11
  obtain rfl : w4 = (.int i4) := Option.some.inj ei4
  obtain ⟨i5, ei5⟩ := is_v gv12
  obtain rfl : w5 = (.int i5) := Option.some.inj ei5
  obtain ⟨n, o, h1, h2, h3, _, L, rfl, ⟨rfl, N⟩, hq⟩ := own_rm0 l s _ hw tables_1 i0 i1 i2 i3 i4 i5 s.heap s.heap.size (Nat.le_refl _) (Old.start s)  p e ha hc hk s m _ below hf ((Spec.applies_iff_loose hf).mp happ).1 ⟨rfl, State.Warmed39.refl s, rfl⟩ trivial
  refine ⟨n, _, h1, h2, h3, hpost _ _ _ _ _ _ ⟨Cond.after_iff.mpr rfl, Cond.after_iff.mpr (eq_i res_at (Term.int_eval (1)) rfl), trivial⟩ ⟨hq.1, hq.2.1, (hq.2.2.sift fun y hy => Or.inr (N y hy)).mono (by decide) (by decide)⟩⟩
theorem main_1_1 : Claimed_1_1 := own_comes_1 fun _ _ _ _ _ _ h hF => ⟨h.1, hF⟩
theorem main_1_2 : Claimed_1_2 := own_comes_1 fun _ _ _ _ _ _ h hF => ⟨h.2.1, hF⟩
end Jvm.Pilot.@@N@@
namespace Jvm.Pilot.@@N@@
open Jvm Jvm.ClassFile Sem Op Lib Jvm.Free Jvm.Stand Jvm.Pilot.@@N@@.Jvm.D
/-! MADE BY PROGRAM (witnessworld.py) out of the Statement's table words and the real class files: 10 classes; the members and pool entries that the words name. The judged class is class 1, her method 1. -/
namespace start1
open Jvm.ClassFile
def u (s : String) : CpInfo := .utf8 (stringToUtf16 s)
/-- a pool by its gaps: so many unusable entries, then the entry; so many at the end -/
def gap : Nat → List CpInfo → List CpInfo
  | 0, r => r
  | n + 1, r => .unusable :: gap n r
def poolList (es : List (Nat × CpInfo)) (last : Nat) : List CpInfo := es.foldr (fun e r => gap e.1 (e.2 :: r)) (gap last [])
def pool (es : List (Nat × CpInfo)) (last : Nat) : Array CpInfo := ⟨poolList es last⟩
def fileOf (pool : Array CpInfo) (this : Nat) (attrs : Array Attribute := #[]) (ms : Array MethodInfo := #[]) (fl : Nat := 33) (sup : Nat := 0) (ifs : Array Nat := #[]) (fds : Array FieldInfo := #[]) : ClassFile where
  minorVersion := 0
  majorVersion := 65
  constantPool := pool
  accessFlags := fl
  thisClass := this
  superClass := sup
  interfaces := ifs
  fields := fds
  methods := ms
  attributes := attrs
def plain (name : String) (sup : Option ClassId) : Class where
  name := name
  kind := .ordinary
  loader := none
  accessFlags := 33
  super := sup
  interfaces := #[]
  cf := none
  fields := #[]
  methods := #[]
  instanceTypes := #[]
  staticTypes := #[]
  resolved := #[]
  callSites := []
  init := .initialized
  statics := none
  mirror := none

def pool0 : Array CpInfo := pool [(5, u "<init>"), (0, u "()V"), (1, .class_ 10), (1, u "java/lang/Object")] 113

def k0c0 : Code := { maxStack := 0, maxLocals := 1, code := object_method_1_code, exceptionTable := #[], attributes := #[] }
def k0m0 : Method := { name := "<init>", desc := "()V", sig := { parameters := [], returnType := none }, accessFlags := 1, code := some k0c0 }
/-- java/lang/Object -/
def k0 : Class := { plain "java/lang/Object" none with
  accessFlags := 33
  interfaces := #[]
  cf := some (fileOf pool0 8 #[] #[{ accessFlags := 1, nameIndex := 5, descriptorIndex := 6, attributes := #[] }] 33 0 #[] #[])
  fields := #[]
  methods := #[k0m0]
  instanceTypes := #[]
  staticTypes := #[]
  resolved := Array.replicate 124 none
  statics := none }

def pool1 : Array CpInfo := pool [(2, .class_ 4), (1, u "java/lang/Object"), (0, u "<init>"), (0, u "()V"), (0, .double 4616189618054758400), (1, .class_ 10), (0, u "com/example/helioslope/helioslope/terrain/ClearSkyTerrain$Irradiance"), (0, .methodref 9 12), (0, .nameAndType 5 13), (0, u "(DDDDDD)V"), (0, .methodref 9 15), (0, .nameAndType 16 17), (0, u "global"), (0, u "()D"), (0, .class_ 19), (0, u "com/example/helioslope/helioslope/terrain/IrradianceGlobalPinLaw"), (2, u "law"), (0, u "(IIIIII)Z")] 7

def k1m0 : Method := { name := "<init>", desc := "()V", sig := { parameters := [], returnType := none }, accessFlags := 1, code := none }
def k1c1 : Code := { maxStack := 14, maxLocals := 17, code := code, exceptionTable := #[], attributes := #[] }
def k1m1 : Method := { name := "law", desc := "(IIIIII)Z", sig := { parameters := [.int, .int, .int, .int, .int, .int], returnType := some .boolean }, accessFlags := 9, code := some k1c1 }
/-- com/example/helioslope/helioslope/terrain/IrradianceGlobalPinLaw -/
def k1 : Class := { plain "com/example/helioslope/helioslope/terrain/IrradianceGlobalPinLaw" (some 0) with
  accessFlags := 49
  interfaces := #[]
  cf := some (fileOf pool1 18 #[] #[{ accessFlags := 1, nameIndex := 5, descriptorIndex := 6, attributes := #[] }, { accessFlags := 9, nameIndex := 22, descriptorIndex := 23, attributes := #[] }] 49 2 #[] #[])
  fields := #[]
  methods := #[k1m0, k1m1]
  instanceTypes := #[]
  staticTypes := #[]
  resolved := Array.replicate 31 none
  statics := none }

def pool2 : Array CpInfo := pool [(1, .methodref 2 3), (0, .class_ 4), (0, .nameAndType 5 6), (0, u "java/lang/Object"), (0, u "<init>"), (0, u "()V"), (0, .class_ 8), (0, u "java/lang/Record")] 13

def k2c0 : Code := { maxStack := 1, maxLocals := 1, code := jdk_30_method_1_code, exceptionTable := #[], attributes := #[] }
def k2m0 : Method := { name := "<init>", desc := "()V", sig := { parameters := [], returnType := none }, accessFlags := 4, code := some k2c0 }
/-- java/lang/Record -/
def k2 : Class := { plain "java/lang/Record" (some 0) with
  accessFlags := 1057
  interfaces := #[]
  cf := some (fileOf pool2 7 #[] #[{ accessFlags := 4, nameIndex := 5, descriptorIndex := 6, attributes := #[] }] 1057 2 #[] #[])
  fields := #[]
  methods := #[k2m0]
  instanceTypes := #[]
  staticTypes := #[]
  resolved := Array.replicate 22 none
  statics := none }

def pool3 : Array CpInfo := pool [(1, .methodref 2 3), (0, .class_ 4), (0, .nameAndType 5 6), (0, u "java/lang/Record"), (0, u "<init>"), (0, u "()V"), (0, .fieldref 8 9), (0, .class_ 10), (0, .nameAndType 11 12), (0, u "com/example/helioslope/helioslope/terrain/ClearSkyTerrain$Irradiance"), (0, u "beam"), (0, u "D"), (0, .fieldref 8 14), (0, .nameAndType 15 12), (0, u "diffuse"), (0, .fieldref 8 17), (0, .nameAndType 18 12), (0, u "reflected"), (0, .fieldref 8 20), (0, .nameAndType 21 12), (0, u "directHorizontal"), (0, .fieldref 8 23), (0, .nameAndType 24 12), (0, u "diffuseHorizontal"), (0, .fieldref 8 26), (0, .nameAndType 27 12), (0, u "extraterrestrialHorizontal"), (18, u "(DDDDDD)V"), (17, u "global"), (0, u "()D"), (9, .class_ 76), (0, u "com/example/helioslope/helioslope/terrain/ClearSkyTerrain")] 24

def k3c0 : Code := { maxStack := 3, maxLocals := 13, code := prog_91_method_1_code, exceptionTable := #[], attributes := #[] }
def k3m0 : Method := { name := "<init>", desc := "(DDDDDD)V", sig := { parameters := [.double, .double, .double, .double, .double, .double], returnType := none }, accessFlags := 1, code := some k3c0 }
def k3c1 : Code := { maxStack := 4, maxLocals := 1, code := prog_91_method_2_code, exceptionTable := #[], attributes := #[] }
def k3m1 : Method := { name := "global", desc := "()D", sig := { parameters := [], returnType := some .double }, accessFlags := 1, code := some k3c1 }
/-- com/example/helioslope/helioslope/terrain/ClearSkyTerrain$Irradiance -/
def k3 : Class := { plain "com/example/helioslope/helioslope/terrain/ClearSkyTerrain$Irradiance" (some 2) with
  accessFlags := 49
  interfaces := #[]
  cf := some (fileOf pool3 8 #[.nestHost 75] #[{ accessFlags := 1, nameIndex := 5, descriptorIndex := 46, attributes := #[] }, { accessFlags := 1, nameIndex := 64, descriptorIndex := 65, attributes := #[] }] 49 2 #[] #[{ accessFlags := 18, nameIndex := 11, descriptorIndex := 12, attributes := #[] }, { accessFlags := 18, nameIndex := 15, descriptorIndex := 12, attributes := #[] }, { accessFlags := 18, nameIndex := 18, descriptorIndex := 12, attributes := #[] }, { accessFlags := 18, nameIndex := 21, descriptorIndex := 12, attributes := #[] }, { accessFlags := 18, nameIndex := 24, descriptorIndex := 12, attributes := #[] }, { accessFlags := 18, nameIndex := 27, descriptorIndex := 12, attributes := #[] }])
  fields := #[{ name := "beam", type := .double, accessFlags := 18, slot := 0, constantValue := 0 }, { name := "diffuse", type := .double, accessFlags := 18, slot := 1, constantValue := 0 }, { name := "reflected", type := .double, accessFlags := 18, slot := 2, constantValue := 0 }, { name := "directHorizontal", type := .double, accessFlags := 18, slot := 3, constantValue := 0 }, { name := "diffuseHorizontal", type := .double, accessFlags := 18, slot := 4, constantValue := 0 }, { name := "extraterrestrialHorizontal", type := .double, accessFlags := 18, slot := 5, constantValue := 0 }]
  methods := #[k3m0, k3m1]
  instanceTypes := #[.double, .double, .double, .double, .double, .double]
  staticTypes := #[]
  resolved := Array.replicate 101 none
  statics := none }

def pool4 : Array CpInfo := pool [(1, u "java/lang/Cloneable"), (0, .class_ 1), (0, u "java/lang/Object"), (0, .class_ 3)] 3

/-- java/lang/Cloneable -/
def k4 : Class := { plain "java/lang/Cloneable" (some 0) with
  accessFlags := 1537
  interfaces := #[]
  cf := some (fileOf pool4 2 #[] #[] 1537 4 #[] #[])
  fields := #[]
  methods := #[]
  instanceTypes := #[]
  staticTypes := #[]
  resolved := Array.replicate 8 none
  statics := none }

def pool5 : Array CpInfo := pool [(1, u "java/io/Serializable"), (0, .class_ 1), (0, u "java/lang/Object"), (0, .class_ 3)] 3

/-- java/io/Serializable -/
def k5 : Class := { plain "java/io/Serializable" (some 0) with
  accessFlags := 1537
  interfaces := #[]
  cf := some (fileOf pool5 2 #[] #[] 1537 4 #[] #[])
  fields := #[]
  methods := #[]
  instanceTypes := #[]
  staticTypes := #[]
  resolved := Array.replicate 8 none
  statics := none }

/-- the primitive byte -/
def k6 : Class := { plain "byte" none with kind := .primitive 'B', accessFlags := 0x411 }
/-- [B -/
def k7 : Class := { plain "[B" (some 0) with kind := .array 6 .byte, interfaces := #[4, 5], accessFlags := 1041 }

/-- the primitive int -/
def k8 : Class := { plain "int" none with kind := .primitive 'I', accessFlags := 0x411 }
/-- [I -/
def k9 : Class := { plain "[I" (some 0) with kind := .array 8 .int, interfaces := #[4, 5], accessFlags := 1041 }

def heap : Heap := #[]
def classes : Array Class := #[k0, k1, k2, k3, k4, k5, k6, k7, k8, k9]
def interned : List (Array UInt16 × Addr) := []
def slotsUsed : Nat := 0
def theMethod : MethodId := ⟨1, 1⟩
def args0 : Array Value := #[.int 1, .int 2, .int 3, .int 4, .int 2, .int 3]
def aboutOver (below : List Frame) : State where
  vm := { classes := classes, interned := interned.toArray }
  heap := heap
  slotsUsed := slotsUsed
  threads := #[{ frames := .invoking theMethod args0 :: below }]
def below0 : List Frame := [.native { method := ⟨0, 0⟩, args := #[] }]
def about1 : State := aboutOver below0
def p0 : Program := .bare "" "" ""
def e0 : Env := launch0.env 0 0 0
theorem w_frames : about1.frames = Frame.invoking theMethod args0 :: below0 := rfl
set_option maxRecDepth 65536 in
theorem w_args : argsFit about1.vm theMethod args0 = true := by decide +kernel
set_option maxRecDepth 65536 in
theorem w_heap : heapFits about1 = true := by decide +kernel
set_option maxRecDepth 65536 in
theorem w_runnable : about1.curStatus? = some .runnable := by decide +kernel
set_option maxRecDepth 65536 in
theorem w_alone : about1.alone = true := by decide +kernel
set_option maxRecDepth 65536 in
theorem w_named : about1.methodNamed? x = some theMethod := by decide +kernel
set_option maxRecDepth 65536 in
theorem w_hears : about1.hears theMethod below0 = true := by decide +kernel
set_option maxRecDepth 65536 in
theorem w_ripe : about1.ripe theMethod args0 below0 = true := by decide +kernel
theorem w_running : about1.status = .running := rfl
set_option maxRecDepth 65536 in
theorem w_room : about1.hasRoom e0.platform room_1 = true :=
  launch0.hasRoom_least _ room_1 (by decide +kernel) (by decide +kernel) (by decide +kernel) (by decide +kernel) (by decide +kernel) (by decide +kernel)
theorem allAtoms_all (ts : List Jvm.Cond) (a : Array Jvm.Value) (st : Jvm.State) : (allAtoms ts).before a st = ts.all (fun c => c.before a st) := by
  induction ts with
  | nil => rfl
  | cons c t ih =>
    show (Jvm.Cond.and c (allAtoms t)).before a st = _
    rw [Jvm.Cond.before_and, ih, List.all_cons]
def words1 : List Jvm.Cond := Jvm.Cond.code x code maxLocals ret :: tables_1
/-- a 'code' word, met by the world's own term for the bytes: nothing is compared byte by byte -/
theorem code_word {y : MethodName} {bytes : ByteArray} {mx : Nat} {rt : Option FieldType} {a : Array Value} {s : State} {m : MethodId} {meth : Method} {c : Code} (h1 : s.methodNamed? y = some m) (h2 : s.vm.method? m = some meth) (h3 : meth.code = some c) (h4 : c.code = bytes)
    (h5 : (c.maxLocals == mx && c.exceptionTable.isEmpty && decide (c.maxStack ≤ mostOperands) && decide (meth.sig.returnType = rt) && !meth.locks && decide (parseMethodDescriptor y.desc = some meth.sig)) = true) : (Jvm.Cond.code y bytes mx rt).before a s = true := by
  simp only [Bool.and_eq_true, beq_iff_eq, Bool.not_eq_true', decide_eq_true_eq] at h5
  obtain ⟨⟨⟨⟨⟨g1, g2⟩, g3⟩, g4⟩, g5⟩, g6⟩ := h5
  simp [Cond.before, Cond.holds, Cond.value, h1, h2, h3, h4, g1, g2, g3, g4, g5, g6]
def isCode : Jvm.Cond → Bool
  | .code _ _ _ _ => true
  | _ => false
theorem all_split {L : List Jvm.Cond} {P : Jvm.Cond → Bool} (h1 : L.all (fun c => isCode c || P c) = true) (h2 : ∀ c ∈ L.filter isCode, P c = true) : L.all P = true := by
  refine List.all_eq_true.mpr fun c hc => ?_
  have h := List.all_eq_true.mp h1 c hc
  rcases Bool.eq_false_or_eq_true (isCode c) with hi | hi
  · exact h2 c (List.mem_filter.mpr ⟨hc, hi⟩)
  · simpa [hi] using h
set_option maxRecDepth 65536 in
theorem w_c0 : (Jvm.Cond.code x code maxLocals ret).before args0 about1 = true := code_word (m := ⟨1, 1⟩) (meth := k1m1) (c := k1c1) (by decide +kernel) rfl rfl rfl (by decide +kernel)
set_option maxRecDepth 65536 in
theorem w_c1 : (Jvm.Cond.code ({ cls := "com/example/helioslope/helioslope/terrain/ClearSkyTerrain$Irradiance", name := "<init>", desc := "(DDDDDD)V" } : Jvm.MethodName) prog_91_method_1_code (13 : Nat) (Option.none : Option Jvm.ClassFile.FieldType)).before args0 about1 = true := code_word (m := ⟨3, 0⟩) (meth := k3m0) (c := k3c0) (by decide +kernel) rfl rfl rfl (by decide +kernel)
set_option maxRecDepth 65536 in
theorem w_c2 : (Jvm.Cond.code ({ cls := "java/lang/Record", name := "<init>", desc := "()V" } : Jvm.MethodName) jdk_30_method_1_code (1 : Nat) (Option.none : Option Jvm.ClassFile.FieldType)).before args0 about1 = true := code_word (m := ⟨2, 0⟩) (meth := k2m0) (c := k2c0) (by decide +kernel) rfl rfl rfl (by decide +kernel)
set_option maxRecDepth 65536 in
theorem w_c3 : (Jvm.Cond.code ({ cls := "java/lang/Object", name := "<init>", desc := "()V" } : Jvm.MethodName) object_method_1_code (1 : Nat) (Option.none : Option Jvm.ClassFile.FieldType)).before args0 about1 = true := code_word (m := ⟨0, 0⟩) (meth := k0m0) (c := k0c0) (by decide +kernel) rfl rfl rfl (by decide +kernel)
set_option maxRecDepth 65536 in
theorem w_c4 : (Jvm.Cond.code ({ cls := "com/example/helioslope/helioslope/terrain/ClearSkyTerrain$Irradiance", name := "global", desc := "()D" } : Jvm.MethodName) prog_91_method_2_code (1 : Nat) (Option.some Jvm.ClassFile.FieldType.double)).before args0 about1 = true := code_word (m := ⟨3, 1⟩) (meth := k3m1) (c := k3c1) (by decide +kernel) rfl rfl rfl (by decide +kernel)
def codes1 : List Jvm.Cond := [Jvm.Cond.code x code maxLocals ret, Jvm.Cond.code ({ cls := "com/example/helioslope/helioslope/terrain/ClearSkyTerrain$Irradiance", name := "<init>", desc := "(DDDDDD)V" } : Jvm.MethodName) prog_91_method_1_code (13 : Nat) (Option.none : Option Jvm.ClassFile.FieldType), Jvm.Cond.code ({ cls := "java/lang/Record", name := "<init>", desc := "()V" } : Jvm.MethodName) jdk_30_method_1_code (1 : Nat) (Option.none : Option Jvm.ClassFile.FieldType), Jvm.Cond.code ({ cls := "java/lang/Object", name := "<init>", desc := "()V" } : Jvm.MethodName) object_method_1_code (1 : Nat) (Option.none : Option Jvm.ClassFile.FieldType), Jvm.Cond.code ({ cls := "com/example/helioslope/helioslope/terrain/ClearSkyTerrain$Irradiance", name := "global", desc := "()D" } : Jvm.MethodName) prog_91_method_2_code (1 : Nat) (Option.some Jvm.ClassFile.FieldType.double)]
set_option maxRecDepth 65536 in
theorem codes_eq : words1.filter isCode = codes1 := rfl
theorem w_codes : ∀ c ∈ words1.filter isCode, c.before args0 about1 = true := by
  rw [codes_eq]
  intro c hc
  simp only [codes1, List.mem_cons, List.not_mem_nil, or_false] at hc
  rcases hc with rfl | rfl | rfl | rfl | rfl
  · exact w_c0
  · exact w_c1
  · exact w_c2
  · exact w_c3
  · exact w_c4
set_option maxRecDepth 65536 in
theorem w_t1 : (words1.take 24).all (fun c => isCode c || c.before args0 about1) = true := by decide +kernel
set_option maxRecDepth 65536 in
theorem w_t2 : (words1.drop 24).all (fun c => isCode c || c.before args0 about1) = true := by decide +kernel
theorem w_tables : (allAtoms (Jvm.Cond.code x code maxLocals ret :: tables_1)).before args0 about1 = true := by
  rw [allAtoms_all]
  show words1.all (fun c => c.before args0 about1) = true
  refine all_split ?_ w_codes
  rw [← List.take_append_drop 24 words1, List.all_append, w_t1, w_t2]
  rfl
set_option maxRecDepth 65536 in
theorem w_case : (Jvm.Cond.and given_1 narrow_1).before args0 about1 = true := by decide +kernel
theorem w_applies : (headSpec (Jvm.Cond.code x code maxLocals ret :: tables_1) room_1).applies x e0.platform about1 = true :=
  (Spec.applies_iff w_frames).mpr ⟨w_running, w_runnable, w_alone, w_named, w_hears, w_ripe, w_room, w_tables⟩
theorem atStart : AtStart classFile x code maxLocals ret World_1 tables_1 room_1 Calls_1 rest_1 Pre_1 launch0 p0 e0 about1 theMethod args0 below0 :=
  ⟨lists_1, trivial, launch0.admits_env _ _ _, launch0.least_env, fairChoices_fair.cas, fairChoices_fair.clock, w_frames, w_args, w_heap, w_applies, trivial, trivial, w_case⟩
end start1
theorem witness_1 : WitnessClaimed_1 := ⟨start1.p0, start1.e0, start1.about1, start1.theMethod, start1.args0, start1.below0, start1.atStart⟩
end Jvm.Pilot.@@N@@
