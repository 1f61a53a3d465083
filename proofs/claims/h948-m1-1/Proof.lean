import JvmDerived
import JvmDerived.Pilot.@@N@@Statement
import JvmDerived.Pilot.@@N@@Code
set_option linter.unusedVariables false
set_option linter.unusedSimpArgs false
namespace Jvm.Pilot.@@N@@
open Jvm Jvm.ClassFile Sem Op Lib Jvm.Free Jvm.Stand Jvm.LawKit Jvm.RoadKit Bundle Jvm.Pilot.@@N@@.Jvm.D
def own_Run (p : Program) (e : Env) (below : List Frame) (s : State) (Q : Option Value → Heap → List Loc → Prop) (ck sk : Nat) (U : State) : Prop :=
  ∃ s₂ o, Steps p.tables e below U s₂ ∧ s₂.status = .running ∧ Ended s₂ below o ∧ ∃ v L, o = .returned v ∧ Q v s₂.heap L ∧ FrameEnd s o s₂ L ck sk
section OwnLayer
variable {p : Program} {l : Launch} {e : Env} {R : Room} {s : State} {m : MethodId} {args : Array Value} {below : List Frame} {meth : Method} {c : Code} {T : State} {locs : List Loc} {cells slots : Nat} {Z : State} {a0 : Array Value} {h : Heap} {Q : Option Value → Heap → List Loc → Prop} {ck sk : Nat}
theorem own_st {U U' : State} (hh : ∀ t, Steps p.tables e below U' t → Steps p.tables e below U t) (K : own_Run p e below s Q ck sk U') : own_Run p e below s Q ck sk U := by
  obtain ⟨s2, o, h1, r⟩ := K
  exact ⟨s2, o, hh _ h1, r⟩
theorem own_topI {pc : Nat} {Ls : Array Slot} {st : List Value} {v v' : Int32} (hv : v = v') (K : own_Run p e below s Q ck sk (T.setTop (mkF m pc Ls (.int v' :: st)))) : own_Run p e below s Q ck sk (T.setTop (mkF m pc Ls (.int v :: st))) := hv ▸ K
theorem own_topJ {pc : Nat} {Ls : Array Slot} {st : List Value} {v v' : Int64} (hv : v = v') (K : own_Run p e below s Q ck sk (T.setTop (mkF m pc Ls (.long v' :: st)))) : own_Run p e below s Q ck sk (T.setTop (mkF m pc Ls (.long v :: st))) := hv ▸ K
theorem own_topD {pc : Nat} {Ls : Array Slot} {st : List Value} {v v' : UInt64} (hv : v = v') (K : own_Run p e below s Q ck sk (T.setTop (mkF m pc Ls (.double v' :: st)))) : own_Run p e below s Q ck sk (T.setTop (mkF m pc Ls (.double v :: st))) := hv ▸ K
theorem own_ret (X : Stand p l e R s m args below meth c T locs cells slots) (hx : p.tables.exec = Jvm.exec) (hlk : meth.locks = false) {pc : Nat} {Ls : Array Slot} {w : Value} {t : FieldType} {i : Instr} {rest : List Value} (hret : meth.sig.returnType = some t) (hn : narrow t w = w)
    (hi : (i = .ireturn ∧ (t = .int ∨ t = .boolean ∨ t = .byte ∨ t = .char ∨ t = .short) ∧ ∃ z, w = .int z) ∨ (i = .lreturn ∧ t = .long ∧ ∃ z, w = .long z) ∨ (i = .dreturn ∧ t = .double ∧ ∃ z, w = .double z) ∨ (i = .freturn ∧ t = .float ∧ ∃ z, w = .float z) ∨ (i = .areturn ∧ t.isReference = true ∧ w.isRef = true))
    (hd : decode c.code pc = .ok (i, 1)) (hc : cells ≤ ck) (hs : slots ≤ sk) (hq : Q (some w) T.heap locs) : own_Run p e below s Q ck sk (T.setTop (mkF m pc Ls (w :: rest))) := by
  obtain ⟨fs, hr, hrun, hended, hW, hsame⟩ := X.leave (v := some w) (fun q => by rw [hret] at q; cases q) hlk
  exact ⟨_, _, retOut X hx hret hn hi hd hr, hrun, hended, _, _, rfl, hq, ⟨_, rfl⟩, hW, hsame.mono hc hs⟩
theorem own_retV (X : Stand p l e R s m args below meth c T locs cells slots) (hx : p.tables.exec = Jvm.exec) (hlk : meth.locks = false) {pc : Nat} {Ls : Array Slot} (hret : meth.sig.returnType = none)
    (hd : decode c.code pc = .ok (.return_, 1)) (hc : cells ≤ ck) (hs : slots ≤ sk) (hq : Q none T.heap locs) : own_Run p e below s Q ck sk (T.setTop (mkF m pc Ls [])) := by
  obtain ⟨fs, hr, hrun, hended, hW, hsame⟩ := X.leave (v := none) (fun _ => rfl) hlk
  exact ⟨_, _, X.returnOut hx hret hd hr, hrun, hended, _, _, rfl, hq, ⟨_, rfl⟩, hW, hsame.mono hc hs⟩
theorem own_body {y : MethodName} {bytes : ByteArray} {maxL : Nat} {ret : Option FieldType} {ws : List Jvm.Cond} {rm : Room} {as' : Array Value} {h0 : Heap} (hpl : plainFor y = true)
    (hbody : ∀ (p : Program) (e : Env) (s : State) (m : MethodId) (below : List Frame) (meth : Method) (c : Code) (s₁ : State), p.tables.exec = Jvm.exec → c.code = bytes → c.maxLocals = maxL → Z.Warmed39 s.vm → s.vm.findClass y.cls = some m.cls → meth.name = y.name → meth.sig.returnType = ret → meth.locks = false → Stand p l e rm s m as' below meth c s₁ [] 0 0 → s₁.heap = h0 → own_Run p e below s Q rm.cells rm.slots (s₁.setTop (entryFrame m as' maxL))) :
    MetFree l y (head1 (Jvm.Cond.code y bytes maxL ret :: ws) rm) (fun a U => a = as' ∧ Z.Warmed39 U.vm ∧ U.heap = h0) (fun _ _ _ _ _ => True) (fun _ U o U' => ∃ v L, o = .returned v ∧ Q v U'.heap L ∧ FrameEnd U o U' L rm.cells rm.slots) := by
  refine MetFree.of_bodySF hpl hisR ?_
  intro p e s m args below meth c s₁ Bd hml0 hP hK
  obtain ⟨rfl, hZ, hh⟩ := hP
  exact hbody p e s m below meth c s₁ Bd.exec Bd.bytes hml0 hZ (findClass_of_methodNamed Bd.named) (name_of_methodNamed Bd.named Bd.method).1 Bd.returns Bd.notSynchronized (Stand.of_body Bd) (by rw [← hh, Bd.state]; rfl)
theorem own_callI (X : Stand p l e R s m args below meth c T locs cells slots) (hx : p.tables.exec = Jvm.exec) (hZ : Z.Warmed39 s.vm) {own : String} {idx : Nat} {y : MethodName} (hy1 : y.name = "<init>") (hown : s.vm.findClass own = some m.cls) (w1 : (Jvm.Cond.methodLink own idx y).before a0 Z = true) (w2 : (Jvm.Cond.instanceMethod y).before a0 Z = true)
    {bytes : ByteArray} {maxL : Nat} (w3 : (Jvm.Cond.code y bytes maxL none).before a0 Z = true) (wz : (Jvm.Cond.initialized y.cls).before a0 Z = true) (hy : y.cls ≠ "java/lang/invoke/MethodHandle" ∧ y.cls ≠ "java/lang/invoke/VarHandle") (eT : T.heap = h) {rm : Room} {Qc : Option Value → Heap → List Loc → Prop} {a : Addr} {argsL rest : List Value}
    (hM : MetFree l y (head1 [Jvm.Cond.code y bytes maxL none] rm) (fun b U => b = (Value.ref a :: argsL).toArray ∧ Z.Warmed39 U.vm ∧ U.heap = h) (fun _ _ _ _ _ => True) (fun _ U o U' => ∃ v L, o = .returned v ∧ Qc v U'.heap L ∧ FrameEnd U o U' L rm.cells rm.slots))
    {W : Nat} (hf : rm.frames + 1 ≤ R.frames) (hl : W + (maxL + 11) + rm.locals ≤ R.locals) {pc : Nat} {Ls : Array Slot} {st : List Value} (hsize : Ls.size = c.maxLocals) (hlen : ∀ sig, parseMethodDescriptor y.desc = some sig → argsL.length = sig.parameters.length) (hst : st = argsL.reverse ++ .ref a :: rest) (hW : (rest.map fun v => v.category).sum ≤ W) (hd : decode c.code pc = .ok (.invokespecial idx, 3)) (hc : cells + rm.cells ≤ R.cells) (hs : slots + rm.slots ≤ R.slots)
    (K : ∀ (T' : State) (v : Option Value) (L : List Loc), Stand p l e R s m args below meth c T' (locs ++ L) (cells + rm.cells) (slots + rm.slots) → Qc v T'.heap L → own_Run p e below s Q ck sk (T'.setTop (mkF m (pc + 3) Ls (v.toList ++ rest)))) :
    own_Run p e below s Q ck sk (T.setTop (mkF m pc Ls st)) := by
  obtain ⟨v, _, ⟨T', L', k', n'⟩, -, X', ⟨Lc, hQ, hl', hk', hn'⟩, st'⟩ := X.specialBack hx (y := y) hy1 hown (mvT hZ w1) (mvT hZ w2) (mvT hZ w3) hy (backOf (W := W) hM hZ w3 wz hf hl) (g := mkF m pc Ls st) rfl hsize (Steps.refl _) (a := a) (argsL := argsL) (rest := rest) hlen hst (by show 2 * 0 + _ ≤ _; omega) hd (fun _ _ => ⟨rfl, eT, hc, hs⟩)
  dsimp only [Pt.U, Pt.locs, Pt.cells, Pt.slots] at X' hl' hk' hn' st' hQ
  subst hl' hk' hn'
  exact own_st (fun t k => st'.trans k) (K T' v Lc X' hQ)
theorem own_callV (X : Stand p l e R s m args below meth c T locs cells slots) (hx : p.tables.exec = Jvm.exec) (hZ : Z.Warmed39 s.vm) {own C : String} {idx : Nat} {y : MethodName} (hown : s.vm.findClass own = some m.cls) (w1 : (Jvm.Cond.methodLink own idx y).before a0 Z = true) (w2 : (Jvm.Cond.declares y).before a0 Z = true) (w3 : (Jvm.Cond.selects C y y).before a0 Z = true) (w4 : (Jvm.Cond.instanceMethod y).before a0 Z = true)
    {bytes : ByteArray} {maxL : Nat} {ret : Option FieldType} (w5 : (Jvm.Cond.code y bytes maxL ret).before a0 Z = true) (wz : (Jvm.Cond.initialized y.cls).before a0 Z = true) (hy : y.cls ≠ "java/lang/invoke/MethodHandle" ∧ y.cls ≠ "java/lang/invoke/VarHandle") (eT : T.heap = h) {a : Addr} (E : Exa Z h a C) {rm : Room} {Qc : Option Value → Heap → List Loc → Prop} {argsL rest : List Value}
    (hM : MetFree l y (head1 [Jvm.Cond.code y bytes maxL ret] rm) (fun b U => b = (Value.ref a :: argsL).toArray ∧ Z.Warmed39 U.vm ∧ U.heap = h) (fun _ _ _ _ _ => True) (fun _ U o U' => ∃ v L, o = .returned v ∧ Qc v U'.heap L ∧ FrameEnd U o U' L rm.cells rm.slots))
    {W : Nat} (hf : rm.frames + 1 ≤ R.frames) (hl : W + (maxL + 11) + rm.locals ≤ R.locals) {pc : Nat} {Ls : Array Slot} {st : List Value} (hsize : Ls.size = c.maxLocals) (hlen : ∀ sig, parseMethodDescriptor y.desc = some sig → argsL.length = sig.parameters.length) (hst : st = argsL.reverse ++ .ref a :: rest) (hW : (rest.map fun v => v.category).sum ≤ W) (hd : decode c.code pc = .ok (.invokevirtual idx, 3)) (hc : cells + rm.cells ≤ R.cells) (hs : slots + rm.slots ≤ R.slots)
    (K : ∀ (T' : State) (v : Option Value) (L : List Loc), Stand p l e R s m args below meth c T' (locs ++ L) (cells + rm.cells) (slots + rm.slots) → Qc v T'.heap L → own_Run p e below s Q ck sk (T'.setTop (mkF m (pc + 3) Ls (v.toList ++ rest)))) :
    own_Run p e below s Q ck sk (T.setTop (mkF m pc Ls st)) := by
  obtain ⟨cq, kq, qa, qb, qc⟩ := isOf hZ eT E
  obtain ⟨v, _, ⟨T', L', k', n'⟩, -, X', ⟨Lc, hQ, hl', hk', hn'⟩, st'⟩ := X.virtualBack hx (y := y) (z := y) hown (mvT hZ w1) (mvT hZ w2) (notFace_of_selects (args := #[]) (mvT hZ w3)) (mvT hZ w3) (mvT hZ w4) hy (backOf (W := W) hM hZ w5 wz hf hl) qa qc (g := mkF m pc Ls st) rfl hsize (Steps.refl _) (argsL := argsL) (rest := rest) hlen hst (by show 2 * 0 + _ ≤ _; omega) hd (fun _ _ => ⟨rfl, eT, hc, hs⟩)
  dsimp only [Pt.U, Pt.locs, Pt.cells, Pt.slots] at X' hl' hk' hn' st' hQ
  subst hl' hk' hn'
  exact own_st (fun t k => st'.trans k) (K T' v Lc X' hQ)
theorem own_callS (X : Stand p l e R s m args below meth c T locs cells slots) (hx : p.tables.exec = Jvm.exec) (hZ : Z.Warmed39 s.vm) {own : String} {idx : Nat} {y : MethodName} (hown : s.vm.findClass own = some m.cls) (w1 : (Jvm.Cond.methodLink own idx y).before a0 Z = true) (w2 : (Jvm.Cond.static y).before a0 Z = true)
    {bytes : ByteArray} {maxL : Nat} {ret : Option FieldType} (w5 : (Jvm.Cond.code y bytes maxL ret).before a0 Z = true) (wz : (Jvm.Cond.initialized y.cls).before a0 Z = true) (hy : y.cls ≠ "java/lang/invoke/MethodHandle" ∧ y.cls ≠ "java/lang/invoke/VarHandle") (eT : T.heap = h) {rm : Room} {Qc : Option Value → Heap → List Loc → Prop} {argsL rest : List Value}
    (hM : MetFree l y (head1 [Jvm.Cond.code y bytes maxL ret] rm) (fun b U => b = argsL.toArray ∧ Z.Warmed39 U.vm ∧ U.heap = h) (fun _ _ _ _ _ => True) (fun _ U o U' => ∃ v L, o = .returned v ∧ Qc v U'.heap L ∧ FrameEnd U o U' L rm.cells rm.slots))
    {W : Nat} (hf : rm.frames + 1 ≤ R.frames) (hl : W + (maxL + 11) + rm.locals ≤ R.locals) {pc : Nat} {Ls : Array Slot} {st : List Value} (hsize : Ls.size = c.maxLocals) (hlen : ∀ sig, parseMethodDescriptor y.desc = some sig → argsL.length = sig.parameters.length) (hst : st = argsL.reverse ++ rest) (hW : (rest.map fun v => v.category).sum ≤ W) (hd : decode c.code pc = .ok (.invokestatic idx, 3)) (hc : cells + rm.cells ≤ R.cells) (hs : slots + rm.slots ≤ R.slots)
    (K : ∀ (T' : State) (v : Option Value) (L : List Loc), Stand p l e R s m args below meth c T' (locs ++ L) (cells + rm.cells) (slots + rm.slots) → Qc v T'.heap L → own_Run p e below s Q ck sk (T'.setTop (mkF m (pc + 3) Ls (v.toList ++ rest)))) :
    own_Run p e below s Q ck sk (T.setTop (mkF m pc Ls st)) := by
  obtain ⟨v, _, ⟨T', L', k', n'⟩, -, X', ⟨Lc, hQ, hl', hk', hn'⟩, st'⟩ := Jvm.LawKit.callS X hx (y := y) hown (mvT hZ w1) (mvT hZ w2) (mvT hZ wz) (mvT hZ w5) hy (backOf (W := W) hM hZ w5 wz hf hl) (g := mkF m pc Ls st) rfl hsize (argsL := argsL) (rest := rest) hlen hst (by show 2 * 0 + _ ≤ _; omega) hd (fun _ _ => ⟨rfl, eT, hc, hs⟩)
  dsimp only [Pt.U, Pt.locs, Pt.cells, Pt.slots] at X' hl' hk' hn' st' hQ
  subst hl' hk' hn'
  exact own_st st' (K T' v Lc X' hQ)
end OwnLayer
section OwnNums
open Jvm.FP Jvm.Free.Fl
theorem own_b53 (x : Int32) : B53 x.toInt64 := by
  have := x.le_toInt; have := x.toInt_lt
  unfold B53; rw [Int32.toInt_toInt64]; omega
theorem own_i64lt (x y : Int32) : x.toInt64 < y.toInt64 ↔ x < y := by
  rw [Int64.lt_iff_toInt_lt, Int32.lt_iff_toInt_lt, Int32.toInt_toInt64, Int32.toInt_toInt64]
theorem own_i64eq (x y : Int32) : x.toInt64 = y.toInt64 ↔ x = y := by
  rw [← Int64.toInt_inj, ← Int32.toInt_inj, Int32.toInt_toInt64, Int32.toInt_toInt64]
theorem own_dcmp_lt (x y : Int32) (o : CmpOp) : cmpValue (FP.dcmp (FP.i2d x) (FP.i2d y)) o < 0 ↔ x < y := by
  rw [i2d_w, i2d_w, dcmpV_w (own_b53 x) (own_b53 y), lw_lt, own_i64lt]
theorem own_dcmp_gt (x y : Int32) (o : CmpOp) : 0 < cmpValue (FP.dcmp (FP.i2d x) (FP.i2d y)) o ↔ y < x := by
  rw [i2d_w, i2d_w, dcmpV_w (own_b53 x) (own_b53 y), lw_gt, own_i64lt]
theorem own_dcmp_eq (x y : Int32) (o : CmpOp) : cmpValue (FP.dcmp (FP.i2d x) (FP.i2d y)) o = 0 ↔ x = y := by
  rw [i2d_w, i2d_w, dcmpV_w (own_b53 x) (own_b53 y), lw_eq, own_i64eq]
theorem own_sub_lt (x y : Int32) : lcmpW (x.toInt64 - y.toInt64) 0 < 0 ↔ x < y := by
  have h := sub64 (own_b53 x) (own_b53 y)
  rw [lw_lt, Int64.lt_iff_toInt_lt, Int32.lt_iff_toInt_lt, h, Int32.toInt_toInt64, Int32.toInt_toInt64]
  have : (0 : Int64).toInt = 0 := rfl
  omega
end OwnNums
section OwnWords
theorem own_eqint {args : Array Value} {first s : State} {o : Option Outcome} {idx : List Nat} {t : Term} {k : Int32} (h : (Jvm.Cond.eq t (.int k)).value args first o s idx = some true) : t.eval args first o idx s = some (.int k) := by
  simp only [Cond.value, Term.eval] at h
  cases ht : t.eval args first o idx s with
  | none => simp [ht] at h
  | some x => cases x <;> simp [ht] at h ⊢; exact h
end OwnWords
section OwnInts
theorem own_prod {a b : Int} {A B : Nat} (ha : a.natAbs ≤ A) (hb : b.natAbs ≤ B) : (a * b).natAbs ≤ A * B := by
  rw [Int.natAbs_mul]; exact Nat.mul_le_mul ha hb
theorem own_shr (x : Int32) : (x >>> ((11 : Int32) &&& 31)).toInt.natAbs ≤ 1048576 := by
  rw [c_ishr x 11 11 (by decide)]
  have := x.le_toInt; have := x.toInt_lt
  show (x.toInt / (2048 : Nat)).natAbs ≤ _
  omega
end OwnInts
section OwnFl
open Jvm.FP Jvm.Free.Fl
abbrev own_zv (a : UInt64) : Int := Core.zval Core.b64 (Core.val64 a)
abbrev own_zm (a : UInt64) : Nat := Core.zmag Core.b64 (Core.val64 a)
theorem own_one : (Core.one64 : Nat) = 2 ^ 1074 := rfl
theorem own_finnn {a : UInt64} (h : Core.DFin a) : NoNaN64 a := (fin64_core.mpr h).noNaN
theorem own_finne {a : UInt64} (h : Core.DFin a) : Core.val64 a ≠ .nan := h.ne_nan
theorem own_addle {a b V : UInt64} (ha : Core.DFin a) (hb : Core.DFin b) (hV : Core.val64 V ≠ .nan) (h : own_zv a + own_zv b ≤ own_zv V) : own_zv (FP.dadd a b) ≤ own_zv V := by
  show Core.zval Core.b64 (Core.val64 (Core.dadd a b)) ≤ _
  rw [Core.val64_dadd]
  exact Core.sum_le Core.good_b64 ha hb (Core.val64_fits a) (Core.val64_fits b) (Core.val64_fits V) hV h
theorem own_addge {a b V : UInt64} (ha : Core.DFin a) (hb : Core.DFin b) (hV : Core.val64 V ≠ .nan) (h : own_zv V ≤ own_zv a + own_zv b) : own_zv V ≤ own_zv (FP.dadd a b) := by
  show _ ≤ Core.zval Core.b64 (Core.val64 (Core.dadd a b))
  rw [Core.val64_dadd]
  exact Core.sum_ge Core.good_b64 ha hb (Core.val64_fits a) (Core.val64_fits b) (Core.val64_fits V) hV h
theorem own_negfin {b : UInt64} (hb : Core.DFin b) : ∃ s c q, Core.negate (Core.val64 b) = .fin s c q := by
  obtain ⟨s, c, q, h⟩ := hb
  exact ⟨!s, c, q, by rw [h]; rfl⟩
theorem own_suble {a b V : UInt64} (ha : Core.DFin a) (hb : Core.DFin b) (hV : Core.val64 V ≠ .nan) (h : own_zv a - own_zv b ≤ own_zv V) : own_zv (FP.dsub a b) ≤ own_zv V := by
  show Core.zval Core.b64 (Core.val64 (Core.dsub a b)) ≤ _
  rw [Core.val64_dsub]
  exact Core.sum_le Core.good_b64 ha (own_negfin hb) (Core.val64_fits a) (Core.negate_fits (Core.val64_fits b)) (Core.val64_fits V) hV (by rw [Core.zval_negate]; exact h)
theorem own_subge {a b V : UInt64} (ha : Core.DFin a) (hb : Core.DFin b) (hV : Core.val64 V ≠ .nan) (h : own_zv V ≤ own_zv a - own_zv b) : own_zv V ≤ own_zv (FP.dsub a b) := by
  show _ ≤ Core.zval Core.b64 (Core.val64 (Core.dsub a b))
  rw [Core.val64_dsub]
  exact Core.sum_ge Core.good_b64 ha (own_negfin hb) (Core.val64_fits a) (Core.negate_fits (Core.val64_fits b)) (Core.val64_fits V) hV (by rw [Core.zval_negate]; exact h)
theorem own_pow2q : (2 ^ (Core.b64.qmin - 2 * Core.b64.qmin).toNat : Nat) = Core.one64 := by
  rw [show Core.b64.qmin - 2 * Core.b64.qmin = -Core.b64.qmin by omega]; exact Core.pow_qmin64
theorem own_mulle {a b V : UInt64} (ha : Core.DFin a) (hb : Core.DFin b) (hV : Core.val64 V ≠ .nan) (h : own_zv a * own_zv b ≤ own_zv V * (Core.one64 : Int)) : own_zv (FP.dmul a b) ≤ own_zv V := by
  obtain ⟨s, c, q, ea⟩ := ha
  obtain ⟨t, d, r, eb⟩ := hb
  have fa := Core.val64_fits a
  have fb := Core.val64_fits b
  rw [ea] at fa; rw [eb] at fb
  obtain ⟨h1, h2, h3⟩ := Core.product_units fa fb
  show Core.zval Core.b64 (Core.val64 (Core.dmul a b)) ≤ _
  rw [Core.val64_dmul, ea, eb, h1]
  refine Core.zval_round_le Core.good_b64 (Core.val64_fits V) hV (e0 := 2 * Core.b64.qmin) (by decide) h2 ?_
  rw [h3, Core.signed_xor, own_pow2q]
  simp only [own_zv, ea, eb] at h
  exact h
theorem own_mulge {a b V : UInt64} (ha : Core.DFin a) (hb : Core.DFin b) (hV : Core.val64 V ≠ .nan) (h : own_zv V * (Core.one64 : Int) ≤ own_zv a * own_zv b) : own_zv V ≤ own_zv (FP.dmul a b) := by
  obtain ⟨s, c, q, ea⟩ := ha
  obtain ⟨t, d, r, eb⟩ := hb
  have fa := Core.val64_fits a
  have fb := Core.val64_fits b
  rw [ea] at fa; rw [eb] at fb
  obtain ⟨h1, h2, h3⟩ := Core.product_units fa fb
  show _ ≤ Core.zval Core.b64 (Core.val64 (Core.dmul a b))
  rw [Core.val64_dmul, ea, eb, h1]
  refine Core.zval_round_ge Core.good_b64 (Core.val64_fits V) hV (e0 := 2 * Core.b64.qmin) (by decide) h2 ?_
  rw [h3, Core.signed_xor, own_pow2q]
  simp only [own_zv, ea, eb] at h
  exact h
theorem own_divdat {a b : UInt64} (ha : Core.DFin a) (hb : Core.DFin b) (hz : own_zm b ≠ 0) : ∃ (s t : Bool) (c d : Nat) (q r : Int), Core.val64 a = .fin s c q ∧ Core.val64 b = .fin t d r ∧ 0 < d ∧ Core.b64.qmin ≤ q ∧ Core.b64.qmin ≤ r ∧ Core.val64 (FP.ddiv a b) = Core.roundRatio Core.b64 (s != t) c d (q - r) := by
  obtain ⟨s, c, q, ea⟩ := ha
  obtain ⟨t, d, r, eb⟩ := hb
  have fa := Core.val64_fits a
  have fb := Core.val64_fits b
  rw [ea] at fa; rw [eb] at fb
  have hd : d ≠ 0 := fun q => hz (by unfold own_zm; rw [eb, q]; show Core.inUnits 0 _ _ = 0; unfold Core.inUnits; exact Nat.zero_mul _)
  refine ⟨s, t, c, d, q, r, ea, eb, Nat.pos_of_ne_zero hd, fa.2.1, fb.2.1, ?_⟩
  show Core.val64 (Core.ddiv a b) = _
  rw [Core.val64_ddiv, ea, eb]
  show (if d = 0 then _ else _) = _
  rw [if_neg hd]
theorem own_divunits {c d : Nat} {q r : Int} (hq : Core.b64.qmin ≤ q) (hr : Core.b64.qmin ≤ r) : 2 * Core.b64.qmin - r ≤ Core.b64.qmin ∧ 2 * Core.b64.qmin - r ≤ q - r ∧ Core.inUnits c (q - r) (2 * Core.b64.qmin - r) = Core.inUnits c q Core.b64.qmin * Core.one64 ∧ ∀ m : Nat, m * 2 ^ (Core.b64.qmin - (2 * Core.b64.qmin - r)).toNat * d = m * Core.inUnits d r Core.b64.qmin := by
  have hqm : Core.b64.qmin = -1074 := Core.qmin_b64
  refine ⟨by omega, by omega, ?_, fun m => ?_⟩
  · unfold Core.inUnits
    rw [show (q - r - (2 * Core.b64.qmin - r)).toNat = (q - Core.b64.qmin).toNat + (-Core.b64.qmin).toNat by omega, Nat.pow_add, Core.pow_qmin64, Nat.mul_assoc]
  · unfold Core.inUnits
    rw [show (Core.b64.qmin - (2 * Core.b64.qmin - r)).toNat = (r - Core.b64.qmin).toNat by omega, Nat.mul_assoc, Nat.mul_comm d]
theorem own_divle {a b V : UInt64} (ha : Core.DFin a) (hb : Core.DFin b) (hz : own_zm b ≠ 0) (hV : Core.val64 V ≠ .nan) (h : own_zm a * Core.one64 ≤ own_zm V * own_zm b) : own_zm (FP.ddiv a b) ≤ own_zm V := by
  obtain ⟨s, t, c, d, q, r, ea, eb, hd, hq, hr, e⟩ := own_divdat ha hb hz
  obtain ⟨u1, u2, u3, u4⟩ := own_divunits (c := c) (d := d) hq hr
  unfold own_zm
  rw [e]
  refine Core.zmag_roundRatio_le Core.good_b64 hd (Core.val64_fits V) hV u1 u2 ?_
  rw [u3, u4]
  simp only [own_zm, ea, eb] at h
  exact h
theorem own_divge {a b V : UInt64} (ha : Core.DFin a) (hb : Core.DFin b) (hz : own_zm b ≠ 0) (h : own_zm V * own_zm b ≤ own_zm a * Core.one64) : own_zm V ≤ own_zm (FP.ddiv a b) := by
  obtain ⟨s, t, c, d, q, r, ea, eb, hd, hq, hr, e⟩ := own_divdat ha hb hz
  obtain ⟨u1, u2, u3, u4⟩ := own_divunits (c := c) (d := d) hq hr
  unfold own_zm
  rw [e]
  refine Core.zmag_roundRatio_ge Core.good_b64 hd (Core.val64_fits V) u1 u2 ?_
  rw [u3, u4]
  simp only [own_zm, ea, eb] at h
  exact h
theorem own_divsgn {a b : UInt64} (ha : Core.DFin a) (hb : Core.DFin b) (hz : own_zm b ≠ 0) : Core.sgn (Core.val64 (FP.ddiv a b)) = (Core.sgn (Core.val64 a) != Core.sgn (Core.val64 b)) ∧ Core.val64 (FP.ddiv a b) ≠ .nan := by
  obtain ⟨s, t, c, d, q, r, ea, eb, hd, hq, hr, e⟩ := own_divdat ha hb hz
  rw [e, ea, eb]
  exact ⟨Core.sgn_roundRatio _ _ _ _ _, Core.roundRatio_ne_nan _ _ _ _ _⟩
theorem own_fintop {a : UInt64} (hn : Core.val64 a ≠ .nan) (h : own_zm a < Core.b64.tails * 2 ^ (Core.b64.exps - 2)) : Core.DFin a := by
  cases e : Core.val64 a with
  | nan => exact absurd e hn
  | inf s => rw [own_zm, e] at h; exact absurd h (Nat.lt_irrefl _)
  | fin s c q => exact ⟨s, c, q, e⟩
theorem own_finle {a V : UInt64} (hn : Core.val64 a ≠ .nan) (hV : Core.DFin V) (h : own_zm a ≤ own_zm V) : Core.DFin a := own_fintop hn (Nat.lt_of_le_of_lt h hV.zval_lt)
theorem own_zmabs (a : UInt64) : (own_zv a).natAbs = own_zm a := Core.natAbs_signed _ _
theorem own_addne {a b : UInt64} (ha : Core.DFin a) (hb : Core.DFin b) : Core.val64 (FP.dadd a b) ≠ .nan := (Core.notNaN_iff _).mp (Core.dadd_out ha.notNaN hb)
theorem own_subne {a b : UInt64} (ha : Core.DFin a) (hb : Core.DFin b) : Core.val64 (FP.dsub a b) ≠ .nan := (Core.notNaN_iff _).mp (Core.dsub_out ha.notNaN hb)
theorem own_mulne {a b : UInt64} (ha : Core.DFin a) (hb : Core.DFin b) : Core.val64 (FP.dmul a b) ≠ .nan := (Core.notNaN_iff _).mp (Core.dmul_out ha hb)
theorem own_nnof {a : UInt64} (h : Core.val64 a ≠ .nan) : NoNaN64 a := val64_no.mpr h
/-- the double a is i times two to the power (j - 1074) -/
def own_Z (j : Nat) (i : Int) (a : UInt64) : Prop := Core.DFin a ∧ own_zv a = i * ((2 ^ j : Nat) : Int)
theorem own_rep (n : Int) (j : Nat) (hn : n.natAbs < 2 ^ 53) (hj : j ≤ 2045) : ∃ V, own_Z j n V := by
  have hqm : Core.b64.qmin = -1074 := Core.qmin_b64
  have hqx : Core.b64.qmax = 971 := by decide
  obtain ⟨c', q', h1, h2⟩ := Core.round_exact Core.good_b64 (decide (n < 0)) (c := n.natAbs) (q := Core.b64.qmin + j) hn (by omega) (by omega)
  have hv : Core.val64 (Core.of64 (Core.round Core.b64 (.fin (decide (n < 0)) n.natAbs (Core.b64.qmin + j)))) = .fin (decide (n < 0)) c' q' := by
    rw [Core.val64_of64 (Core.round_fits Core.good_b64 _), h1]
  refine ⟨_, ⟨_, _, _, hv⟩, ?_⟩
  unfold own_zv
  rw [hv]
  show Core.signed (decide (n < 0)) (Core.inUnits c' q' Core.b64.qmin) = _
  rw [h2]
  unfold Core.inUnits
  rw [show (Core.b64.qmin + (j : Int) - Core.b64.qmin).toNat = j by omega, Core.signed_mul]
  congr 1
  unfold Core.signed
  by_cases h : n < 0 <;> simp [h] <;> omega
theorem own_Z.nn {j : Nat} {i : Int} {a : UInt64} (h : own_Z j i a) : NoNaN64 a := own_finnn h.1
theorem own_Z.eqv {j : Nat} {i : Int} {a V : UInt64} (hV : own_Z j i V) (hn : Core.val64 a ≠ .nan) (h1 : own_zv a ≤ own_zv V) (h2 : own_zv V ≤ own_zv a) : own_Z j i a := by
  have e : own_zv a = own_zv V := Int.le_antisymm h1 h2
  refine ⟨own_finle hn hV.1 ?_, e.trans hV.2⟩
  rw [← own_zmabs, ← own_zmabs, e]; exact Nat.le_refl _
theorem own_Z.add {j : Nat} {i k : Int} {a b : UInt64} (ha : own_Z j i a) (hb : own_Z j k b) (hn : (i + k).natAbs < 2 ^ 53) (hj : j ≤ 2045 := by decide) : own_Z j (i + k) (FP.dadd a b) := by
  obtain ⟨V, hV⟩ := own_rep (i + k) j hn hj
  have e : own_zv a + own_zv b = own_zv V := by rw [ha.2, hb.2, hV.2, Int.add_mul]
  exact hV.eqv (own_addne ha.1 hb.1) (own_addle ha.1 hb.1 (own_finne hV.1) (Int.le_of_eq e)) (own_addge ha.1 hb.1 (own_finne hV.1) (Int.le_of_eq e.symm))
theorem own_Z.sub {j : Nat} {i k : Int} {a b : UInt64} (ha : own_Z j i a) (hb : own_Z j k b) (hn : (i - k).natAbs < 2 ^ 53) (hj : j ≤ 2045 := by decide) : own_Z j (i - k) (FP.dsub a b) := by
  obtain ⟨V, hV⟩ := own_rep (i - k) j hn hj
  have e : own_zv a - own_zv b = own_zv V := by rw [ha.2, hb.2, hV.2, Int.sub_mul]
  exact hV.eqv (own_subne ha.1 hb.1) (own_suble ha.1 hb.1 (own_finne hV.1) (Int.le_of_eq e)) (own_subge ha.1 hb.1 (own_finne hV.1) (Int.le_of_eq e.symm))
theorem own_Z.mul {j j' J : Nat} {i k : Int} {a b : UInt64} (ha : own_Z j i a) (hb : own_Z j' k b) (hn : (i * k).natAbs < 2 ^ 53) (hJ : J + 1074 = j + j' := by decide) (hj : J ≤ 2045 := by decide) : own_Z J (i * k) (FP.dmul a b) := by
  obtain ⟨V, hV⟩ := own_rep (i * k) J hn hj
  have e : own_zv a * own_zv b = own_zv V * (Core.one64 : Int) := by
    rw [ha.2, hb.2, hV.2, own_one, Int.mul_assoc (i * k), ← Int.natCast_mul, ← Nat.pow_add, hJ, Nat.pow_add, Int.natCast_mul]
    simp only [Int.mul_assoc, Int.mul_left_comm, Int.mul_comm]
  exact hV.eqv (own_mulne ha.1 hb.1) (own_mulle ha.1 hb.1 (own_finne hV.1) (Int.le_of_eq e)) (own_mulge ha.1 hb.1 (own_finne hV.1) (Int.le_of_eq e.symm))
theorem own_zmZ {j : Nat} {i : Int} {a : UInt64} (h : own_Z j i a) : own_zm a = i.natAbs * 2 ^ j := by
  rw [← own_zmabs, h.2, Int.natAbs_mul, Int.natAbs_natCast]
theorem own_Z.div {j j' J : Nat} {i m : Int} {a b : UInt64} (ha : own_Z j (i * m) a) (hb : own_Z j' m b) (hm : m ≠ 0) (hn : i.natAbs < 2 ^ 53) (hJ : J + j' = j + 1074 := by decide) (hj : J ≤ 2045 := by decide) : own_Z J i (FP.ddiv a b) := by
  obtain ⟨V, hV⟩ := own_rep i J hn hj
  have hb0 : own_zm b ≠ 0 := by
    rw [own_zmZ hb]
    exact Nat.mul_ne_zero (by omega) (Nat.ne_of_gt (Nat.two_pow_pos _))
  have e : own_zm a * Core.one64 = own_zm V * own_zm b := by
    rw [own_zmZ ha, own_zmZ hb, own_zmZ hV, own_one, Int.natAbs_mul, Nat.mul_assoc, ← Nat.pow_add, ← hJ, Nat.pow_add]
    simp only [Nat.mul_assoc, Nat.mul_left_comm, Nat.mul_comm]
  obtain ⟨hs, hne⟩ := own_divsgn ha.1 hb.1 hb0
  have em : own_zm (FP.ddiv a b) = own_zm V := Nat.le_antisymm (own_divle ha.1 hb.1 hb0 (own_finne hV.1) (Nat.le_of_eq e)) (own_divge ha.1 hb.1 hb0 (Nat.le_of_eq e.symm))
  refine ⟨own_finle hne hV.1 (Nat.le_of_eq em), ?_⟩
  have ev : own_zv (FP.ddiv a b) * own_zv b = own_zv a * (Core.one64 : Int) := by
    show Core.signed _ _ * Core.signed _ _ = Core.signed _ _ * _
    rw [← Core.signed_xor, hs, ← Core.signed_mul]
    have e2 : Core.zmag Core.b64 (Core.val64 (FP.ddiv a b)) * Core.zmag Core.b64 (Core.val64 b) = Core.zmag Core.b64 (Core.val64 a) * Core.one64 := by
      rw [show Core.zmag Core.b64 (Core.val64 (FP.ddiv a b)) = own_zm V from em]; exact e.symm
    rw [e2]
    cases Core.sgn (Core.val64 a) <;> cases Core.sgn (Core.val64 b) <;> rfl
  rw [ha.2, hb.2, own_one] at ev
  have hp : ((2 ^ j' : Nat) : Int) ≠ 0 := by have := Nat.two_pow_pos j'; omega
  refine Int.eq_of_mul_eq_mul_right (Int.mul_ne_zero hm hp) (ev.trans ?_)
  rw [Int.mul_assoc (i * m), ← Int.natCast_mul, ← Nat.pow_add, ← hJ, Nat.pow_add, Int.natCast_mul]
  simp only [Int.mul_assoc, Int.mul_left_comm, Int.mul_comm]
theorem own_Z.neg {j : Nat} {i : Int} {a : UInt64} (h : own_Z j i a) : own_Z j (-i) (FP.dneg a) := by
  refine ⟨?_, ?_⟩
  · obtain ⟨s, c, q, e⟩ := own_negfin h.1
    exact ⟨s, c, q, by rw [FP.val64_dneg]; exact e⟩
  · unfold own_zv
    rw [FP.val64_dneg, Core.zval_negate]
    have := h.2; unfold own_zv at this; rw [this, Int.neg_mul]
theorem own_Z.of_int {i : Int} {a : UInt64} (h : Core.DInt i a) : own_Z 1074 i a := by
  refine ⟨?_, Core.DInt_zval h⟩
  unfold Core.DInt at h
  cases e : Core.val64 a with
  | nan => rw [e] at h; exact h.elim
  | inf s => rw [e] at h; exact h.elim
  | fin s c q => exact ⟨s, c, q, e⟩
theorem own_Z.i2d (x : Int32) : own_Z 1074 x.toInt (FP.i2d x) := own_Z.of_int (Core.i2d_int x)
theorem own_Z.l2d {x : Int64} (h : x.toInt.natAbs ≤ 2 ^ 53) : own_Z 1074 x.toInt (FP.l2d x) := own_Z.of_int (Core.l2d_int h)
theorem own_Z.shift {j k : Nat} {i : Int} {a : UInt64} (h : own_Z (j + k) i a) : own_Z j (i * ((2 ^ k : Nat) : Int)) a := by
  refine ⟨h.1, h.2.trans ?_⟩
  rw [Nat.add_comm, Nat.pow_add, Int.natCast_mul, Int.mul_assoc]
theorem own_Z.cmp {j : Nat} {i k : Int} {a b : UInt64} (ha : own_Z j i a) (hb : own_Z j k b) : FP.dcmp a b = some (compare i k) := by
  have h := Core.dcmp_zval (own_finne ha.1) (own_finne hb.1)
  have h1 := ha.2; have h2 := hb.2
  unfold own_zv at h1 h2
  rw [h1, h2, Core.compare_mul_pos _ _ _ (by have := Nat.two_pow_pos j; omega)] at h
  exact h
theorem own_Z.cmpE {j : Nat} {i k : Int} {a b : UInt64} (ha : own_Z j i a) (hb : own_Z j k b) (h : i = k) (o : CmpOp) : cmpValue (FP.dcmp a b) o = 0 := by
  rw [ha.cmp hb, (Core.compare_eq_iff _ _).mpr h]; cases o <;> rfl
theorem own_Z.cmpL {j : Nat} {i k : Int} {a b : UInt64} (ha : own_Z j i a) (hb : own_Z j k b) (h : i < k) (o : CmpOp) : cmpValue (FP.dcmp a b) o = -1 := by
  rw [ha.cmp hb, (Core.compare_lt_iff _ _).mpr h]; cases o <;> rfl
theorem own_Z.cmpG {j : Nat} {i k : Int} {a b : UInt64} (ha : own_Z j i a) (hb : own_Z j k b) (h : k < i) (o : CmpOp) : cmpValue (FP.dcmp a b) o = 1 := by
  rw [ha.cmp hb, (Core.compare_gt_iff _ _).mpr h]; cases o <;> rfl
theorem own_Z.eq {j : Nat} {i k : Int} {a : UInt64} (ha : own_Z j i a) (h : i = k) : own_Z j k a := h ▸ ha
theorem own_mulb {a b : Int} {A B : Nat} (ha : a.natAbs ≤ A) (hb : b.natAbs ≤ B) : (a * b).natAbs ≤ A * B := by
  rw [Int.natAbs_mul]; exact Nat.mul_le_mul ha hb
theorem own_Z0 : own_Z 1074 0 0 := by
  refine ⟨⟨false, 0, Core.b64.qmin, by decide +kernel⟩, by decide +kernel⟩
theorem own_Z1 : own_Z 1074 1 4607182418800017408 := own_Z.of_int Core.dint_one
end OwnFl
section OwnSum
open Jvm.FP Jvm.Free.Fl
theorem own_m31 (x : Int32) : 0 ≤ (x &&& (2147483647 : Int32)).toInt := (c_and x 2147483647 (by decide)).1
theorem own_five (x : Int32) {n : Int32} (h : (x &&& (2147483647 : Int32)) % (5 : Int32) = n) : n = (0 : Int32) ∨ n = (1 : Int32) ∨ n = (2 : Int32) ∨ n = (3 : Int32) ∨ n = (4 : Int32) := by
  have q := (c_irem (x &&& (2147483647 : Int32)) 5 5 rfl).1 (own_m31 x)
  rw [h] at q
  have : n.toInt = 0 ∨ n.toInt = 1 ∨ n.toInt = 2 ∨ n.toInt = 3 ∨ n.toInt = 4 := by omega
  rcases this with r | r | r | r | r
  · exact Or.inl (Int32.toInt_inj.mp r)
  · exact Or.inr (Or.inl (Int32.toInt_inj.mp r))
  · exact Or.inr (Or.inr (Or.inl (Int32.toInt_inj.mp r)))
  · exact Or.inr (Or.inr (Or.inr (Or.inl (Int32.toInt_inj.mp r))))
  · exact Or.inr (Or.inr (Or.inr (Or.inr (Int32.toInt_inj.mp r))))
theorem own_zz {x : UInt64} {i : Int} {y : Int32} (h : own_Z 1074 i x) (hi : i.natAbs ≤ 17179869184) : own_Z 1074 (i + y.toInt) (FP.dadd x (FP.i2d y)) := h.add (own_Z.i2d y) (by have := y.le_toInt; have := y.toInt_lt; omega)
theorem own_ls {x : Int64} {i : Int} {y : Int32} (h : x.toInt = i) (hi : i.natAbs ≤ 17179869184) : (x + y.toInt64).toInt = i + y.toInt := by
  have := y.le_toInt; have := y.toInt_lt
  have w := Int32.toInt_toInt64 y
  rw [Core.int64_add (by rw [w]; omega) (by rw [w]; omega), w, h]
end OwnSum
theorem own_d2_0 : decode jdk_30_method_1_code 0 = .ok (.aload_n 0, 1) := by decide +kernel
theorem own_d2_1 : decode jdk_30_method_1_code 1 = .ok (.invokespecial 1, 3) := by decide +kernel
theorem own_d2_4 : decode jdk_30_method_1_code 4 = .ok (.return_, 1) := by decide +kernel
set_option maxHeartbeats 4000000 in
theorem own_ef2 (m : MethodId) (x0 : Addr) : entryFrame m #[(.ref x0)] 1 = mkF m 0 #[.val (.ref x0)] [] := by first | (simp [entryFrame, mkF, argsToLocals, Value.category]; done) | rfl
theorem own_pn0 : plainName "java/lang/Record" = true := by first | (simp [plainName, overriddenIn]; done) | decide +kernel
def own_Q2 (Z : State) (a0 : Array Value) (o0 : Addr) (h0 : Heap) (n0 : Nat) (v : Option Value) (h : Heap) (L : List Loc) : Prop := v = none ∧ Fr n0 L ∧ h = h0
set_option maxRecDepth 65536 in
set_option maxHeartbeats 40000000 in
theorem own_rm2 (l : Launch) (Z : State) (a0 : Array Value) (hw : ∀ d ∈ tables_1, d.before a0 Z = true) (ws : List Jvm.Cond) (o0 : Addr) (h0 : Heap) (n0 : Nat) (Z0 : n0 ≤ h0.size) :
    MetFree l (⟨"java/lang/Record", "<init>", "()V"⟩ : MethodName) (head1 (Jvm.Cond.code (⟨"java/lang/Record", "<init>", "()V"⟩ : MethodName) jdk_30_method_1_code 1 none :: ws) ({ frames := 1, cells := 0, slots := 0, locals := 12 } : Room)) (fun a U => a = #[(.ref o0)] ∧ Z.Warmed39 U.vm ∧ U.heap = h0) (fun _ _ _ _ _ => True) (fun _ U o U' => ∃ v L, o = .returned v ∧ own_Q2 Z a0 o0 h0 n0 v U'.heap L ∧ FrameEnd U o U' L ({ frames := 1, cells := 0, slots := 0, locals := 12 } : Room).cells ({ frames := 1, cells := 0, slots := 0, locals := 12 } : Room).slots) := by
  refine own_body (Q := fun v h L => own_Q2 Z a0 o0 h0 n0 v h L) (plainFor_of_name own_pn0) ?_
  intro p e s m below meth c s₁ hx hby hml hZ hown hnm hret hlk X0 e0
  replace hml : c.maxLocals = 1 := hml
  have N0 := Fr.nil n0
  have K0 : Keep h0 h0 [] := Keep.refl _ _
  refine own_st (fun t k => castTop (own_ef2 m o0) k) ?_
  show own_Run p e below s _ _ _ (s₁.setTop (mkF m 0 #[.val (.ref o0)] []))
  refine own_st (fun t k => XS.aloadN X0.here hx rfl (hb hby own_d2_0) rfl rfl k) ?_
  show own_Run p e below s _ _ _ (s₁.setTop (mkF m 1 #[.val (.ref o0)] [(.ref o0)]))
  obtain ⟨T1, X1, e1, st1⟩ := initO X0 hx hZ hown (hw _ (List.mem_of_getElem? (i := 14) rfl)) (hw _ (List.mem_of_getElem? (i := 15) rfl)) (hw _ (List.mem_of_getElem? (i := 16) rfl)) e0 (g := (mkF m 1 #[.val (.ref o0)] [(.ref o0)])) rfl (by rw [hml]; rfl) rfl (hb hby own_d2_1) (by decide) (W := 0) (by show 2 * 0 + _ ≤ _; exact Nat.le_of_eq rfl) (by decide)
  refine own_st st1 ?_
  show own_Run p e below s _ _ _ (T1.setTop (mkF m 4 #[.val (.ref o0)] []))
  exact own_retV X1 hx hlk hret (hb hby own_d2_4) (by decide) (by decide) ⟨rfl, N0, e1⟩
theorem own_d1_0 : decode prog_39_method_1_code 0 = .ok (.aload_n 0, 1) := by decide +kernel
theorem own_d1_1 : decode prog_39_method_1_code 1 = .ok (.invokespecial 1, 3) := by decide +kernel
theorem own_pd1 : parseMethodDescriptor "()V" = some ⟨[], none⟩ := by decide +kernel
theorem own_d1_4 : decode prog_39_method_1_code 4 = .ok (.aload_n 0, 1) := by decide +kernel
theorem own_d1_5 : decode prog_39_method_1_code 5 = .ok (.aload_n 1, 1) := by decide +kernel
theorem own_d1_6 : decode prog_39_method_1_code 6 = .ok (.putfield 7, 3) := by decide +kernel
theorem own_d1_9 : decode prog_39_method_1_code 9 = .ok (.aload_n 0, 1) := by decide +kernel
theorem own_d1_10 : decode prog_39_method_1_code 10 = .ok (.aload_n 2, 1) := by decide +kernel
theorem own_d1_11 : decode prog_39_method_1_code 11 = .ok (.putfield 13, 3) := by decide +kernel
theorem own_d1_14 : decode prog_39_method_1_code 14 = .ok (.return_, 1) := by decide +kernel
set_option maxHeartbeats 4000000 in
theorem own_ef1 (m : MethodId) (x0 : Addr) (x1 : Addr) (x2 : Addr) : entryFrame m #[(.ref x0), (.ref x1), (.ref x2)] 3 = mkF m 0 #[.val (.ref x0), .val (.ref x1), .val (.ref x2)] [] := by first | (simp [entryFrame, mkF, argsToLocals, Value.category]; done) | rfl
theorem own_pn2 : plainName "com/example/usurf/usurf/WalkWeights$Weights" = true := by first | (simp [plainName, overriddenIn]; done) | decide +kernel
def own_Q1 (Z : State) (a0 : Array Value) (a0_ : Addr) (o1 : Addr) (o2 : Addr) (h0 : Heap) (n0 : Nat) (v : Option Value) (h : Heap) (L : List Loc) : Prop := v = none ∧ Fr n0 L ∧ Keep h0 h [a0_] ∧ Exa Z h a0_ "com/example/usurf/usurf/WalkWeights$Weights" ∧ Fld Z h a0_ "com/example/usurf/usurf/WalkWeights$Weights" "values" "[D" (.ref o2)
set_option maxRecDepth 65536 in
set_option maxHeartbeats 40000000 in
theorem own_rm1 (l : Launch) (Z : State) (a0 : Array Value) (hw : ∀ d ∈ tables_1, d.before a0 Z = true) (ws : List Jvm.Cond) (a0_ : Addr) (o1 : Addr) (o2 : Addr) (h0 : Heap) (n0 : Nat) (Z0 : n0 ≤ h0.size) (E0 : Exa Z h0 a0_ "com/example/usurf/usurf/WalkWeights$Weights") (D0 : ∀ {O nm d : String} {ty : FieldType}, Laid Z a0 "com/example/usurf/usurf/WalkWeights$Weights" O nm d → parseFieldDescriptor d = some ty → Fld Z h0 a0_ O nm d (defaultValue ty)) (G0 : n0 ≤ a0_) :
    MetFree l (⟨"com/example/usurf/usurf/WalkWeights$Weights", "<init>", "([I[D)V"⟩ : MethodName) (head1 (Jvm.Cond.code (⟨"com/example/usurf/usurf/WalkWeights$Weights", "<init>", "([I[D)V"⟩ : MethodName) prog_39_method_1_code 3 none :: ws) ({ frames := 2, cells := 0, slots := 0, locals := 24 } : Room)) (fun a U => a = #[(.ref a0_), (.ref o1), (.ref o2)] ∧ Z.Warmed39 U.vm ∧ U.heap = h0) (fun _ _ _ _ _ => True) (fun _ U o U' => ∃ v L, o = .returned v ∧ own_Q1 Z a0 a0_ o1 o2 h0 n0 v U'.heap L ∧ FrameEnd U o U' L ({ frames := 2, cells := 0, slots := 0, locals := 24 } : Room).cells ({ frames := 2, cells := 0, slots := 0, locals := 24 } : Room).slots) := by
  refine own_body (Q := fun v h L => own_Q1 Z a0 a0_ o1 o2 h0 n0 v h L) (plainFor_of_name own_pn2) ?_
  intro p e s m below meth c s₁ hx hby hml hZ hown hnm hret hlk X0 e0
  replace hml : c.maxLocals = 3 := hml
  have N0 := Fr.nil n0
  have K0 : Keep h0 h0 [a0_] := Keep.refl _ _
  refine own_st (fun t k => castTop (own_ef1 m a0_ o1 o2) k) ?_
  show own_Run p e below s _ _ _ (s₁.setTop (mkF m 0 #[.val (.ref a0_), .val (.ref o1), .val (.ref o2)] []))
  refine own_st (fun t k => XS.aloadN X0.here hx rfl (hb hby own_d1_0) rfl rfl k) ?_
  show own_Run p e below s _ _ _ (s₁.setTop (mkF m 1 #[.val (.ref a0_), .val (.ref o1), .val (.ref o2)] [(.ref a0_)]))
  refine own_callI X0 hx hZ (y := (⟨"java/lang/Record", "<init>", "()V"⟩ : MethodName)) rfl hown (hw _ (List.mem_of_getElem? (i := 9) rfl)) (hw _ (List.mem_of_getElem? (i := 10) rfl)) (hw _ (List.mem_of_getElem? (i := 13) rfl)) (hw _ (List.mem_of_getElem? (i := 12) rfl)) (by decide) e0 (a := a0_) (argsL := []) (rest := []) (W := 0) (own_rm2 l Z a0 hw [] a0_ h0 n0 (Nat.le_trans Z0 K0.1) ) (by decide) (by decide) (by rw [hml]; rfl) (lenOf own_pd1 rfl) rfl (by exact Nat.le_of_eq rfl) (hb hby own_d1_1) (by decide) (by decide) ?_
  intro T2 v2 L2 X2 hq2
  obtain ⟨rfl, N2q, hh2⟩ := hq2
  have N2 := Fr.app N0 N2q
  show own_Run p e below s _ _ _ (T2.setTop (mkF m 4 #[.val (.ref a0_), .val (.ref o1), .val (.ref o2)] []))
  refine own_st (fun t k => XS.aloadN X2.here hx rfl (hb hby own_d1_4) rfl rfl k) ?_
  show own_Run p e below s _ _ _ (T2.setTop (mkF m 5 #[.val (.ref a0_), .val (.ref o1), .val (.ref o2)] [(.ref a0_)]))
  refine own_st (fun t k => XS.aloadN X2.here hx rfl (hb hby own_d1_5) rfl rfl k) ?_
  show own_Run p e below s _ _ _ (T2.setTop (mkF m 6 #[.val (.ref a0_), .val (.ref o1), .val (.ref o2)] [(.ref o1), (.ref a0_)]))
  have F3 : Fld Z _ a0_ "com/example/usurf/usurf/WalkWeights$Weights" "nodes" "[I" .null := D0 (Or.inr (hw _ (List.mem_of_getElem? (i := 18) rfl))) (ty := (.array .int)) (by decide)
  obtain ⟨T4, h4, X4, e4, W4, st4⟩ := putF X2 hx hZ hown (host := "") (Or.inl (hw _ (List.mem_of_getElem? (i := 17) rfl))) Via.refl hh2 F3 E0 (Or.inr ⟨(hw _ (List.mem_of_getElem? (i := 18) rfl)), rfl, hnm⟩) (hw _ (List.mem_of_getElem? (i := 4) rfl)) (ty := (.array .int)) (by decide) rfl rfl (g := (mkF m 6 #[.val (.ref a0_), .val (.ref o1), .val (.ref o2)] [(.ref o1), (.ref a0_)])) rfl rfl (hb hby own_d1_6)
  refine own_st st4 ?_
  have Fw4 := F3.same W4
  have N4 := Fr.snoc X4 N2 G0
  have K5 : Keep h0 h4 [a0_] := K0.wr W4 (Or.inl (List.mem_of_getElem? (i := 0) rfl))
  show own_Run p e below s _ _ _ (T4.setTop (mkF m 9 #[.val (.ref a0_), .val (.ref o1), .val (.ref o2)] []))
  refine own_st (fun t k => XS.aloadN X4.here hx rfl (hb hby own_d1_9) rfl rfl k) ?_
  show own_Run p e below s _ _ _ (T4.setTop (mkF m 10 #[.val (.ref a0_), .val (.ref o1), .val (.ref o2)] [(.ref a0_)]))
  refine own_st (fun t k => XS.aloadN X4.here hx rfl (hb hby own_d1_10) rfl rfl k) ?_
  show own_Run p e below s _ _ _ (T4.setTop (mkF m 11 #[.val (.ref a0_), .val (.ref o1), .val (.ref o2)] [(.ref o2), (.ref a0_)]))
  have E7 := (E0.wr W4)
  have F8 : Fld Z _ a0_ "com/example/usurf/usurf/WalkWeights$Weights" "values" "[D" .null := D0 (Or.inr (hw _ (List.mem_of_getElem? (i := 20) rfl))) (ty := (.array .double)) (by decide)
  have F9 := (F8.other W4 (Or.inr (slot_ne (Or.inr (hw _ (List.mem_of_getElem? (i := 20) rfl))) (Or.inr (hw _ (List.mem_of_getElem? (i := 18) rfl))) (by decide) (t := (.array .double)) (t' := (.array .int)) (by decide) (by decide))))
  obtain ⟨T10, h10, X10, e10, W10, st10⟩ := putF X4 hx hZ hown (host := "") (Or.inl (hw _ (List.mem_of_getElem? (i := 19) rfl))) Via.refl e4 F9 E7 (Or.inr ⟨(hw _ (List.mem_of_getElem? (i := 20) rfl)), rfl, hnm⟩) (hw _ (List.mem_of_getElem? (i := 4) rfl)) (ty := (.array .double)) (by decide) rfl rfl (g := (mkF m 11 #[.val (.ref a0_), .val (.ref o1), .val (.ref o2)] [(.ref o2), (.ref a0_)])) rfl rfl (hb hby own_d1_11)
  refine own_st st10 ?_
  have Fw10 := F9.same W10
  have N10 := Fr.snoc X10 N4 G0
  have K11 : Keep h0 h10 [a0_] := K5.wr W10 (Or.inl (List.mem_of_getElem? (i := 0) rfl))
  show own_Run p e below s _ _ _ (T10.setTop (mkF m 14 #[.val (.ref a0_), .val (.ref o1), .val (.ref o2)] []))
  have hQe := e10
  subst hQe
  have E13 := (E7.wr W10)
  exact own_retV X10 hx hlk hret (hb hby own_d1_14) (by decide) (by decide) ⟨rfl, N10, K11, E13, Fw10⟩
theorem own_d4_0 : decode prog_39_method_4_code 0 = .ok (.dconst 0, 1) := by decide +kernel
theorem own_d4_1 : decode prog_39_method_4_code 1 = .ok (.dstore_n 1, 1) := by decide +kernel
theorem own_d4_2 : decode prog_39_method_4_code 2 = .ok (.aload_n 0, 1) := by decide +kernel
theorem own_d4_3 : decode prog_39_method_4_code 3 = .ok (.getfield 13, 3) := by decide +kernel
theorem own_d4_6 : decode prog_39_method_4_code 6 = .ok (.astore_n 3, 1) := by decide +kernel
theorem own_d4_7 : decode prog_39_method_4_code 7 = .ok (.aload_n 3, 1) := by decide +kernel
theorem own_d4_8 : decode prog_39_method_4_code 8 = .ok (.arraylength, 1) := by decide +kernel
theorem own_d4_9 : decode prog_39_method_4_code 9 = .ok (.istore 4, 2) := by decide +kernel
theorem own_d4_11 : decode prog_39_method_4_code 11 = .ok (.iconst 0, 1) := by decide +kernel
theorem own_d4_12 : decode prog_39_method_4_code 12 = .ok (.istore 5, 2) := by decide +kernel
theorem own_d4_14 : decode prog_39_method_4_code 14 = .ok (.iload 5, 2) := by decide +kernel
theorem own_d4_16 : decode prog_39_method_4_code 16 = .ok (.iload 4, 2) := by decide +kernel
theorem own_d4_18 : decode prog_39_method_4_code 18 = .ok (.if_icmp .ge 20, 3) := by decide +kernel
theorem own_d4_38 : decode prog_39_method_4_code 38 = .ok (.dload_n 1, 1) := by decide +kernel
theorem own_d4_39 : decode prog_39_method_4_code 39 = .ok (.dreturn, 1) := by decide +kernel
set_option maxHeartbeats 4000000 in
theorem own_ef4pn0 (m : MethodId) (x0 : Addr) : entryFrame m #[(.ref x0)] 8 = mkF m 0 #[.val (.ref x0), .unset, .unset, .unset, .unset, .unset, .unset, .unset] [] := by first | (simp [entryFrame, mkF, argsToLocals, Value.category]; done) | rfl
def own_Q4pn0 (Z : State) (a0 : Array Value) (o0 : Addr) (ar : Addr) (kc : ClassId) (h0 : Heap) (n0 : Nat) (v : Option Value) (h : Heap) (L : List Loc) : Prop := v = some (.double (0 : UInt64)) ∧ Fr n0 L ∧ h = h0
set_option maxRecDepth 65536 in
set_option maxHeartbeats 40000000 in
theorem own_rm4pn0 (l : Launch) (Z : State) (a0 : Array Value) (hw : ∀ d ∈ tables_1, d.before a0 Z = true) (ws : List Jvm.Cond) (o0 : Addr) (ar : Addr) (kc : ClassId) (h0 : Heap) (n0 : Nat) (Z0 : n0 ≤ h0.size) (F_v : Fld Z h0 o0 "com/example/usurf/usurf/WalkWeights$Weights" "values" "[D" (.ref ar)) (A_v : Arv Z h0 ar kc .double (0 : Int32) [] (.double (0 : UInt64))) :
    MetFree l (⟨"com/example/usurf/usurf/WalkWeights$Weights", "sum", "()D"⟩ : MethodName) (head1 (Jvm.Cond.code (⟨"com/example/usurf/usurf/WalkWeights$Weights", "sum", "()D"⟩ : MethodName) prog_39_method_4_code 8 (some .double) :: ws) ({ frames := 0, cells := 0, slots := 0, locals := 0 } : Room)) (fun a U => a = #[(.ref o0)] ∧ Z.Warmed39 U.vm ∧ U.heap = h0) (fun _ _ _ _ _ => True) (fun _ U o U' => ∃ v L, o = .returned v ∧ own_Q4pn0 Z a0 o0 ar kc h0 n0 v U'.heap L ∧ FrameEnd U o U' L ({ frames := 0, cells := 0, slots := 0, locals := 0 } : Room).cells ({ frames := 0, cells := 0, slots := 0, locals := 0 } : Room).slots) := by
  refine own_body (Q := fun v h L => own_Q4pn0 Z a0 o0 ar kc h0 n0 v h L) (plainFor_of_name own_pn2) ?_
  intro p e s m below meth c s₁ hx hby hml hZ hown hnm hret hlk X0 e0
  replace hml : c.maxLocals = 8 := hml
  have N0 := Fr.nil n0
  have K0 : Keep h0 h0 [] := Keep.refl _ _
  refine own_st (fun t k => castTop (own_ef4pn0 m o0) k) ?_
  show own_Run p e below s _ _ _ (s₁.setTop (mkF m 0 #[.val (.ref o0), .unset, .unset, .unset, .unset, .unset, .unset, .unset] []))
  refine own_st (fun t k => XS.dconst0 X0.here hx rfl (hb hby own_d4_0) (v := 0) rfl k) ?_
  show own_Run p e below s _ _ _ (s₁.setTop (mkF m 1 #[.val (.ref o0), .unset, .unset, .unset, .unset, .unset, .unset, .unset] [(.double (0 : UInt64))]))
  refine own_st (fun t k => XS.dstoreN X0.here hx rfl (hb hby own_d4_1) rfl (l' := #[.val (.ref o0), .val (.double (0 : UInt64)), .second, .unset, .unset, .unset, .unset, .unset]) rfl k) ?_
  show own_Run p e below s _ _ _ (s₁.setTop (mkF m 2 #[.val (.ref o0), .val (.double (0 : UInt64)), .second, .unset, .unset, .unset, .unset, .unset] []))
  refine own_st (fun t k => XS.aloadN X0.here hx rfl (hb hby own_d4_2) rfl rfl k) ?_
  show own_Run p e below s _ _ _ (s₁.setTop (mkF m 3 #[.val (.ref o0), .val (.double (0 : UInt64)), .second, .unset, .unset, .unset, .unset, .unset] [(.ref o0)]))
  obtain ⟨T14, X14, e14, st14⟩ := getF X0 hx hZ hown (host := "") (Or.inl (hw _ (List.mem_of_getElem? (i := 19) rfl))) Via.refl e0 F_v (g := (mkF m 3 #[.val (.ref o0), .val (.double (0 : UInt64)), .second, .unset, .unset, .unset, .unset, .unset] [(.ref o0)])) rfl rfl (hb hby own_d4_3)
  refine own_st st14 ?_
  show own_Run p e below s _ _ _ (T14.setTop (mkF m 6 #[.val (.ref o0), .val (.double (0 : UInt64)), .second, .unset, .unset, .unset, .unset, .unset] [(.ref ar)]))
  refine own_st (fun t k => XS.astoreN X14.here hx rfl (hb hby own_d4_6) rfl rfl (l' := #[.val (.ref o0), .val (.double (0 : UInt64)), .second, .val (.ref ar), .unset, .unset, .unset, .unset]) rfl k) ?_
  show own_Run p e below s _ _ _ (T14.setTop (mkF m 7 #[.val (.ref o0), .val (.double (0 : UInt64)), .second, .val (.ref ar), .unset, .unset, .unset, .unset] []))
  refine own_st (fun t k => XS.aloadN X14.here hx rfl (hb hby own_d4_7) rfl rfl k) ?_
  show own_Run p e below s _ _ _ (T14.setTop (mkF m 8 #[.val (.ref o0), .val (.double (0 : UInt64)), .second, .val (.ref ar), .unset, .unset, .unset, .unset] [(.ref ar)]))
  obtain ⟨cl15, Ar15, -, S15, N15, -, -⟩ := id A_v
  refine own_st (X14.arraylength hx (by rw [e14]; exact Ar15.1) (State.isArrayOf_alike hZ.alike Ar15.2.1) (g := (mkF m 8 #[.val (.ref o0), .val (.double (0 : UInt64)), .second, .val (.ref ar), .unset, .unset, .unset, .unset] [(.ref ar)])) rfl rfl (hb hby own_d4_8)) ?_
  rw [len_of S15 N15]
  show own_Run p e below s _ _ _ (T14.setTop (mkF m 9 #[.val (.ref o0), .val (.double (0 : UInt64)), .second, .val (.ref ar), .unset, .unset, .unset, .unset] [(.int (0 : Int32))]))
  refine own_st (fun t k => XS.istore X14.here hx rfl (hb hby own_d4_9) rfl (l' := #[.val (.ref o0), .val (.double (0 : UInt64)), .second, .val (.ref ar), .val (.int (0 : Int32)), .unset, .unset, .unset]) rfl k) ?_
  show own_Run p e below s _ _ _ (T14.setTop (mkF m 11 #[.val (.ref o0), .val (.double (0 : UInt64)), .second, .val (.ref ar), .val (.int (0 : Int32)), .unset, .unset, .unset] []))
  refine own_st (fun t k => XS.iconst X14.here hx rfl (hb hby own_d4_11) k) ?_
  show own_Run p e below s _ _ _ (T14.setTop (mkF m 12 #[.val (.ref o0), .val (.double (0 : UInt64)), .second, .val (.ref ar), .val (.int (0 : Int32)), .unset, .unset, .unset] [(.int (0 : Int32))]))
  refine own_st (fun t k => XS.istore X14.here hx rfl (hb hby own_d4_12) rfl (l' := #[.val (.ref o0), .val (.double (0 : UInt64)), .second, .val (.ref ar), .val (.int (0 : Int32)), .val (.int (0 : Int32)), .unset, .unset]) rfl k) ?_
  show own_Run p e below s _ _ _ (T14.setTop (mkF m 14 #[.val (.ref o0), .val (.double (0 : UInt64)), .second, .val (.ref ar), .val (.int (0 : Int32)), .val (.int (0 : Int32)), .unset, .unset] []))
  refine own_st (fun t k => XS.iload X14.here hx rfl (hb hby own_d4_14) rfl k) ?_
  show own_Run p e below s _ _ _ (T14.setTop (mkF m 16 #[.val (.ref o0), .val (.double (0 : UInt64)), .second, .val (.ref ar), .val (.int (0 : Int32)), .val (.int (0 : Int32)), .unset, .unset] [(.int (0 : Int32))]))
  refine own_st (fun t k => XS.iload X14.here hx rfl (hb hby own_d4_16) rfl k) ?_
  show own_Run p e below s _ _ _ (T14.setTop (mkF m 18 #[.val (.ref o0), .val (.double (0 : UInt64)), .second, .val (.ref ar), .val (.int (0 : Int32)), .val (.int (0 : Int32)), .unset, .unset] [(.int (0 : Int32)), (.int (0 : Int32))]))
  refine own_st (fun t k => XS.icmpYes X14.here hx rfl (pc0 := 18) (pc' := 38) rfl (hb hby own_d4_18) rfl (flt (by decide : ¬ ((0 : Int32) < (0 : Int32)))).2.1 (by decide) (by decide) k) ?_
  show own_Run p e below s _ _ _ (T14.setTop (mkF m 38 #[.val (.ref o0), .val (.double (0 : UInt64)), .second, .val (.ref ar), .val (.int (0 : Int32)), .val (.int (0 : Int32)), .unset, .unset] []))
  refine own_st (fun t k => XS.dloadN X14.here hx rfl (hb hby own_d4_38) rfl k) ?_
  show own_Run p e below s _ _ _ (T14.setTop (mkF m 39 #[.val (.ref o0), .val (.double (0 : UInt64)), .second, .val (.ref ar), .val (.int (0 : Int32)), .val (.int (0 : Int32)), .unset, .unset] [(.double (0 : UInt64))]))
  exact own_ret X14 hx hlk (t := .double) hret rfl (Or.inr (Or.inr (Or.inl ⟨rfl, rfl, _, rfl⟩))) (hb hby own_d4_39) (by decide) (by decide) ⟨rfl, N0, e14⟩
theorem own_d4_21 : decode prog_39_method_4_code 21 = .ok (.aload_n 3, 1) := by decide +kernel
theorem own_d4_22 : decode prog_39_method_4_code 22 = .ok (.iload 5, 2) := by decide +kernel
theorem own_d4_24 : decode prog_39_method_4_code 24 = .ok (.daload, 1) := by decide +kernel
theorem own_d4_25 : decode prog_39_method_4_code 25 = .ok (.dstore 6, 2) := by decide +kernel
theorem own_d4_27 : decode prog_39_method_4_code 27 = .ok (.dload_n 1, 1) := by decide +kernel
theorem own_d4_28 : decode prog_39_method_4_code 28 = .ok (.dload 6, 2) := by decide +kernel
theorem own_d4_30 : decode prog_39_method_4_code 30 = .ok (.dadd, 1) := by decide +kernel
theorem own_d4_31 : decode prog_39_method_4_code 31 = .ok (.dstore_n 1, 1) := by decide +kernel
theorem own_d4_32 : decode prog_39_method_4_code 32 = .ok (.iinc 5 1, 3) := by decide +kernel
theorem own_d4_35 : decode prog_39_method_4_code 35 = .ok (.goto (-21), 3) := by decide +kernel
set_option maxHeartbeats 4000000 in
theorem own_ef4pn1 (m : MethodId) (x0 : Addr) : entryFrame m #[(.ref x0)] 8 = mkF m 0 #[.val (.ref x0), .unset, .unset, .unset, .unset, .unset, .unset, .unset] [] := by first | (simp [entryFrame, mkF, argsToLocals, Value.category]; done) | rfl
def own_Q4pn1 (Z : State) (a0 : Array Value) (o0 : Addr) (ar : Addr) (kc : ClassId) (v0 : UInt64) (h0 : Heap) (n0 : Nat) (v : Option Value) (h : Heap) (L : List Loc) : Prop := v = some (.double (FP.dadd (0 : UInt64) v0)) ∧ Fr n0 L ∧ h = h0
set_option maxRecDepth 65536 in
set_option maxHeartbeats 40000000 in
theorem own_rm4pn1 (l : Launch) (Z : State) (a0 : Array Value) (hw : ∀ d ∈ tables_1, d.before a0 Z = true) (ws : List Jvm.Cond) (o0 : Addr) (ar : Addr) (kc : ClassId) (v0 : UInt64) (h0 : Heap) (n0 : Nat) (Z0 : n0 ≤ h0.size) (F_v : Fld Z h0 o0 "com/example/usurf/usurf/WalkWeights$Weights" "values" "[D" (.ref ar)) (A_v : Arv Z h0 ar kc .double (1 : Int32) [(.double v0)] (.double (0 : UInt64))) (pn0 : Jvm.Free.Fl.NoNaN64 (FP.dadd (0 : UInt64) v0)) :
    MetFree l (⟨"com/example/usurf/usurf/WalkWeights$Weights", "sum", "()D"⟩ : MethodName) (head1 (Jvm.Cond.code (⟨"com/example/usurf/usurf/WalkWeights$Weights", "sum", "()D"⟩ : MethodName) prog_39_method_4_code 8 (some .double) :: ws) ({ frames := 0, cells := 0, slots := 0, locals := 0 } : Room)) (fun a U => a = #[(.ref o0)] ∧ Z.Warmed39 U.vm ∧ U.heap = h0) (fun _ _ _ _ _ => True) (fun _ U o U' => ∃ v L, o = .returned v ∧ own_Q4pn1 Z a0 o0 ar kc v0 h0 n0 v U'.heap L ∧ FrameEnd U o U' L ({ frames := 0, cells := 0, slots := 0, locals := 0 } : Room).cells ({ frames := 0, cells := 0, slots := 0, locals := 0 } : Room).slots) := by
  refine own_body (Q := fun v h L => own_Q4pn1 Z a0 o0 ar kc v0 h0 n0 v h L) (plainFor_of_name own_pn2) ?_
  intro p e s m below meth c s₁ hx hby hml hZ hown hnm hret hlk X0 e0
  replace hml : c.maxLocals = 8 := hml
  have N0 := Fr.nil n0
  have K0 : Keep h0 h0 [] := Keep.refl _ _
  refine own_st (fun t k => castTop (own_ef4pn1 m o0) k) ?_
  show own_Run p e below s _ _ _ (s₁.setTop (mkF m 0 #[.val (.ref o0), .unset, .unset, .unset, .unset, .unset, .unset, .unset] []))
  refine own_st (fun t k => XS.dconst0 X0.here hx rfl (hb hby own_d4_0) (v := 0) rfl k) ?_
  show own_Run p e below s _ _ _ (s₁.setTop (mkF m 1 #[.val (.ref o0), .unset, .unset, .unset, .unset, .unset, .unset, .unset] [(.double (0 : UInt64))]))
  refine own_st (fun t k => XS.dstoreN X0.here hx rfl (hb hby own_d4_1) rfl (l' := #[.val (.ref o0), .val (.double (0 : UInt64)), .second, .unset, .unset, .unset, .unset, .unset]) rfl k) ?_
  show own_Run p e below s _ _ _ (s₁.setTop (mkF m 2 #[.val (.ref o0), .val (.double (0 : UInt64)), .second, .unset, .unset, .unset, .unset, .unset] []))
  refine own_st (fun t k => XS.aloadN X0.here hx rfl (hb hby own_d4_2) rfl rfl k) ?_
  show own_Run p e below s _ _ _ (s₁.setTop (mkF m 3 #[.val (.ref o0), .val (.double (0 : UInt64)), .second, .unset, .unset, .unset, .unset, .unset] [(.ref o0)]))
  obtain ⟨T16, X16, e16, st16⟩ := getF X0 hx hZ hown (host := "") (Or.inl (hw _ (List.mem_of_getElem? (i := 19) rfl))) Via.refl e0 F_v (g := (mkF m 3 #[.val (.ref o0), .val (.double (0 : UInt64)), .second, .unset, .unset, .unset, .unset, .unset] [(.ref o0)])) rfl rfl (hb hby own_d4_3)
  refine own_st st16 ?_
  show own_Run p e below s _ _ _ (T16.setTop (mkF m 6 #[.val (.ref o0), .val (.double (0 : UInt64)), .second, .unset, .unset, .unset, .unset, .unset] [(.ref ar)]))
  refine own_st (fun t k => XS.astoreN X16.here hx rfl (hb hby own_d4_6) rfl rfl (l' := #[.val (.ref o0), .val (.double (0 : UInt64)), .second, .val (.ref ar), .unset, .unset, .unset, .unset]) rfl k) ?_
  show own_Run p e below s _ _ _ (T16.setTop (mkF m 7 #[.val (.ref o0), .val (.double (0 : UInt64)), .second, .val (.ref ar), .unset, .unset, .unset, .unset] []))
  refine own_st (fun t k => XS.aloadN X16.here hx rfl (hb hby own_d4_7) rfl rfl k) ?_
  show own_Run p e below s _ _ _ (T16.setTop (mkF m 8 #[.val (.ref o0), .val (.double (0 : UInt64)), .second, .val (.ref ar), .unset, .unset, .unset, .unset] [(.ref ar)]))
  obtain ⟨cl17, Ar17, -, S17, N17, -, -⟩ := id A_v
  refine own_st (X16.arraylength hx (by rw [e16]; exact Ar17.1) (State.isArrayOf_alike hZ.alike Ar17.2.1) (g := (mkF m 8 #[.val (.ref o0), .val (.double (0 : UInt64)), .second, .val (.ref ar), .unset, .unset, .unset, .unset] [(.ref ar)])) rfl rfl (hb hby own_d4_8)) ?_
  rw [len_of S17 N17]
  show own_Run p e below s _ _ _ (T16.setTop (mkF m 9 #[.val (.ref o0), .val (.double (0 : UInt64)), .second, .val (.ref ar), .unset, .unset, .unset, .unset] [(.int (1 : Int32))]))
  refine own_st (fun t k => XS.istore X16.here hx rfl (hb hby own_d4_9) rfl (l' := #[.val (.ref o0), .val (.double (0 : UInt64)), .second, .val (.ref ar), .val (.int (1 : Int32)), .unset, .unset, .unset]) rfl k) ?_
  show own_Run p e below s _ _ _ (T16.setTop (mkF m 11 #[.val (.ref o0), .val (.double (0 : UInt64)), .second, .val (.ref ar), .val (.int (1 : Int32)), .unset, .unset, .unset] []))
  refine own_st (fun t k => XS.iconst X16.here hx rfl (hb hby own_d4_11) k) ?_
  show own_Run p e below s _ _ _ (T16.setTop (mkF m 12 #[.val (.ref o0), .val (.double (0 : UInt64)), .second, .val (.ref ar), .val (.int (1 : Int32)), .unset, .unset, .unset] [(.int (0 : Int32))]))
  refine own_st (fun t k => XS.istore X16.here hx rfl (hb hby own_d4_12) rfl (l' := #[.val (.ref o0), .val (.double (0 : UInt64)), .second, .val (.ref ar), .val (.int (1 : Int32)), .val (.int (0 : Int32)), .unset, .unset]) rfl k) ?_
  show own_Run p e below s _ _ _ (T16.setTop (mkF m 14 #[.val (.ref o0), .val (.double (0 : UInt64)), .second, .val (.ref ar), .val (.int (1 : Int32)), .val (.int (0 : Int32)), .unset, .unset] []))
  refine own_st (fun t k => XS.iload X16.here hx rfl (hb hby own_d4_14) rfl k) ?_
  show own_Run p e below s _ _ _ (T16.setTop (mkF m 16 #[.val (.ref o0), .val (.double (0 : UInt64)), .second, .val (.ref ar), .val (.int (1 : Int32)), .val (.int (0 : Int32)), .unset, .unset] [(.int (0 : Int32))]))
  refine own_st (fun t k => XS.iload X16.here hx rfl (hb hby own_d4_16) rfl k) ?_
  show own_Run p e below s _ _ _ (T16.setTop (mkF m 18 #[.val (.ref o0), .val (.double (0 : UInt64)), .second, .val (.ref ar), .val (.int (1 : Int32)), .val (.int (0 : Int32)), .unset, .unset] [(.int (1 : Int32)), (.int (0 : Int32))]))
  refine own_st (fun t k => XS.icmpNo X16.here hx rfl (hb hby own_d4_18) rfl (tlt (by decide : (0 : Int32) < (1 : Int32))).2.1 k) ?_
  show own_Run p e below s _ _ _ (T16.setTop (mkF m 21 #[.val (.ref o0), .val (.double (0 : UInt64)), .second, .val (.ref ar), .val (.int (1 : Int32)), .val (.int (0 : Int32)), .unset, .unset] []))
  refine own_st (fun t k => XS.aloadN X16.here hx rfl (hb hby own_d4_21) rfl rfl k) ?_
  show own_Run p e below s _ _ _ (T16.setTop (mkF m 22 #[.val (.ref o0), .val (.double (0 : UInt64)), .second, .val (.ref ar), .val (.int (1 : Int32)), .val (.int (0 : Int32)), .unset, .unset] [(.ref ar)]))
  refine own_st (fun t k => XS.iload X16.here hx rfl (hb hby own_d4_22) rfl k) ?_
  show own_Run p e below s _ _ _ (T16.setTop (mkF m 24 #[.val (.ref o0), .val (.double (0 : UInt64)), .second, .val (.ref ar), .val (.int (1 : Int32)), .val (.int (0 : Int32)), .unset, .unset] [(.int (0 : Int32)), (.ref ar)]))
  obtain ⟨cl18, Ar18, -, S18, N18, H18, G18⟩ := id A_v
  have hin18 : ¬ ((0 : Int32) < 0 ∨ cl18.slots.size ≤ ((0 : Int32)).toNatClampNeg) := inb_of S18 ⟨by decide, by decide⟩
  refine own_st (X16.daload hx (j := (0 : Int32)) (v := (.double v0)) (by rw [e16]; exact Ar18.1) (State.isArrayOf_alike hZ.alike Ar18.2.1) Ar18.2.2 hin18 (Has.at H18 hin18 rfl) (g := (mkF m 24 #[.val (.ref o0), .val (.double (0 : UInt64)), .second, .val (.ref ar), .val (.int (1 : Int32)), .val (.int (0 : Int32)), .unset, .unset] [(.int (0 : Int32)), (.ref ar)])) rfl rfl (hb hby own_d4_24)) ?_
  show own_Run p e below s _ _ _ (T16.setTop (mkF m 25 #[.val (.ref o0), .val (.double (0 : UInt64)), .second, .val (.ref ar), .val (.int (1 : Int32)), .val (.int (0 : Int32)), .unset, .unset] [(.double v0)]))
  refine own_st (fun t k => XS.dstore X16.here hx rfl (hb hby own_d4_25) rfl (l' := #[.val (.ref o0), .val (.double (0 : UInt64)), .second, .val (.ref ar), .val (.int (1 : Int32)), .val (.int (0 : Int32)), .val (.double v0), .second]) rfl k) ?_
  show own_Run p e below s _ _ _ (T16.setTop (mkF m 27 #[.val (.ref o0), .val (.double (0 : UInt64)), .second, .val (.ref ar), .val (.int (1 : Int32)), .val (.int (0 : Int32)), .val (.double v0), .second] []))
  refine own_st (fun t k => XS.dloadN X16.here hx rfl (hb hby own_d4_27) rfl k) ?_
  show own_Run p e below s _ _ _ (T16.setTop (mkF m 28 #[.val (.ref o0), .val (.double (0 : UInt64)), .second, .val (.ref ar), .val (.int (1 : Int32)), .val (.int (0 : Int32)), .val (.double v0), .second] [(.double (0 : UInt64))]))
  refine own_st (fun t k => XS.dload X16.here hx rfl (hb hby own_d4_28) rfl k) ?_
  show own_Run p e below s _ _ _ (T16.setTop (mkF m 30 #[.val (.ref o0), .val (.double (0 : UInt64)), .second, .val (.ref ar), .val (.int (1 : Int32)), .val (.int (0 : Int32)), .val (.double v0), .second] [(.double v0), (.double (0 : UInt64))]))
  refine own_st (fun t k => XS.daddS X16.here hx rfl (hb hby own_d4_30) rfl (pn0) (v := (FP.dadd (0 : UInt64) v0)) (rfl) k) ?_
  show own_Run p e below s _ _ _ (T16.setTop (mkF m 31 #[.val (.ref o0), .val (.double (0 : UInt64)), .second, .val (.ref ar), .val (.int (1 : Int32)), .val (.int (0 : Int32)), .val (.double v0), .second] [(.double (FP.dadd (0 : UInt64) v0))]))
  refine own_st (fun t k => XS.dstoreN X16.here hx rfl (hb hby own_d4_31) rfl (l' := #[.val (.ref o0), .val (.double (FP.dadd (0 : UInt64) v0)), .second, .val (.ref ar), .val (.int (1 : Int32)), .val (.int (0 : Int32)), .val (.double v0), .second]) rfl k) ?_
  show own_Run p e below s _ _ _ (T16.setTop (mkF m 32 #[.val (.ref o0), .val (.double (FP.dadd (0 : UInt64) v0)), .second, .val (.ref ar), .val (.int (1 : Int32)), .val (.int (0 : Int32)), .val (.double v0), .second] []))
  refine own_st (fun t k => XS.iinc X16.here hx rfl (hb hby own_d4_32) rfl (l' := #[.val (.ref o0), .val (.double (FP.dadd (0 : UInt64) v0)), .second, .val (.ref ar), .val (.int (1 : Int32)), .val (.int (1 : Int32)), .val (.double v0), .second]) rfl k) ?_
  show own_Run p e below s _ _ _ (T16.setTop (mkF m 35 #[.val (.ref o0), .val (.double (FP.dadd (0 : UInt64) v0)), .second, .val (.ref ar), .val (.int (1 : Int32)), .val (.int (1 : Int32)), .val (.double v0), .second] []))
  refine own_st (fun t k => XS.goto X16.here hx rfl (pc0 := 35) (pc' := 14) rfl (hb hby own_d4_35) (by decide) (by decide) k) ?_
  show own_Run p e below s _ _ _ (T16.setTop (mkF m 14 #[.val (.ref o0), .val (.double (FP.dadd (0 : UInt64) v0)), .second, .val (.ref ar), .val (.int (1 : Int32)), .val (.int (1 : Int32)), .val (.double v0), .second] []))
  refine own_st (fun t k => XS.iload X16.here hx rfl (hb hby own_d4_14) rfl k) ?_
  show own_Run p e below s _ _ _ (T16.setTop (mkF m 16 #[.val (.ref o0), .val (.double (FP.dadd (0 : UInt64) v0)), .second, .val (.ref ar), .val (.int (1 : Int32)), .val (.int (1 : Int32)), .val (.double v0), .second] [(.int (1 : Int32))]))
  refine own_st (fun t k => XS.iload X16.here hx rfl (hb hby own_d4_16) rfl k) ?_
  show own_Run p e below s _ _ _ (T16.setTop (mkF m 18 #[.val (.ref o0), .val (.double (FP.dadd (0 : UInt64) v0)), .second, .val (.ref ar), .val (.int (1 : Int32)), .val (.int (1 : Int32)), .val (.double v0), .second] [(.int (1 : Int32)), (.int (1 : Int32))]))
  refine own_st (fun t k => XS.icmpYes X16.here hx rfl (pc0 := 18) (pc' := 38) rfl (hb hby own_d4_18) rfl (flt (by decide : ¬ ((1 : Int32) < (1 : Int32)))).2.1 (by decide) (by decide) k) ?_
  show own_Run p e below s _ _ _ (T16.setTop (mkF m 38 #[.val (.ref o0), .val (.double (FP.dadd (0 : UInt64) v0)), .second, .val (.ref ar), .val (.int (1 : Int32)), .val (.int (1 : Int32)), .val (.double v0), .second] []))
  refine own_st (fun t k => XS.dloadN X16.here hx rfl (hb hby own_d4_38) rfl k) ?_
  show own_Run p e below s _ _ _ (T16.setTop (mkF m 39 #[.val (.ref o0), .val (.double (FP.dadd (0 : UInt64) v0)), .second, .val (.ref ar), .val (.int (1 : Int32)), .val (.int (1 : Int32)), .val (.double v0), .second] [(.double (FP.dadd (0 : UInt64) v0))]))
  exact own_ret X16 hx hlk (t := .double) hret rfl (Or.inr (Or.inr (Or.inl ⟨rfl, rfl, _, rfl⟩))) (hb hby own_d4_39) (by decide) (by decide) ⟨rfl, N0, e16⟩
set_option maxHeartbeats 4000000 in
theorem own_ef4pn2 (m : MethodId) (x0 : Addr) : entryFrame m #[(.ref x0)] 8 = mkF m 0 #[.val (.ref x0), .unset, .unset, .unset, .unset, .unset, .unset, .unset] [] := by first | (simp [entryFrame, mkF, argsToLocals, Value.category]; done) | rfl
def own_Q4pn2 (Z : State) (a0 : Array Value) (o0 : Addr) (ar : Addr) (kc : ClassId) (v0 : UInt64) (v1 : UInt64) (h0 : Heap) (n0 : Nat) (v : Option Value) (h : Heap) (L : List Loc) : Prop := v = some (.double (FP.dadd (FP.dadd (0 : UInt64) v0) v1)) ∧ Fr n0 L ∧ h = h0
set_option maxRecDepth 65536 in
set_option maxHeartbeats 40000000 in
theorem own_rm4pn2 (l : Launch) (Z : State) (a0 : Array Value) (hw : ∀ d ∈ tables_1, d.before a0 Z = true) (ws : List Jvm.Cond) (o0 : Addr) (ar : Addr) (kc : ClassId) (v0 : UInt64) (v1 : UInt64) (h0 : Heap) (n0 : Nat) (Z0 : n0 ≤ h0.size) (F_v : Fld Z h0 o0 "com/example/usurf/usurf/WalkWeights$Weights" "values" "[D" (.ref ar)) (A_v : Arv Z h0 ar kc .double (2 : Int32) [(.double v0), (.double v1)] (.double (0 : UInt64))) (pn0 : Jvm.Free.Fl.NoNaN64 (FP.dadd (0 : UInt64) v0)) (pn1 : Jvm.Free.Fl.NoNaN64 (FP.dadd (FP.dadd (0 : UInt64) v0) v1)) :
    MetFree l (⟨"com/example/usurf/usurf/WalkWeights$Weights", "sum", "()D"⟩ : MethodName) (head1 (Jvm.Cond.code (⟨"com/example/usurf/usurf/WalkWeights$Weights", "sum", "()D"⟩ : MethodName) prog_39_method_4_code 8 (some .double) :: ws) ({ frames := 0, cells := 0, slots := 0, locals := 0 } : Room)) (fun a U => a = #[(.ref o0)] ∧ Z.Warmed39 U.vm ∧ U.heap = h0) (fun _ _ _ _ _ => True) (fun _ U o U' => ∃ v L, o = .returned v ∧ own_Q4pn2 Z a0 o0 ar kc v0 v1 h0 n0 v U'.heap L ∧ FrameEnd U o U' L ({ frames := 0, cells := 0, slots := 0, locals := 0 } : Room).cells ({ frames := 0, cells := 0, slots := 0, locals := 0 } : Room).slots) := by
  refine own_body (Q := fun v h L => own_Q4pn2 Z a0 o0 ar kc v0 v1 h0 n0 v h L) (plainFor_of_name own_pn2) ?_
  intro p e s m below meth c s₁ hx hby hml hZ hown hnm hret hlk X0 e0
  replace hml : c.maxLocals = 8 := hml
  have N0 := Fr.nil n0
  have K0 : Keep h0 h0 [] := Keep.refl _ _
  refine own_st (fun t k => castTop (own_ef4pn2 m o0) k) ?_
  show own_Run p e below s _ _ _ (s₁.setTop (mkF m 0 #[.val (.ref o0), .unset, .unset, .unset, .unset, .unset, .unset, .unset] []))
  refine own_st (fun t k => XS.dconst0 X0.here hx rfl (hb hby own_d4_0) (v := 0) rfl k) ?_
  show own_Run p e below s _ _ _ (s₁.setTop (mkF m 1 #[.val (.ref o0), .unset, .unset, .unset, .unset, .unset, .unset, .unset] [(.double (0 : UInt64))]))
  refine own_st (fun t k => XS.dstoreN X0.here hx rfl (hb hby own_d4_1) rfl (l' := #[.val (.ref o0), .val (.double (0 : UInt64)), .second, .unset, .unset, .unset, .unset, .unset]) rfl k) ?_
  show own_Run p e below s _ _ _ (s₁.setTop (mkF m 2 #[.val (.ref o0), .val (.double (0 : UInt64)), .second, .unset, .unset, .unset, .unset, .unset] []))
  refine own_st (fun t k => XS.aloadN X0.here hx rfl (hb hby own_d4_2) rfl rfl k) ?_
  show own_Run p e below s _ _ _ (s₁.setTop (mkF m 3 #[.val (.ref o0), .val (.double (0 : UInt64)), .second, .unset, .unset, .unset, .unset, .unset] [(.ref o0)]))
  obtain ⟨T19, X19, e19, st19⟩ := getF X0 hx hZ hown (host := "") (Or.inl (hw _ (List.mem_of_getElem? (i := 19) rfl))) Via.refl e0 F_v (g := (mkF m 3 #[.val (.ref o0), .val (.double (0 : UInt64)), .second, .unset, .unset, .unset, .unset, .unset] [(.ref o0)])) rfl rfl (hb hby own_d4_3)
  refine own_st st19 ?_
  show own_Run p e below s _ _ _ (T19.setTop (mkF m 6 #[.val (.ref o0), .val (.double (0 : UInt64)), .second, .unset, .unset, .unset, .unset, .unset] [(.ref ar)]))
  refine own_st (fun t k => XS.astoreN X19.here hx rfl (hb hby own_d4_6) rfl rfl (l' := #[.val (.ref o0), .val (.double (0 : UInt64)), .second, .val (.ref ar), .unset, .unset, .unset, .unset]) rfl k) ?_
  show own_Run p e below s _ _ _ (T19.setTop (mkF m 7 #[.val (.ref o0), .val (.double (0 : UInt64)), .second, .val (.ref ar), .unset, .unset, .unset, .unset] []))
  refine own_st (fun t k => XS.aloadN X19.here hx rfl (hb hby own_d4_7) rfl rfl k) ?_
  show own_Run p e below s _ _ _ (T19.setTop (mkF m 8 #[.val (.ref o0), .val (.double (0 : UInt64)), .second, .val (.ref ar), .unset, .unset, .unset, .unset] [(.ref ar)]))
  obtain ⟨cl20, Ar20, -, S20, N20, -, -⟩ := id A_v
  refine own_st (X19.arraylength hx (by rw [e19]; exact Ar20.1) (State.isArrayOf_alike hZ.alike Ar20.2.1) (g := (mkF m 8 #[.val (.ref o0), .val (.double (0 : UInt64)), .second, .val (.ref ar), .unset, .unset, .unset, .unset] [(.ref ar)])) rfl rfl (hb hby own_d4_8)) ?_
  rw [len_of S20 N20]
  show own_Run p e below s _ _ _ (T19.setTop (mkF m 9 #[.val (.ref o0), .val (.double (0 : UInt64)), .second, .val (.ref ar), .unset, .unset, .unset, .unset] [(.int (2 : Int32))]))
  refine own_st (fun t k => XS.istore X19.here hx rfl (hb hby own_d4_9) rfl (l' := #[.val (.ref o0), .val (.double (0 : UInt64)), .second, .val (.ref ar), .val (.int (2 : Int32)), .unset, .unset, .unset]) rfl k) ?_
  show own_Run p e below s _ _ _ (T19.setTop (mkF m 11 #[.val (.ref o0), .val (.double (0 : UInt64)), .second, .val (.ref ar), .val (.int (2 : Int32)), .unset, .unset, .unset] []))
  refine own_st (fun t k => XS.iconst X19.here hx rfl (hb hby own_d4_11) k) ?_
  show own_Run p e below s _ _ _ (T19.setTop (mkF m 12 #[.val (.ref o0), .val (.double (0 : UInt64)), .second, .val (.ref ar), .val (.int (2 : Int32)), .unset, .unset, .unset] [(.int (0 : Int32))]))
  refine own_st (fun t k => XS.istore X19.here hx rfl (hb hby own_d4_12) rfl (l' := #[.val (.ref o0), .val (.double (0 : UInt64)), .second, .val (.ref ar), .val (.int (2 : Int32)), .val (.int (0 : Int32)), .unset, .unset]) rfl k) ?_
  show own_Run p e below s _ _ _ (T19.setTop (mkF m 14 #[.val (.ref o0), .val (.double (0 : UInt64)), .second, .val (.ref ar), .val (.int (2 : Int32)), .val (.int (0 : Int32)), .unset, .unset] []))
  refine own_st (fun t k => XS.iload X19.here hx rfl (hb hby own_d4_14) rfl k) ?_
  show own_Run p e below s _ _ _ (T19.setTop (mkF m 16 #[.val (.ref o0), .val (.double (0 : UInt64)), .second, .val (.ref ar), .val (.int (2 : Int32)), .val (.int (0 : Int32)), .unset, .unset] [(.int (0 : Int32))]))
  refine own_st (fun t k => XS.iload X19.here hx rfl (hb hby own_d4_16) rfl k) ?_
  show own_Run p e below s _ _ _ (T19.setTop (mkF m 18 #[.val (.ref o0), .val (.double (0 : UInt64)), .second, .val (.ref ar), .val (.int (2 : Int32)), .val (.int (0 : Int32)), .unset, .unset] [(.int (2 : Int32)), (.int (0 : Int32))]))
  refine own_st (fun t k => XS.icmpNo X19.here hx rfl (hb hby own_d4_18) rfl (tlt (by decide : (0 : Int32) < (2 : Int32))).2.1 k) ?_
  show own_Run p e below s _ _ _ (T19.setTop (mkF m 21 #[.val (.ref o0), .val (.double (0 : UInt64)), .second, .val (.ref ar), .val (.int (2 : Int32)), .val (.int (0 : Int32)), .unset, .unset] []))
  refine own_st (fun t k => XS.aloadN X19.here hx rfl (hb hby own_d4_21) rfl rfl k) ?_
  show own_Run p e below s _ _ _ (T19.setTop (mkF m 22 #[.val (.ref o0), .val (.double (0 : UInt64)), .second, .val (.ref ar), .val (.int (2 : Int32)), .val (.int (0 : Int32)), .unset, .unset] [(.ref ar)]))
  refine own_st (fun t k => XS.iload X19.here hx rfl (hb hby own_d4_22) rfl k) ?_
  show own_Run p e below s _ _ _ (T19.setTop (mkF m 24 #[.val (.ref o0), .val (.double (0 : UInt64)), .second, .val (.ref ar), .val (.int (2 : Int32)), .val (.int (0 : Int32)), .unset, .unset] [(.int (0 : Int32)), (.ref ar)]))
  obtain ⟨cl21, Ar21, -, S21, N21, H21, G21⟩ := id A_v
  have hin21 : ¬ ((0 : Int32) < 0 ∨ cl21.slots.size ≤ ((0 : Int32)).toNatClampNeg) := inb_of S21 ⟨by decide, by decide⟩
  refine own_st (X19.daload hx (j := (0 : Int32)) (v := (.double v0)) (by rw [e19]; exact Ar21.1) (State.isArrayOf_alike hZ.alike Ar21.2.1) Ar21.2.2 hin21 (Has.at H21 hin21 rfl) (g := (mkF m 24 #[.val (.ref o0), .val (.double (0 : UInt64)), .second, .val (.ref ar), .val (.int (2 : Int32)), .val (.int (0 : Int32)), .unset, .unset] [(.int (0 : Int32)), (.ref ar)])) rfl rfl (hb hby own_d4_24)) ?_
  show own_Run p e below s _ _ _ (T19.setTop (mkF m 25 #[.val (.ref o0), .val (.double (0 : UInt64)), .second, .val (.ref ar), .val (.int (2 : Int32)), .val (.int (0 : Int32)), .unset, .unset] [(.double v0)]))
  refine own_st (fun t k => XS.dstore X19.here hx rfl (hb hby own_d4_25) rfl (l' := #[.val (.ref o0), .val (.double (0 : UInt64)), .second, .val (.ref ar), .val (.int (2 : Int32)), .val (.int (0 : Int32)), .val (.double v0), .second]) rfl k) ?_
  show own_Run p e below s _ _ _ (T19.setTop (mkF m 27 #[.val (.ref o0), .val (.double (0 : UInt64)), .second, .val (.ref ar), .val (.int (2 : Int32)), .val (.int (0 : Int32)), .val (.double v0), .second] []))
  refine own_st (fun t k => XS.dloadN X19.here hx rfl (hb hby own_d4_27) rfl k) ?_
  show own_Run p e below s _ _ _ (T19.setTop (mkF m 28 #[.val (.ref o0), .val (.double (0 : UInt64)), .second, .val (.ref ar), .val (.int (2 : Int32)), .val (.int (0 : Int32)), .val (.double v0), .second] [(.double (0 : UInt64))]))
  refine own_st (fun t k => XS.dload X19.here hx rfl (hb hby own_d4_28) rfl k) ?_
  show own_Run p e below s _ _ _ (T19.setTop (mkF m 30 #[.val (.ref o0), .val (.double (0 : UInt64)), .second, .val (.ref ar), .val (.int (2 : Int32)), .val (.int (0 : Int32)), .val (.double v0), .second] [(.double v0), (.double (0 : UInt64))]))
  refine own_st (fun t k => XS.daddS X19.here hx rfl (hb hby own_d4_30) rfl (pn0) (v := (FP.dadd (0 : UInt64) v0)) (rfl) k) ?_
  show own_Run p e below s _ _ _ (T19.setTop (mkF m 31 #[.val (.ref o0), .val (.double (0 : UInt64)), .second, .val (.ref ar), .val (.int (2 : Int32)), .val (.int (0 : Int32)), .val (.double v0), .second] [(.double (FP.dadd (0 : UInt64) v0))]))
  refine own_st (fun t k => XS.dstoreN X19.here hx rfl (hb hby own_d4_31) rfl (l' := #[.val (.ref o0), .val (.double (FP.dadd (0 : UInt64) v0)), .second, .val (.ref ar), .val (.int (2 : Int32)), .val (.int (0 : Int32)), .val (.double v0), .second]) rfl k) ?_
  show own_Run p e below s _ _ _ (T19.setTop (mkF m 32 #[.val (.ref o0), .val (.double (FP.dadd (0 : UInt64) v0)), .second, .val (.ref ar), .val (.int (2 : Int32)), .val (.int (0 : Int32)), .val (.double v0), .second] []))
  refine own_st (fun t k => XS.iinc X19.here hx rfl (hb hby own_d4_32) rfl (l' := #[.val (.ref o0), .val (.double (FP.dadd (0 : UInt64) v0)), .second, .val (.ref ar), .val (.int (2 : Int32)), .val (.int (1 : Int32)), .val (.double v0), .second]) rfl k) ?_
  show own_Run p e below s _ _ _ (T19.setTop (mkF m 35 #[.val (.ref o0), .val (.double (FP.dadd (0 : UInt64) v0)), .second, .val (.ref ar), .val (.int (2 : Int32)), .val (.int (1 : Int32)), .val (.double v0), .second] []))
  refine own_st (fun t k => XS.goto X19.here hx rfl (pc0 := 35) (pc' := 14) rfl (hb hby own_d4_35) (by decide) (by decide) k) ?_
  show own_Run p e below s _ _ _ (T19.setTop (mkF m 14 #[.val (.ref o0), .val (.double (FP.dadd (0 : UInt64) v0)), .second, .val (.ref ar), .val (.int (2 : Int32)), .val (.int (1 : Int32)), .val (.double v0), .second] []))
  refine own_st (fun t k => XS.iload X19.here hx rfl (hb hby own_d4_14) rfl k) ?_
  show own_Run p e below s _ _ _ (T19.setTop (mkF m 16 #[.val (.ref o0), .val (.double (FP.dadd (0 : UInt64) v0)), .second, .val (.ref ar), .val (.int (2 : Int32)), .val (.int (1 : Int32)), .val (.double v0), .second] [(.int (1 : Int32))]))
  refine own_st (fun t k => XS.iload X19.here hx rfl (hb hby own_d4_16) rfl k) ?_
  show own_Run p e below s _ _ _ (T19.setTop (mkF m 18 #[.val (.ref o0), .val (.double (FP.dadd (0 : UInt64) v0)), .second, .val (.ref ar), .val (.int (2 : Int32)), .val (.int (1 : Int32)), .val (.double v0), .second] [(.int (2 : Int32)), (.int (1 : Int32))]))
  refine own_st (fun t k => XS.icmpNo X19.here hx rfl (hb hby own_d4_18) rfl (tlt (by decide : (1 : Int32) < (2 : Int32))).2.1 k) ?_
  show own_Run p e below s _ _ _ (T19.setTop (mkF m 21 #[.val (.ref o0), .val (.double (FP.dadd (0 : UInt64) v0)), .second, .val (.ref ar), .val (.int (2 : Int32)), .val (.int (1 : Int32)), .val (.double v0), .second] []))
  refine own_st (fun t k => XS.aloadN X19.here hx rfl (hb hby own_d4_21) rfl rfl k) ?_
  show own_Run p e below s _ _ _ (T19.setTop (mkF m 22 #[.val (.ref o0), .val (.double (FP.dadd (0 : UInt64) v0)), .second, .val (.ref ar), .val (.int (2 : Int32)), .val (.int (1 : Int32)), .val (.double v0), .second] [(.ref ar)]))
  refine own_st (fun t k => XS.iload X19.here hx rfl (hb hby own_d4_22) rfl k) ?_
  show own_Run p e below s _ _ _ (T19.setTop (mkF m 24 #[.val (.ref o0), .val (.double (FP.dadd (0 : UInt64) v0)), .second, .val (.ref ar), .val (.int (2 : Int32)), .val (.int (1 : Int32)), .val (.double v0), .second] [(.int (1 : Int32)), (.ref ar)]))
  obtain ⟨cl22, Ar22, -, S22, N22, H22, G22⟩ := id A_v
  have hin22 : ¬ ((1 : Int32) < 0 ∨ cl22.slots.size ≤ ((1 : Int32)).toNatClampNeg) := inb_of S22 ⟨by decide, by decide⟩
  refine own_st (X19.daload hx (j := (1 : Int32)) (v := (.double v1)) (by rw [e19]; exact Ar22.1) (State.isArrayOf_alike hZ.alike Ar22.2.1) Ar22.2.2 hin22 (Has.at H22 hin22 rfl) (g := (mkF m 24 #[.val (.ref o0), .val (.double (FP.dadd (0 : UInt64) v0)), .second, .val (.ref ar), .val (.int (2 : Int32)), .val (.int (1 : Int32)), .val (.double v0), .second] [(.int (1 : Int32)), (.ref ar)])) rfl rfl (hb hby own_d4_24)) ?_
  show own_Run p e below s _ _ _ (T19.setTop (mkF m 25 #[.val (.ref o0), .val (.double (FP.dadd (0 : UInt64) v0)), .second, .val (.ref ar), .val (.int (2 : Int32)), .val (.int (1 : Int32)), .val (.double v0), .second] [(.double v1)]))
  refine own_st (fun t k => XS.dstore X19.here hx rfl (hb hby own_d4_25) rfl (l' := #[.val (.ref o0), .val (.double (FP.dadd (0 : UInt64) v0)), .second, .val (.ref ar), .val (.int (2 : Int32)), .val (.int (1 : Int32)), .val (.double v1), .second]) rfl k) ?_
  show own_Run p e below s _ _ _ (T19.setTop (mkF m 27 #[.val (.ref o0), .val (.double (FP.dadd (0 : UInt64) v0)), .second, .val (.ref ar), .val (.int (2 : Int32)), .val (.int (1 : Int32)), .val (.double v1), .second] []))
  refine own_st (fun t k => XS.dloadN X19.here hx rfl (hb hby own_d4_27) rfl k) ?_
  show own_Run p e below s _ _ _ (T19.setTop (mkF m 28 #[.val (.ref o0), .val (.double (FP.dadd (0 : UInt64) v0)), .second, .val (.ref ar), .val (.int (2 : Int32)), .val (.int (1 : Int32)), .val (.double v1), .second] [(.double (FP.dadd (0 : UInt64) v0))]))
  refine own_st (fun t k => XS.dload X19.here hx rfl (hb hby own_d4_28) rfl k) ?_
  show own_Run p e below s _ _ _ (T19.setTop (mkF m 30 #[.val (.ref o0), .val (.double (FP.dadd (0 : UInt64) v0)), .second, .val (.ref ar), .val (.int (2 : Int32)), .val (.int (1 : Int32)), .val (.double v1), .second] [(.double v1), (.double (FP.dadd (0 : UInt64) v0))]))
  refine own_st (fun t k => XS.daddS X19.here hx rfl (hb hby own_d4_30) rfl (pn1) (v := (FP.dadd (FP.dadd (0 : UInt64) v0) v1)) (rfl) k) ?_
  show own_Run p e below s _ _ _ (T19.setTop (mkF m 31 #[.val (.ref o0), .val (.double (FP.dadd (0 : UInt64) v0)), .second, .val (.ref ar), .val (.int (2 : Int32)), .val (.int (1 : Int32)), .val (.double v1), .second] [(.double (FP.dadd (FP.dadd (0 : UInt64) v0) v1))]))
  refine own_st (fun t k => XS.dstoreN X19.here hx rfl (hb hby own_d4_31) rfl (l' := #[.val (.ref o0), .val (.double (FP.dadd (FP.dadd (0 : UInt64) v0) v1)), .second, .val (.ref ar), .val (.int (2 : Int32)), .val (.int (1 : Int32)), .val (.double v1), .second]) rfl k) ?_
  show own_Run p e below s _ _ _ (T19.setTop (mkF m 32 #[.val (.ref o0), .val (.double (FP.dadd (FP.dadd (0 : UInt64) v0) v1)), .second, .val (.ref ar), .val (.int (2 : Int32)), .val (.int (1 : Int32)), .val (.double v1), .second] []))
  refine own_st (fun t k => XS.iinc X19.here hx rfl (hb hby own_d4_32) rfl (l' := #[.val (.ref o0), .val (.double (FP.dadd (FP.dadd (0 : UInt64) v0) v1)), .second, .val (.ref ar), .val (.int (2 : Int32)), .val (.int (2 : Int32)), .val (.double v1), .second]) rfl k) ?_
  show own_Run p e below s _ _ _ (T19.setTop (mkF m 35 #[.val (.ref o0), .val (.double (FP.dadd (FP.dadd (0 : UInt64) v0) v1)), .second, .val (.ref ar), .val (.int (2 : Int32)), .val (.int (2 : Int32)), .val (.double v1), .second] []))
  refine own_st (fun t k => XS.goto X19.here hx rfl (pc0 := 35) (pc' := 14) rfl (hb hby own_d4_35) (by decide) (by decide) k) ?_
  show own_Run p e below s _ _ _ (T19.setTop (mkF m 14 #[.val (.ref o0), .val (.double (FP.dadd (FP.dadd (0 : UInt64) v0) v1)), .second, .val (.ref ar), .val (.int (2 : Int32)), .val (.int (2 : Int32)), .val (.double v1), .second] []))
  refine own_st (fun t k => XS.iload X19.here hx rfl (hb hby own_d4_14) rfl k) ?_
  show own_Run p e below s _ _ _ (T19.setTop (mkF m 16 #[.val (.ref o0), .val (.double (FP.dadd (FP.dadd (0 : UInt64) v0) v1)), .second, .val (.ref ar), .val (.int (2 : Int32)), .val (.int (2 : Int32)), .val (.double v1), .second] [(.int (2 : Int32))]))
  refine own_st (fun t k => XS.iload X19.here hx rfl (hb hby own_d4_16) rfl k) ?_
  show own_Run p e below s _ _ _ (T19.setTop (mkF m 18 #[.val (.ref o0), .val (.double (FP.dadd (FP.dadd (0 : UInt64) v0) v1)), .second, .val (.ref ar), .val (.int (2 : Int32)), .val (.int (2 : Int32)), .val (.double v1), .second] [(.int (2 : Int32)), (.int (2 : Int32))]))
  refine own_st (fun t k => XS.icmpYes X19.here hx rfl (pc0 := 18) (pc' := 38) rfl (hb hby own_d4_18) rfl (flt (by decide : ¬ ((2 : Int32) < (2 : Int32)))).2.1 (by decide) (by decide) k) ?_
  show own_Run p e below s _ _ _ (T19.setTop (mkF m 38 #[.val (.ref o0), .val (.double (FP.dadd (FP.dadd (0 : UInt64) v0) v1)), .second, .val (.ref ar), .val (.int (2 : Int32)), .val (.int (2 : Int32)), .val (.double v1), .second] []))
  refine own_st (fun t k => XS.dloadN X19.here hx rfl (hb hby own_d4_38) rfl k) ?_
  show own_Run p e below s _ _ _ (T19.setTop (mkF m 39 #[.val (.ref o0), .val (.double (FP.dadd (FP.dadd (0 : UInt64) v0) v1)), .second, .val (.ref ar), .val (.int (2 : Int32)), .val (.int (2 : Int32)), .val (.double v1), .second] [(.double (FP.dadd (FP.dadd (0 : UInt64) v0) v1))]))
  exact own_ret X19 hx hlk (t := .double) hret rfl (Or.inr (Or.inr (Or.inl ⟨rfl, rfl, _, rfl⟩))) (hb hby own_d4_39) (by decide) (by decide) ⟨rfl, N0, e19⟩
set_option maxHeartbeats 4000000 in
theorem own_ef4pn3 (m : MethodId) (x0 : Addr) : entryFrame m #[(.ref x0)] 8 = mkF m 0 #[.val (.ref x0), .unset, .unset, .unset, .unset, .unset, .unset, .unset] [] := by first | (simp [entryFrame, mkF, argsToLocals, Value.category]; done) | rfl
def own_Q4pn3 (Z : State) (a0 : Array Value) (o0 : Addr) (ar : Addr) (kc : ClassId) (v0 : UInt64) (v1 : UInt64) (v2 : UInt64) (h0 : Heap) (n0 : Nat) (v : Option Value) (h : Heap) (L : List Loc) : Prop := v = some (.double (FP.dadd (FP.dadd (FP.dadd (0 : UInt64) v0) v1) v2)) ∧ Fr n0 L ∧ h = h0
set_option maxRecDepth 65536 in
set_option maxHeartbeats 40000000 in
theorem own_rm4pn3 (l : Launch) (Z : State) (a0 : Array Value) (hw : ∀ d ∈ tables_1, d.before a0 Z = true) (ws : List Jvm.Cond) (o0 : Addr) (ar : Addr) (kc : ClassId) (v0 : UInt64) (v1 : UInt64) (v2 : UInt64) (h0 : Heap) (n0 : Nat) (Z0 : n0 ≤ h0.size) (F_v : Fld Z h0 o0 "com/example/usurf/usurf/WalkWeights$Weights" "values" "[D" (.ref ar)) (A_v : Arv Z h0 ar kc .double (3 : Int32) [(.double v0), (.double v1), (.double v2)] (.double (0 : UInt64))) (pn0 : Jvm.Free.Fl.NoNaN64 (FP.dadd (0 : UInt64) v0)) (pn1 : Jvm.Free.Fl.NoNaN64 (FP.dadd (FP.dadd (0 : UInt64) v0) v1)) (pn2 : Jvm.Free.Fl.NoNaN64 (FP.dadd (FP.dadd (FP.dadd (0 : UInt64) v0) v1) v2)) :
    MetFree l (⟨"com/example/usurf/usurf/WalkWeights$Weights", "sum", "()D"⟩ : MethodName) (head1 (Jvm.Cond.code (⟨"com/example/usurf/usurf/WalkWeights$Weights", "sum", "()D"⟩ : MethodName) prog_39_method_4_code 8 (some .double) :: ws) ({ frames := 0, cells := 0, slots := 0, locals := 0 } : Room)) (fun a U => a = #[(.ref o0)] ∧ Z.Warmed39 U.vm ∧ U.heap = h0) (fun _ _ _ _ _ => True) (fun _ U o U' => ∃ v L, o = .returned v ∧ own_Q4pn3 Z a0 o0 ar kc v0 v1 v2 h0 n0 v U'.heap L ∧ FrameEnd U o U' L ({ frames := 0, cells := 0, slots := 0, locals := 0 } : Room).cells ({ frames := 0, cells := 0, slots := 0, locals := 0 } : Room).slots) := by
  refine own_body (Q := fun v h L => own_Q4pn3 Z a0 o0 ar kc v0 v1 v2 h0 n0 v h L) (plainFor_of_name own_pn2) ?_
  intro p e s m below meth c s₁ hx hby hml hZ hown hnm hret hlk X0 e0
  replace hml : c.maxLocals = 8 := hml
  have N0 := Fr.nil n0
  have K0 : Keep h0 h0 [] := Keep.refl _ _
  refine own_st (fun t k => castTop (own_ef4pn3 m o0) k) ?_
  show own_Run p e below s _ _ _ (s₁.setTop (mkF m 0 #[.val (.ref o0), .unset, .unset, .unset, .unset, .unset, .unset, .unset] []))
  refine own_st (fun t k => XS.dconst0 X0.here hx rfl (hb hby own_d4_0) (v := 0) rfl k) ?_
  show own_Run p e below s _ _ _ (s₁.setTop (mkF m 1 #[.val (.ref o0), .unset, .unset, .unset, .unset, .unset, .unset, .unset] [(.double (0 : UInt64))]))
  refine own_st (fun t k => XS.dstoreN X0.here hx rfl (hb hby own_d4_1) rfl (l' := #[.val (.ref o0), .val (.double (0 : UInt64)), .second, .unset, .unset, .unset, .unset, .unset]) rfl k) ?_
  show own_Run p e below s _ _ _ (s₁.setTop (mkF m 2 #[.val (.ref o0), .val (.double (0 : UInt64)), .second, .unset, .unset, .unset, .unset, .unset] []))
  refine own_st (fun t k => XS.aloadN X0.here hx rfl (hb hby own_d4_2) rfl rfl k) ?_
  show own_Run p e below s _ _ _ (s₁.setTop (mkF m 3 #[.val (.ref o0), .val (.double (0 : UInt64)), .second, .unset, .unset, .unset, .unset, .unset] [(.ref o0)]))
  obtain ⟨T23, X23, e23, st23⟩ := getF X0 hx hZ hown (host := "") (Or.inl (hw _ (List.mem_of_getElem? (i := 19) rfl))) Via.refl e0 F_v (g := (mkF m 3 #[.val (.ref o0), .val (.double (0 : UInt64)), .second, .unset, .unset, .unset, .unset, .unset] [(.ref o0)])) rfl rfl (hb hby own_d4_3)
  refine own_st st23 ?_
  show own_Run p e below s _ _ _ (T23.setTop (mkF m 6 #[.val (.ref o0), .val (.double (0 : UInt64)), .second, .unset, .unset, .unset, .unset, .unset] [(.ref ar)]))
  refine own_st (fun t k => XS.astoreN X23.here hx rfl (hb hby own_d4_6) rfl rfl (l' := #[.val (.ref o0), .val (.double (0 : UInt64)), .second, .val (.ref ar), .unset, .unset, .unset, .unset]) rfl k) ?_
  show own_Run p e below s _ _ _ (T23.setTop (mkF m 7 #[.val (.ref o0), .val (.double (0 : UInt64)), .second, .val (.ref ar), .unset, .unset, .unset, .unset] []))
  refine own_st (fun t k => XS.aloadN X23.here hx rfl (hb hby own_d4_7) rfl rfl k) ?_
  show own_Run p e below s _ _ _ (T23.setTop (mkF m 8 #[.val (.ref o0), .val (.double (0 : UInt64)), .second, .val (.ref ar), .unset, .unset, .unset, .unset] [(.ref ar)]))
  obtain ⟨cl24, Ar24, -, S24, N24, -, -⟩ := id A_v
  refine own_st (X23.arraylength hx (by rw [e23]; exact Ar24.1) (State.isArrayOf_alike hZ.alike Ar24.2.1) (g := (mkF m 8 #[.val (.ref o0), .val (.double (0 : UInt64)), .second, .val (.ref ar), .unset, .unset, .unset, .unset] [(.ref ar)])) rfl rfl (hb hby own_d4_8)) ?_
  rw [len_of S24 N24]
  show own_Run p e below s _ _ _ (T23.setTop (mkF m 9 #[.val (.ref o0), .val (.double (0 : UInt64)), .second, .val (.ref ar), .unset, .unset, .unset, .unset] [(.int (3 : Int32))]))
  refine own_st (fun t k => XS.istore X23.here hx rfl (hb hby own_d4_9) rfl (l' := #[.val (.ref o0), .val (.double (0 : UInt64)), .second, .val (.ref ar), .val (.int (3 : Int32)), .unset, .unset, .unset]) rfl k) ?_
  show own_Run p e below s _ _ _ (T23.setTop (mkF m 11 #[.val (.ref o0), .val (.double (0 : UInt64)), .second, .val (.ref ar), .val (.int (3 : Int32)), .unset, .unset, .unset] []))
  refine own_st (fun t k => XS.iconst X23.here hx rfl (hb hby own_d4_11) k) ?_
  show own_Run p e below s _ _ _ (T23.setTop (mkF m 12 #[.val (.ref o0), .val (.double (0 : UInt64)), .second, .val (.ref ar), .val (.int (3 : Int32)), .unset, .unset, .unset] [(.int (0 : Int32))]))
  refine own_st (fun t k => XS.istore X23.here hx rfl (hb hby own_d4_12) rfl (l' := #[.val (.ref o0), .val (.double (0 : UInt64)), .second, .val (.ref ar), .val (.int (3 : Int32)), .val (.int (0 : Int32)), .unset, .unset]) rfl k) ?_
  show own_Run p e below s _ _ _ (T23.setTop (mkF m 14 #[.val (.ref o0), .val (.double (0 : UInt64)), .second, .val (.ref ar), .val (.int (3 : Int32)), .val (.int (0 : Int32)), .unset, .unset] []))
  refine own_st (fun t k => XS.iload X23.here hx rfl (hb hby own_d4_14) rfl k) ?_
  show own_Run p e below s _ _ _ (T23.setTop (mkF m 16 #[.val (.ref o0), .val (.double (0 : UInt64)), .second, .val (.ref ar), .val (.int (3 : Int32)), .val (.int (0 : Int32)), .unset, .unset] [(.int (0 : Int32))]))
  refine own_st (fun t k => XS.iload X23.here hx rfl (hb hby own_d4_16) rfl k) ?_
  show own_Run p e below s _ _ _ (T23.setTop (mkF m 18 #[.val (.ref o0), .val (.double (0 : UInt64)), .second, .val (.ref ar), .val (.int (3 : Int32)), .val (.int (0 : Int32)), .unset, .unset] [(.int (3 : Int32)), (.int (0 : Int32))]))
  refine own_st (fun t k => XS.icmpNo X23.here hx rfl (hb hby own_d4_18) rfl (tlt (by decide : (0 : Int32) < (3 : Int32))).2.1 k) ?_
  show own_Run p e below s _ _ _ (T23.setTop (mkF m 21 #[.val (.ref o0), .val (.double (0 : UInt64)), .second, .val (.ref ar), .val (.int (3 : Int32)), .val (.int (0 : Int32)), .unset, .unset] []))
  refine own_st (fun t k => XS.aloadN X23.here hx rfl (hb hby own_d4_21) rfl rfl k) ?_
  show own_Run p e below s _ _ _ (T23.setTop (mkF m 22 #[.val (.ref o0), .val (.double (0 : UInt64)), .second, .val (.ref ar), .val (.int (3 : Int32)), .val (.int (0 : Int32)), .unset, .unset] [(.ref ar)]))
  refine own_st (fun t k => XS.iload X23.here hx rfl (hb hby own_d4_22) rfl k) ?_
  show own_Run p e below s _ _ _ (T23.setTop (mkF m 24 #[.val (.ref o0), .val (.double (0 : UInt64)), .second, .val (.ref ar), .val (.int (3 : Int32)), .val (.int (0 : Int32)), .unset, .unset] [(.int (0 : Int32)), (.ref ar)]))
  obtain ⟨cl25, Ar25, -, S25, N25, H25, G25⟩ := id A_v
  have hin25 : ¬ ((0 : Int32) < 0 ∨ cl25.slots.size ≤ ((0 : Int32)).toNatClampNeg) := inb_of S25 ⟨by decide, by decide⟩
  refine own_st (X23.daload hx (j := (0 : Int32)) (v := (.double v0)) (by rw [e23]; exact Ar25.1) (State.isArrayOf_alike hZ.alike Ar25.2.1) Ar25.2.2 hin25 (Has.at H25 hin25 rfl) (g := (mkF m 24 #[.val (.ref o0), .val (.double (0 : UInt64)), .second, .val (.ref ar), .val (.int (3 : Int32)), .val (.int (0 : Int32)), .unset, .unset] [(.int (0 : Int32)), (.ref ar)])) rfl rfl (hb hby own_d4_24)) ?_
  show own_Run p e below s _ _ _ (T23.setTop (mkF m 25 #[.val (.ref o0), .val (.double (0 : UInt64)), .second, .val (.ref ar), .val (.int (3 : Int32)), .val (.int (0 : Int32)), .unset, .unset] [(.double v0)]))
  refine own_st (fun t k => XS.dstore X23.here hx rfl (hb hby own_d4_25) rfl (l' := #[.val (.ref o0), .val (.double (0 : UInt64)), .second, .val (.ref ar), .val (.int (3 : Int32)), .val (.int (0 : Int32)), .val (.double v0), .second]) rfl k) ?_
  show own_Run p e below s _ _ _ (T23.setTop (mkF m 27 #[.val (.ref o0), .val (.double (0 : UInt64)), .second, .val (.ref ar), .val (.int (3 : Int32)), .val (.int (0 : Int32)), .val (.double v0), .second] []))
  refine own_st (fun t k => XS.dloadN X23.here hx rfl (hb hby own_d4_27) rfl k) ?_
  show own_Run p e below s _ _ _ (T23.setTop (mkF m 28 #[.val (.ref o0), .val (.double (0 : UInt64)), .second, .val (.ref ar), .val (.int (3 : Int32)), .val (.int (0 : Int32)), .val (.double v0), .second] [(.double (0 : UInt64))]))
  refine own_st (fun t k => XS.dload X23.here hx rfl (hb hby own_d4_28) rfl k) ?_
  show own_Run p e below s _ _ _ (T23.setTop (mkF m 30 #[.val (.ref o0), .val (.double (0 : UInt64)), .second, .val (.ref ar), .val (.int (3 : Int32)), .val (.int (0 : Int32)), .val (.double v0), .second] [(.double v0), (.double (0 : UInt64))]))
  refine own_st (fun t k => XS.daddS X23.here hx rfl (hb hby own_d4_30) rfl (pn0) (v := (FP.dadd (0 : UInt64) v0)) (rfl) k) ?_
  show own_Run p e below s _ _ _ (T23.setTop (mkF m 31 #[.val (.ref o0), .val (.double (0 : UInt64)), .second, .val (.ref ar), .val (.int (3 : Int32)), .val (.int (0 : Int32)), .val (.double v0), .second] [(.double (FP.dadd (0 : UInt64) v0))]))
  refine own_st (fun t k => XS.dstoreN X23.here hx rfl (hb hby own_d4_31) rfl (l' := #[.val (.ref o0), .val (.double (FP.dadd (0 : UInt64) v0)), .second, .val (.ref ar), .val (.int (3 : Int32)), .val (.int (0 : Int32)), .val (.double v0), .second]) rfl k) ?_
  show own_Run p e below s _ _ _ (T23.setTop (mkF m 32 #[.val (.ref o0), .val (.double (FP.dadd (0 : UInt64) v0)), .second, .val (.ref ar), .val (.int (3 : Int32)), .val (.int (0 : Int32)), .val (.double v0), .second] []))
  refine own_st (fun t k => XS.iinc X23.here hx rfl (hb hby own_d4_32) rfl (l' := #[.val (.ref o0), .val (.double (FP.dadd (0 : UInt64) v0)), .second, .val (.ref ar), .val (.int (3 : Int32)), .val (.int (1 : Int32)), .val (.double v0), .second]) rfl k) ?_
  show own_Run p e below s _ _ _ (T23.setTop (mkF m 35 #[.val (.ref o0), .val (.double (FP.dadd (0 : UInt64) v0)), .second, .val (.ref ar), .val (.int (3 : Int32)), .val (.int (1 : Int32)), .val (.double v0), .second] []))
  refine own_st (fun t k => XS.goto X23.here hx rfl (pc0 := 35) (pc' := 14) rfl (hb hby own_d4_35) (by decide) (by decide) k) ?_
  show own_Run p e below s _ _ _ (T23.setTop (mkF m 14 #[.val (.ref o0), .val (.double (FP.dadd (0 : UInt64) v0)), .second, .val (.ref ar), .val (.int (3 : Int32)), .val (.int (1 : Int32)), .val (.double v0), .second] []))
  refine own_st (fun t k => XS.iload X23.here hx rfl (hb hby own_d4_14) rfl k) ?_
  show own_Run p e below s _ _ _ (T23.setTop (mkF m 16 #[.val (.ref o0), .val (.double (FP.dadd (0 : UInt64) v0)), .second, .val (.ref ar), .val (.int (3 : Int32)), .val (.int (1 : Int32)), .val (.double v0), .second] [(.int (1 : Int32))]))
  refine own_st (fun t k => XS.iload X23.here hx rfl (hb hby own_d4_16) rfl k) ?_
  show own_Run p e below s _ _ _ (T23.setTop (mkF m 18 #[.val (.ref o0), .val (.double (FP.dadd (0 : UInt64) v0)), .second, .val (.ref ar), .val (.int (3 : Int32)), .val (.int (1 : Int32)), .val (.double v0), .second] [(.int (3 : Int32)), (.int (1 : Int32))]))
  refine own_st (fun t k => XS.icmpNo X23.here hx rfl (hb hby own_d4_18) rfl (tlt (by decide : (1 : Int32) < (3 : Int32))).2.1 k) ?_
  show own_Run p e below s _ _ _ (T23.setTop (mkF m 21 #[.val (.ref o0), .val (.double (FP.dadd (0 : UInt64) v0)), .second, .val (.ref ar), .val (.int (3 : Int32)), .val (.int (1 : Int32)), .val (.double v0), .second] []))
  refine own_st (fun t k => XS.aloadN X23.here hx rfl (hb hby own_d4_21) rfl rfl k) ?_
  show own_Run p e below s _ _ _ (T23.setTop (mkF m 22 #[.val (.ref o0), .val (.double (FP.dadd (0 : UInt64) v0)), .second, .val (.ref ar), .val (.int (3 : Int32)), .val (.int (1 : Int32)), .val (.double v0), .second] [(.ref ar)]))
  refine own_st (fun t k => XS.iload X23.here hx rfl (hb hby own_d4_22) rfl k) ?_
  show own_Run p e below s _ _ _ (T23.setTop (mkF m 24 #[.val (.ref o0), .val (.double (FP.dadd (0 : UInt64) v0)), .second, .val (.ref ar), .val (.int (3 : Int32)), .val (.int (1 : Int32)), .val (.double v0), .second] [(.int (1 : Int32)), (.ref ar)]))
  obtain ⟨cl26, Ar26, -, S26, N26, H26, G26⟩ := id A_v
  have hin26 : ¬ ((1 : Int32) < 0 ∨ cl26.slots.size ≤ ((1 : Int32)).toNatClampNeg) := inb_of S26 ⟨by decide, by decide⟩
  refine own_st (X23.daload hx (j := (1 : Int32)) (v := (.double v1)) (by rw [e23]; exact Ar26.1) (State.isArrayOf_alike hZ.alike Ar26.2.1) Ar26.2.2 hin26 (Has.at H26 hin26 rfl) (g := (mkF m 24 #[.val (.ref o0), .val (.double (FP.dadd (0 : UInt64) v0)), .second, .val (.ref ar), .val (.int (3 : Int32)), .val (.int (1 : Int32)), .val (.double v0), .second] [(.int (1 : Int32)), (.ref ar)])) rfl rfl (hb hby own_d4_24)) ?_
  show own_Run p e below s _ _ _ (T23.setTop (mkF m 25 #[.val (.ref o0), .val (.double (FP.dadd (0 : UInt64) v0)), .second, .val (.ref ar), .val (.int (3 : Int32)), .val (.int (1 : Int32)), .val (.double v0), .second] [(.double v1)]))
  refine own_st (fun t k => XS.dstore X23.here hx rfl (hb hby own_d4_25) rfl (l' := #[.val (.ref o0), .val (.double (FP.dadd (0 : UInt64) v0)), .second, .val (.ref ar), .val (.int (3 : Int32)), .val (.int (1 : Int32)), .val (.double v1), .second]) rfl k) ?_
  show own_Run p e below s _ _ _ (T23.setTop (mkF m 27 #[.val (.ref o0), .val (.double (FP.dadd (0 : UInt64) v0)), .second, .val (.ref ar), .val (.int (3 : Int32)), .val (.int (1 : Int32)), .val (.double v1), .second] []))
  refine own_st (fun t k => XS.dloadN X23.here hx rfl (hb hby own_d4_27) rfl k) ?_
  show own_Run p e below s _ _ _ (T23.setTop (mkF m 28 #[.val (.ref o0), .val (.double (FP.dadd (0 : UInt64) v0)), .second, .val (.ref ar), .val (.int (3 : Int32)), .val (.int (1 : Int32)), .val (.double v1), .second] [(.double (FP.dadd (0 : UInt64) v0))]))
  refine own_st (fun t k => XS.dload X23.here hx rfl (hb hby own_d4_28) rfl k) ?_
  show own_Run p e below s _ _ _ (T23.setTop (mkF m 30 #[.val (.ref o0), .val (.double (FP.dadd (0 : UInt64) v0)), .second, .val (.ref ar), .val (.int (3 : Int32)), .val (.int (1 : Int32)), .val (.double v1), .second] [(.double v1), (.double (FP.dadd (0 : UInt64) v0))]))
  refine own_st (fun t k => XS.daddS X23.here hx rfl (hb hby own_d4_30) rfl (pn1) (v := (FP.dadd (FP.dadd (0 : UInt64) v0) v1)) (rfl) k) ?_
  show own_Run p e below s _ _ _ (T23.setTop (mkF m 31 #[.val (.ref o0), .val (.double (FP.dadd (0 : UInt64) v0)), .second, .val (.ref ar), .val (.int (3 : Int32)), .val (.int (1 : Int32)), .val (.double v1), .second] [(.double (FP.dadd (FP.dadd (0 : UInt64) v0) v1))]))
  refine own_st (fun t k => XS.dstoreN X23.here hx rfl (hb hby own_d4_31) rfl (l' := #[.val (.ref o0), .val (.double (FP.dadd (FP.dadd (0 : UInt64) v0) v1)), .second, .val (.ref ar), .val (.int (3 : Int32)), .val (.int (1 : Int32)), .val (.double v1), .second]) rfl k) ?_
  show own_Run p e below s _ _ _ (T23.setTop (mkF m 32 #[.val (.ref o0), .val (.double (FP.dadd (FP.dadd (0 : UInt64) v0) v1)), .second, .val (.ref ar), .val (.int (3 : Int32)), .val (.int (1 : Int32)), .val (.double v1), .second] []))
  refine own_st (fun t k => XS.iinc X23.here hx rfl (hb hby own_d4_32) rfl (l' := #[.val (.ref o0), .val (.double (FP.dadd (FP.dadd (0 : UInt64) v0) v1)), .second, .val (.ref ar), .val (.int (3 : Int32)), .val (.int (2 : Int32)), .val (.double v1), .second]) rfl k) ?_
  show own_Run p e below s _ _ _ (T23.setTop (mkF m 35 #[.val (.ref o0), .val (.double (FP.dadd (FP.dadd (0 : UInt64) v0) v1)), .second, .val (.ref ar), .val (.int (3 : Int32)), .val (.int (2 : Int32)), .val (.double v1), .second] []))
  refine own_st (fun t k => XS.goto X23.here hx rfl (pc0 := 35) (pc' := 14) rfl (hb hby own_d4_35) (by decide) (by decide) k) ?_
  show own_Run p e below s _ _ _ (T23.setTop (mkF m 14 #[.val (.ref o0), .val (.double (FP.dadd (FP.dadd (0 : UInt64) v0) v1)), .second, .val (.ref ar), .val (.int (3 : Int32)), .val (.int (2 : Int32)), .val (.double v1), .second] []))
  refine own_st (fun t k => XS.iload X23.here hx rfl (hb hby own_d4_14) rfl k) ?_
  show own_Run p e below s _ _ _ (T23.setTop (mkF m 16 #[.val (.ref o0), .val (.double (FP.dadd (FP.dadd (0 : UInt64) v0) v1)), .second, .val (.ref ar), .val (.int (3 : Int32)), .val (.int (2 : Int32)), .val (.double v1), .second] [(.int (2 : Int32))]))
  refine own_st (fun t k => XS.iload X23.here hx rfl (hb hby own_d4_16) rfl k) ?_
  show own_Run p e below s _ _ _ (T23.setTop (mkF m 18 #[.val (.ref o0), .val (.double (FP.dadd (FP.dadd (0 : UInt64) v0) v1)), .second, .val (.ref ar), .val (.int (3 : Int32)), .val (.int (2 : Int32)), .val (.double v1), .second] [(.int (3 : Int32)), (.int (2 : Int32))]))
  refine own_st (fun t k => XS.icmpNo X23.here hx rfl (hb hby own_d4_18) rfl (tlt (by decide : (2 : Int32) < (3 : Int32))).2.1 k) ?_
  show own_Run p e below s _ _ _ (T23.setTop (mkF m 21 #[.val (.ref o0), .val (.double (FP.dadd (FP.dadd (0 : UInt64) v0) v1)), .second, .val (.ref ar), .val (.int (3 : Int32)), .val (.int (2 : Int32)), .val (.double v1), .second] []))
  refine own_st (fun t k => XS.aloadN X23.here hx rfl (hb hby own_d4_21) rfl rfl k) ?_
  show own_Run p e below s _ _ _ (T23.setTop (mkF m 22 #[.val (.ref o0), .val (.double (FP.dadd (FP.dadd (0 : UInt64) v0) v1)), .second, .val (.ref ar), .val (.int (3 : Int32)), .val (.int (2 : Int32)), .val (.double v1), .second] [(.ref ar)]))
  refine own_st (fun t k => XS.iload X23.here hx rfl (hb hby own_d4_22) rfl k) ?_
  show own_Run p e below s _ _ _ (T23.setTop (mkF m 24 #[.val (.ref o0), .val (.double (FP.dadd (FP.dadd (0 : UInt64) v0) v1)), .second, .val (.ref ar), .val (.int (3 : Int32)), .val (.int (2 : Int32)), .val (.double v1), .second] [(.int (2 : Int32)), (.ref ar)]))
  obtain ⟨cl27, Ar27, -, S27, N27, H27, G27⟩ := id A_v
  have hin27 : ¬ ((2 : Int32) < 0 ∨ cl27.slots.size ≤ ((2 : Int32)).toNatClampNeg) := inb_of S27 ⟨by decide, by decide⟩
  refine own_st (X23.daload hx (j := (2 : Int32)) (v := (.double v2)) (by rw [e23]; exact Ar27.1) (State.isArrayOf_alike hZ.alike Ar27.2.1) Ar27.2.2 hin27 (Has.at H27 hin27 rfl) (g := (mkF m 24 #[.val (.ref o0), .val (.double (FP.dadd (FP.dadd (0 : UInt64) v0) v1)), .second, .val (.ref ar), .val (.int (3 : Int32)), .val (.int (2 : Int32)), .val (.double v1), .second] [(.int (2 : Int32)), (.ref ar)])) rfl rfl (hb hby own_d4_24)) ?_
  show own_Run p e below s _ _ _ (T23.setTop (mkF m 25 #[.val (.ref o0), .val (.double (FP.dadd (FP.dadd (0 : UInt64) v0) v1)), .second, .val (.ref ar), .val (.int (3 : Int32)), .val (.int (2 : Int32)), .val (.double v1), .second] [(.double v2)]))
  refine own_st (fun t k => XS.dstore X23.here hx rfl (hb hby own_d4_25) rfl (l' := #[.val (.ref o0), .val (.double (FP.dadd (FP.dadd (0 : UInt64) v0) v1)), .second, .val (.ref ar), .val (.int (3 : Int32)), .val (.int (2 : Int32)), .val (.double v2), .second]) rfl k) ?_
  show own_Run p e below s _ _ _ (T23.setTop (mkF m 27 #[.val (.ref o0), .val (.double (FP.dadd (FP.dadd (0 : UInt64) v0) v1)), .second, .val (.ref ar), .val (.int (3 : Int32)), .val (.int (2 : Int32)), .val (.double v2), .second] []))
  refine own_st (fun t k => XS.dloadN X23.here hx rfl (hb hby own_d4_27) rfl k) ?_
  show own_Run p e below s _ _ _ (T23.setTop (mkF m 28 #[.val (.ref o0), .val (.double (FP.dadd (FP.dadd (0 : UInt64) v0) v1)), .second, .val (.ref ar), .val (.int (3 : Int32)), .val (.int (2 : Int32)), .val (.double v2), .second] [(.double (FP.dadd (FP.dadd (0 : UInt64) v0) v1))]))
  refine own_st (fun t k => XS.dload X23.here hx rfl (hb hby own_d4_28) rfl k) ?_
  show own_Run p e below s _ _ _ (T23.setTop (mkF m 30 #[.val (.ref o0), .val (.double (FP.dadd (FP.dadd (0 : UInt64) v0) v1)), .second, .val (.ref ar), .val (.int (3 : Int32)), .val (.int (2 : Int32)), .val (.double v2), .second] [(.double v2), (.double (FP.dadd (FP.dadd (0 : UInt64) v0) v1))]))
  refine own_st (fun t k => XS.daddS X23.here hx rfl (hb hby own_d4_30) rfl (pn2) (v := (FP.dadd (FP.dadd (FP.dadd (0 : UInt64) v0) v1) v2)) (rfl) k) ?_
  show own_Run p e below s _ _ _ (T23.setTop (mkF m 31 #[.val (.ref o0), .val (.double (FP.dadd (FP.dadd (0 : UInt64) v0) v1)), .second, .val (.ref ar), .val (.int (3 : Int32)), .val (.int (2 : Int32)), .val (.double v2), .second] [(.double (FP.dadd (FP.dadd (FP.dadd (0 : UInt64) v0) v1) v2))]))
  refine own_st (fun t k => XS.dstoreN X23.here hx rfl (hb hby own_d4_31) rfl (l' := #[.val (.ref o0), .val (.double (FP.dadd (FP.dadd (FP.dadd (0 : UInt64) v0) v1) v2)), .second, .val (.ref ar), .val (.int (3 : Int32)), .val (.int (2 : Int32)), .val (.double v2), .second]) rfl k) ?_
  show own_Run p e below s _ _ _ (T23.setTop (mkF m 32 #[.val (.ref o0), .val (.double (FP.dadd (FP.dadd (FP.dadd (0 : UInt64) v0) v1) v2)), .second, .val (.ref ar), .val (.int (3 : Int32)), .val (.int (2 : Int32)), .val (.double v2), .second] []))
  refine own_st (fun t k => XS.iinc X23.here hx rfl (hb hby own_d4_32) rfl (l' := #[.val (.ref o0), .val (.double (FP.dadd (FP.dadd (FP.dadd (0 : UInt64) v0) v1) v2)), .second, .val (.ref ar), .val (.int (3 : Int32)), .val (.int (3 : Int32)), .val (.double v2), .second]) rfl k) ?_
  show own_Run p e below s _ _ _ (T23.setTop (mkF m 35 #[.val (.ref o0), .val (.double (FP.dadd (FP.dadd (FP.dadd (0 : UInt64) v0) v1) v2)), .second, .val (.ref ar), .val (.int (3 : Int32)), .val (.int (3 : Int32)), .val (.double v2), .second] []))
  refine own_st (fun t k => XS.goto X23.here hx rfl (pc0 := 35) (pc' := 14) rfl (hb hby own_d4_35) (by decide) (by decide) k) ?_
  show own_Run p e below s _ _ _ (T23.setTop (mkF m 14 #[.val (.ref o0), .val (.double (FP.dadd (FP.dadd (FP.dadd (0 : UInt64) v0) v1) v2)), .second, .val (.ref ar), .val (.int (3 : Int32)), .val (.int (3 : Int32)), .val (.double v2), .second] []))
  refine own_st (fun t k => XS.iload X23.here hx rfl (hb hby own_d4_14) rfl k) ?_
  show own_Run p e below s _ _ _ (T23.setTop (mkF m 16 #[.val (.ref o0), .val (.double (FP.dadd (FP.dadd (FP.dadd (0 : UInt64) v0) v1) v2)), .second, .val (.ref ar), .val (.int (3 : Int32)), .val (.int (3 : Int32)), .val (.double v2), .second] [(.int (3 : Int32))]))
  refine own_st (fun t k => XS.iload X23.here hx rfl (hb hby own_d4_16) rfl k) ?_
  show own_Run p e below s _ _ _ (T23.setTop (mkF m 18 #[.val (.ref o0), .val (.double (FP.dadd (FP.dadd (FP.dadd (0 : UInt64) v0) v1) v2)), .second, .val (.ref ar), .val (.int (3 : Int32)), .val (.int (3 : Int32)), .val (.double v2), .second] [(.int (3 : Int32)), (.int (3 : Int32))]))
  refine own_st (fun t k => XS.icmpYes X23.here hx rfl (pc0 := 18) (pc' := 38) rfl (hb hby own_d4_18) rfl (flt (by decide : ¬ ((3 : Int32) < (3 : Int32)))).2.1 (by decide) (by decide) k) ?_
  show own_Run p e below s _ _ _ (T23.setTop (mkF m 38 #[.val (.ref o0), .val (.double (FP.dadd (FP.dadd (FP.dadd (0 : UInt64) v0) v1) v2)), .second, .val (.ref ar), .val (.int (3 : Int32)), .val (.int (3 : Int32)), .val (.double v2), .second] []))
  refine own_st (fun t k => XS.dloadN X23.here hx rfl (hb hby own_d4_38) rfl k) ?_
  show own_Run p e below s _ _ _ (T23.setTop (mkF m 39 #[.val (.ref o0), .val (.double (FP.dadd (FP.dadd (FP.dadd (0 : UInt64) v0) v1) v2)), .second, .val (.ref ar), .val (.int (3 : Int32)), .val (.int (3 : Int32)), .val (.double v2), .second] [(.double (FP.dadd (FP.dadd (FP.dadd (0 : UInt64) v0) v1) v2))]))
  exact own_ret X23 hx hlk (t := .double) hret rfl (Or.inr (Or.inr (Or.inl ⟨rfl, rfl, _, rfl⟩))) (hb hby own_d4_39) (by decide) (by decide) ⟨rfl, N0, e23⟩
set_option maxHeartbeats 4000000 in
theorem own_ef4pn4 (m : MethodId) (x0 : Addr) : entryFrame m #[(.ref x0)] 8 = mkF m 0 #[.val (.ref x0), .unset, .unset, .unset, .unset, .unset, .unset, .unset] [] := by first | (simp [entryFrame, mkF, argsToLocals, Value.category]; done) | rfl
def own_Q4pn4 (Z : State) (a0 : Array Value) (o0 : Addr) (ar : Addr) (kc : ClassId) (v0 : UInt64) (v1 : UInt64) (v2 : UInt64) (v3 : UInt64) (h0 : Heap) (n0 : Nat) (v : Option Value) (h : Heap) (L : List Loc) : Prop := v = some (.double (FP.dadd (FP.dadd (FP.dadd (FP.dadd (0 : UInt64) v0) v1) v2) v3)) ∧ Fr n0 L ∧ h = h0
set_option maxRecDepth 65536 in
set_option maxHeartbeats 40000000 in
theorem own_rm4pn4 (l : Launch) (Z : State) (a0 : Array Value) (hw : ∀ d ∈ tables_1, d.before a0 Z = true) (ws : List Jvm.Cond) (o0 : Addr) (ar : Addr) (kc : ClassId) (v0 : UInt64) (v1 : UInt64) (v2 : UInt64) (v3 : UInt64) (h0 : Heap) (n0 : Nat) (Z0 : n0 ≤ h0.size) (F_v : Fld Z h0 o0 "com/example/usurf/usurf/WalkWeights$Weights" "values" "[D" (.ref ar)) (A_v : Arv Z h0 ar kc .double (4 : Int32) [(.double v0), (.double v1), (.double v2), (.double v3)] (.double (0 : UInt64))) (pn0 : Jvm.Free.Fl.NoNaN64 (FP.dadd (0 : UInt64) v0)) (pn1 : Jvm.Free.Fl.NoNaN64 (FP.dadd (FP.dadd (0 : UInt64) v0) v1)) (pn2 : Jvm.Free.Fl.NoNaN64 (FP.dadd (FP.dadd (FP.dadd (0 : UInt64) v0) v1) v2)) (pn3 : Jvm.Free.Fl.NoNaN64 (FP.dadd (FP.dadd (FP.dadd (FP.dadd (0 : UInt64) v0) v1) v2) v3)) :
    MetFree l (⟨"com/example/usurf/usurf/WalkWeights$Weights", "sum", "()D"⟩ : MethodName) (head1 (Jvm.Cond.code (⟨"com/example/usurf/usurf/WalkWeights$Weights", "sum", "()D"⟩ : MethodName) prog_39_method_4_code 8 (some .double) :: ws) ({ frames := 0, cells := 0, slots := 0, locals := 0 } : Room)) (fun a U => a = #[(.ref o0)] ∧ Z.Warmed39 U.vm ∧ U.heap = h0) (fun _ _ _ _ _ => True) (fun _ U o U' => ∃ v L, o = .returned v ∧ own_Q4pn4 Z a0 o0 ar kc v0 v1 v2 v3 h0 n0 v U'.heap L ∧ FrameEnd U o U' L ({ frames := 0, cells := 0, slots := 0, locals := 0 } : Room).cells ({ frames := 0, cells := 0, slots := 0, locals := 0 } : Room).slots) := by
  refine own_body (Q := fun v h L => own_Q4pn4 Z a0 o0 ar kc v0 v1 v2 v3 h0 n0 v h L) (plainFor_of_name own_pn2) ?_
  intro p e s m below meth c s₁ hx hby hml hZ hown hnm hret hlk X0 e0
  replace hml : c.maxLocals = 8 := hml
  have N0 := Fr.nil n0
  have K0 : Keep h0 h0 [] := Keep.refl _ _
  refine own_st (fun t k => castTop (own_ef4pn4 m o0) k) ?_
  show own_Run p e below s _ _ _ (s₁.setTop (mkF m 0 #[.val (.ref o0), .unset, .unset, .unset, .unset, .unset, .unset, .unset] []))
  refine own_st (fun t k => XS.dconst0 X0.here hx rfl (hb hby own_d4_0) (v := 0) rfl k) ?_
  show own_Run p e below s _ _ _ (s₁.setTop (mkF m 1 #[.val (.ref o0), .unset, .unset, .unset, .unset, .unset, .unset, .unset] [(.double (0 : UInt64))]))
  refine own_st (fun t k => XS.dstoreN X0.here hx rfl (hb hby own_d4_1) rfl (l' := #[.val (.ref o0), .val (.double (0 : UInt64)), .second, .unset, .unset, .unset, .unset, .unset]) rfl k) ?_
  show own_Run p e below s _ _ _ (s₁.setTop (mkF m 2 #[.val (.ref o0), .val (.double (0 : UInt64)), .second, .unset, .unset, .unset, .unset, .unset] []))
  refine own_st (fun t k => XS.aloadN X0.here hx rfl (hb hby own_d4_2) rfl rfl k) ?_
  show own_Run p e below s _ _ _ (s₁.setTop (mkF m 3 #[.val (.ref o0), .val (.double (0 : UInt64)), .second, .unset, .unset, .unset, .unset, .unset] [(.ref o0)]))
  obtain ⟨T28, X28, e28, st28⟩ := getF X0 hx hZ hown (host := "") (Or.inl (hw _ (List.mem_of_getElem? (i := 19) rfl))) Via.refl e0 F_v (g := (mkF m 3 #[.val (.ref o0), .val (.double (0 : UInt64)), .second, .unset, .unset, .unset, .unset, .unset] [(.ref o0)])) rfl rfl (hb hby own_d4_3)
  refine own_st st28 ?_
  show own_Run p e below s _ _ _ (T28.setTop (mkF m 6 #[.val (.ref o0), .val (.double (0 : UInt64)), .second, .unset, .unset, .unset, .unset, .unset] [(.ref ar)]))
  refine own_st (fun t k => XS.astoreN X28.here hx rfl (hb hby own_d4_6) rfl rfl (l' := #[.val (.ref o0), .val (.double (0 : UInt64)), .second, .val (.ref ar), .unset, .unset, .unset, .unset]) rfl k) ?_
  show own_Run p e below s _ _ _ (T28.setTop (mkF m 7 #[.val (.ref o0), .val (.double (0 : UInt64)), .second, .val (.ref ar), .unset, .unset, .unset, .unset] []))
  refine own_st (fun t k => XS.aloadN X28.here hx rfl (hb hby own_d4_7) rfl rfl k) ?_
  show own_Run p e below s _ _ _ (T28.setTop (mkF m 8 #[.val (.ref o0), .val (.double (0 : UInt64)), .second, .val (.ref ar), .unset, .unset, .unset, .unset] [(.ref ar)]))
  obtain ⟨cl29, Ar29, -, S29, N29, -, -⟩ := id A_v
  refine own_st (X28.arraylength hx (by rw [e28]; exact Ar29.1) (State.isArrayOf_alike hZ.alike Ar29.2.1) (g := (mkF m 8 #[.val (.ref o0), .val (.double (0 : UInt64)), .second, .val (.ref ar), .unset, .unset, .unset, .unset] [(.ref ar)])) rfl rfl (hb hby own_d4_8)) ?_
  rw [len_of S29 N29]
  show own_Run p e below s _ _ _ (T28.setTop (mkF m 9 #[.val (.ref o0), .val (.double (0 : UInt64)), .second, .val (.ref ar), .unset, .unset, .unset, .unset] [(.int (4 : Int32))]))
  refine own_st (fun t k => XS.istore X28.here hx rfl (hb hby own_d4_9) rfl (l' := #[.val (.ref o0), .val (.double (0 : UInt64)), .second, .val (.ref ar), .val (.int (4 : Int32)), .unset, .unset, .unset]) rfl k) ?_
  show own_Run p e below s _ _ _ (T28.setTop (mkF m 11 #[.val (.ref o0), .val (.double (0 : UInt64)), .second, .val (.ref ar), .val (.int (4 : Int32)), .unset, .unset, .unset] []))
  refine own_st (fun t k => XS.iconst X28.here hx rfl (hb hby own_d4_11) k) ?_
  show own_Run p e below s _ _ _ (T28.setTop (mkF m 12 #[.val (.ref o0), .val (.double (0 : UInt64)), .second, .val (.ref ar), .val (.int (4 : Int32)), .unset, .unset, .unset] [(.int (0 : Int32))]))
  refine own_st (fun t k => XS.istore X28.here hx rfl (hb hby own_d4_12) rfl (l' := #[.val (.ref o0), .val (.double (0 : UInt64)), .second, .val (.ref ar), .val (.int (4 : Int32)), .val (.int (0 : Int32)), .unset, .unset]) rfl k) ?_
  show own_Run p e below s _ _ _ (T28.setTop (mkF m 14 #[.val (.ref o0), .val (.double (0 : UInt64)), .second, .val (.ref ar), .val (.int (4 : Int32)), .val (.int (0 : Int32)), .unset, .unset] []))
  refine own_st (fun t k => XS.iload X28.here hx rfl (hb hby own_d4_14) rfl k) ?_
  show own_Run p e below s _ _ _ (T28.setTop (mkF m 16 #[.val (.ref o0), .val (.double (0 : UInt64)), .second, .val (.ref ar), .val (.int (4 : Int32)), .val (.int (0 : Int32)), .unset, .unset] [(.int (0 : Int32))]))
  refine own_st (fun t k => XS.iload X28.here hx rfl (hb hby own_d4_16) rfl k) ?_
  show own_Run p e below s _ _ _ (T28.setTop (mkF m 18 #[.val (.ref o0), .val (.double (0 : UInt64)), .second, .val (.ref ar), .val (.int (4 : Int32)), .val (.int (0 : Int32)), .unset, .unset] [(.int (4 : Int32)), (.int (0 : Int32))]))
  refine own_st (fun t k => XS.icmpNo X28.here hx rfl (hb hby own_d4_18) rfl (tlt (by decide : (0 : Int32) < (4 : Int32))).2.1 k) ?_
  show own_Run p e below s _ _ _ (T28.setTop (mkF m 21 #[.val (.ref o0), .val (.double (0 : UInt64)), .second, .val (.ref ar), .val (.int (4 : Int32)), .val (.int (0 : Int32)), .unset, .unset] []))
  refine own_st (fun t k => XS.aloadN X28.here hx rfl (hb hby own_d4_21) rfl rfl k) ?_
  show own_Run p e below s _ _ _ (T28.setTop (mkF m 22 #[.val (.ref o0), .val (.double (0 : UInt64)), .second, .val (.ref ar), .val (.int (4 : Int32)), .val (.int (0 : Int32)), .unset, .unset] [(.ref ar)]))
  refine own_st (fun t k => XS.iload X28.here hx rfl (hb hby own_d4_22) rfl k) ?_
  show own_Run p e below s _ _ _ (T28.setTop (mkF m 24 #[.val (.ref o0), .val (.double (0 : UInt64)), .second, .val (.ref ar), .val (.int (4 : Int32)), .val (.int (0 : Int32)), .unset, .unset] [(.int (0 : Int32)), (.ref ar)]))
  obtain ⟨cl30, Ar30, -, S30, N30, H30, G30⟩ := id A_v
  have hin30 : ¬ ((0 : Int32) < 0 ∨ cl30.slots.size ≤ ((0 : Int32)).toNatClampNeg) := inb_of S30 ⟨by decide, by decide⟩
  refine own_st (X28.daload hx (j := (0 : Int32)) (v := (.double v0)) (by rw [e28]; exact Ar30.1) (State.isArrayOf_alike hZ.alike Ar30.2.1) Ar30.2.2 hin30 (Has.at H30 hin30 rfl) (g := (mkF m 24 #[.val (.ref o0), .val (.double (0 : UInt64)), .second, .val (.ref ar), .val (.int (4 : Int32)), .val (.int (0 : Int32)), .unset, .unset] [(.int (0 : Int32)), (.ref ar)])) rfl rfl (hb hby own_d4_24)) ?_
  show own_Run p e below s _ _ _ (T28.setTop (mkF m 25 #[.val (.ref o0), .val (.double (0 : UInt64)), .second, .val (.ref ar), .val (.int (4 : Int32)), .val (.int (0 : Int32)), .unset, .unset] [(.double v0)]))
  refine own_st (fun t k => XS.dstore X28.here hx rfl (hb hby own_d4_25) rfl (l' := #[.val (.ref o0), .val (.double (0 : UInt64)), .second, .val (.ref ar), .val (.int (4 : Int32)), .val (.int (0 : Int32)), .val (.double v0), .second]) rfl k) ?_
  show own_Run p e below s _ _ _ (T28.setTop (mkF m 27 #[.val (.ref o0), .val (.double (0 : UInt64)), .second, .val (.ref ar), .val (.int (4 : Int32)), .val (.int (0 : Int32)), .val (.double v0), .second] []))
  refine own_st (fun t k => XS.dloadN X28.here hx rfl (hb hby own_d4_27) rfl k) ?_
  show own_Run p e below s _ _ _ (T28.setTop (mkF m 28 #[.val (.ref o0), .val (.double (0 : UInt64)), .second, .val (.ref ar), .val (.int (4 : Int32)), .val (.int (0 : Int32)), .val (.double v0), .second] [(.double (0 : UInt64))]))
  refine own_st (fun t k => XS.dload X28.here hx rfl (hb hby own_d4_28) rfl k) ?_
  show own_Run p e below s _ _ _ (T28.setTop (mkF m 30 #[.val (.ref o0), .val (.double (0 : UInt64)), .second, .val (.ref ar), .val (.int (4 : Int32)), .val (.int (0 : Int32)), .val (.double v0), .second] [(.double v0), (.double (0 : UInt64))]))
  refine own_st (fun t k => XS.daddS X28.here hx rfl (hb hby own_d4_30) rfl (pn0) (v := (FP.dadd (0 : UInt64) v0)) (rfl) k) ?_
  show own_Run p e below s _ _ _ (T28.setTop (mkF m 31 #[.val (.ref o0), .val (.double (0 : UInt64)), .second, .val (.ref ar), .val (.int (4 : Int32)), .val (.int (0 : Int32)), .val (.double v0), .second] [(.double (FP.dadd (0 : UInt64) v0))]))
  refine own_st (fun t k => XS.dstoreN X28.here hx rfl (hb hby own_d4_31) rfl (l' := #[.val (.ref o0), .val (.double (FP.dadd (0 : UInt64) v0)), .second, .val (.ref ar), .val (.int (4 : Int32)), .val (.int (0 : Int32)), .val (.double v0), .second]) rfl k) ?_
  show own_Run p e below s _ _ _ (T28.setTop (mkF m 32 #[.val (.ref o0), .val (.double (FP.dadd (0 : UInt64) v0)), .second, .val (.ref ar), .val (.int (4 : Int32)), .val (.int (0 : Int32)), .val (.double v0), .second] []))
  refine own_st (fun t k => XS.iinc X28.here hx rfl (hb hby own_d4_32) rfl (l' := #[.val (.ref o0), .val (.double (FP.dadd (0 : UInt64) v0)), .second, .val (.ref ar), .val (.int (4 : Int32)), .val (.int (1 : Int32)), .val (.double v0), .second]) rfl k) ?_
  show own_Run p e below s _ _ _ (T28.setTop (mkF m 35 #[.val (.ref o0), .val (.double (FP.dadd (0 : UInt64) v0)), .second, .val (.ref ar), .val (.int (4 : Int32)), .val (.int (1 : Int32)), .val (.double v0), .second] []))
  refine own_st (fun t k => XS.goto X28.here hx rfl (pc0 := 35) (pc' := 14) rfl (hb hby own_d4_35) (by decide) (by decide) k) ?_
  show own_Run p e below s _ _ _ (T28.setTop (mkF m 14 #[.val (.ref o0), .val (.double (FP.dadd (0 : UInt64) v0)), .second, .val (.ref ar), .val (.int (4 : Int32)), .val (.int (1 : Int32)), .val (.double v0), .second] []))
  refine own_st (fun t k => XS.iload X28.here hx rfl (hb hby own_d4_14) rfl k) ?_
  show own_Run p e below s _ _ _ (T28.setTop (mkF m 16 #[.val (.ref o0), .val (.double (FP.dadd (0 : UInt64) v0)), .second, .val (.ref ar), .val (.int (4 : Int32)), .val (.int (1 : Int32)), .val (.double v0), .second] [(.int (1 : Int32))]))
  refine own_st (fun t k => XS.iload X28.here hx rfl (hb hby own_d4_16) rfl k) ?_
  show own_Run p e below s _ _ _ (T28.setTop (mkF m 18 #[.val (.ref o0), .val (.double (FP.dadd (0 : UInt64) v0)), .second, .val (.ref ar), .val (.int (4 : Int32)), .val (.int (1 : Int32)), .val (.double v0), .second] [(.int (4 : Int32)), (.int (1 : Int32))]))
  refine own_st (fun t k => XS.icmpNo X28.here hx rfl (hb hby own_d4_18) rfl (tlt (by decide : (1 : Int32) < (4 : Int32))).2.1 k) ?_
  show own_Run p e below s _ _ _ (T28.setTop (mkF m 21 #[.val (.ref o0), .val (.double (FP.dadd (0 : UInt64) v0)), .second, .val (.ref ar), .val (.int (4 : Int32)), .val (.int (1 : Int32)), .val (.double v0), .second] []))
  refine own_st (fun t k => XS.aloadN X28.here hx rfl (hb hby own_d4_21) rfl rfl k) ?_
  show own_Run p e below s _ _ _ (T28.setTop (mkF m 22 #[.val (.ref o0), .val (.double (FP.dadd (0 : UInt64) v0)), .second, .val (.ref ar), .val (.int (4 : Int32)), .val (.int (1 : Int32)), .val (.double v0), .second] [(.ref ar)]))
  refine own_st (fun t k => XS.iload X28.here hx rfl (hb hby own_d4_22) rfl k) ?_
  show own_Run p e below s _ _ _ (T28.setTop (mkF m 24 #[.val (.ref o0), .val (.double (FP.dadd (0 : UInt64) v0)), .second, .val (.ref ar), .val (.int (4 : Int32)), .val (.int (1 : Int32)), .val (.double v0), .second] [(.int (1 : Int32)), (.ref ar)]))
  obtain ⟨cl31, Ar31, -, S31, N31, H31, G31⟩ := id A_v
  have hin31 : ¬ ((1 : Int32) < 0 ∨ cl31.slots.size ≤ ((1 : Int32)).toNatClampNeg) := inb_of S31 ⟨by decide, by decide⟩
  refine own_st (X28.daload hx (j := (1 : Int32)) (v := (.double v1)) (by rw [e28]; exact Ar31.1) (State.isArrayOf_alike hZ.alike Ar31.2.1) Ar31.2.2 hin31 (Has.at H31 hin31 rfl) (g := (mkF m 24 #[.val (.ref o0), .val (.double (FP.dadd (0 : UInt64) v0)), .second, .val (.ref ar), .val (.int (4 : Int32)), .val (.int (1 : Int32)), .val (.double v0), .second] [(.int (1 : Int32)), (.ref ar)])) rfl rfl (hb hby own_d4_24)) ?_
  show own_Run p e below s _ _ _ (T28.setTop (mkF m 25 #[.val (.ref o0), .val (.double (FP.dadd (0 : UInt64) v0)), .second, .val (.ref ar), .val (.int (4 : Int32)), .val (.int (1 : Int32)), .val (.double v0), .second] [(.double v1)]))
  refine own_st (fun t k => XS.dstore X28.here hx rfl (hb hby own_d4_25) rfl (l' := #[.val (.ref o0), .val (.double (FP.dadd (0 : UInt64) v0)), .second, .val (.ref ar), .val (.int (4 : Int32)), .val (.int (1 : Int32)), .val (.double v1), .second]) rfl k) ?_
  show own_Run p e below s _ _ _ (T28.setTop (mkF m 27 #[.val (.ref o0), .val (.double (FP.dadd (0 : UInt64) v0)), .second, .val (.ref ar), .val (.int (4 : Int32)), .val (.int (1 : Int32)), .val (.double v1), .second] []))
  refine own_st (fun t k => XS.dloadN X28.here hx rfl (hb hby own_d4_27) rfl k) ?_
  show own_Run p e below s _ _ _ (T28.setTop (mkF m 28 #[.val (.ref o0), .val (.double (FP.dadd (0 : UInt64) v0)), .second, .val (.ref ar), .val (.int (4 : Int32)), .val (.int (1 : Int32)), .val (.double v1), .second] [(.double (FP.dadd (0 : UInt64) v0))]))
  refine own_st (fun t k => XS.dload X28.here hx rfl (hb hby own_d4_28) rfl k) ?_
  show own_Run p e below s _ _ _ (T28.setTop (mkF m 30 #[.val (.ref o0), .val (.double (FP.dadd (0 : UInt64) v0)), .second, .val (.ref ar), .val (.int (4 : Int32)), .val (.int (1 : Int32)), .val (.double v1), .second] [(.double v1), (.double (FP.dadd (0 : UInt64) v0))]))
  refine own_st (fun t k => XS.daddS X28.here hx rfl (hb hby own_d4_30) rfl (pn1) (v := (FP.dadd (FP.dadd (0 : UInt64) v0) v1)) (rfl) k) ?_
  show own_Run p e below s _ _ _ (T28.setTop (mkF m 31 #[.val (.ref o0), .val (.double (FP.dadd (0 : UInt64) v0)), .second, .val (.ref ar), .val (.int (4 : Int32)), .val (.int (1 : Int32)), .val (.double v1), .second] [(.double (FP.dadd (FP.dadd (0 : UInt64) v0) v1))]))
  refine own_st (fun t k => XS.dstoreN X28.here hx rfl (hb hby own_d4_31) rfl (l' := #[.val (.ref o0), .val (.double (FP.dadd (FP.dadd (0 : UInt64) v0) v1)), .second, .val (.ref ar), .val (.int (4 : Int32)), .val (.int (1 : Int32)), .val (.double v1), .second]) rfl k) ?_
  show own_Run p e below s _ _ _ (T28.setTop (mkF m 32 #[.val (.ref o0), .val (.double (FP.dadd (FP.dadd (0 : UInt64) v0) v1)), .second, .val (.ref ar), .val (.int (4 : Int32)), .val (.int (1 : Int32)), .val (.double v1), .second] []))
  refine own_st (fun t k => XS.iinc X28.here hx rfl (hb hby own_d4_32) rfl (l' := #[.val (.ref o0), .val (.double (FP.dadd (FP.dadd (0 : UInt64) v0) v1)), .second, .val (.ref ar), .val (.int (4 : Int32)), .val (.int (2 : Int32)), .val (.double v1), .second]) rfl k) ?_
  show own_Run p e below s _ _ _ (T28.setTop (mkF m 35 #[.val (.ref o0), .val (.double (FP.dadd (FP.dadd (0 : UInt64) v0) v1)), .second, .val (.ref ar), .val (.int (4 : Int32)), .val (.int (2 : Int32)), .val (.double v1), .second] []))
  refine own_st (fun t k => XS.goto X28.here hx rfl (pc0 := 35) (pc' := 14) rfl (hb hby own_d4_35) (by decide) (by decide) k) ?_
  show own_Run p e below s _ _ _ (T28.setTop (mkF m 14 #[.val (.ref o0), .val (.double (FP.dadd (FP.dadd (0 : UInt64) v0) v1)), .second, .val (.ref ar), .val (.int (4 : Int32)), .val (.int (2 : Int32)), .val (.double v1), .second] []))
  refine own_st (fun t k => XS.iload X28.here hx rfl (hb hby own_d4_14) rfl k) ?_
  show own_Run p e below s _ _ _ (T28.setTop (mkF m 16 #[.val (.ref o0), .val (.double (FP.dadd (FP.dadd (0 : UInt64) v0) v1)), .second, .val (.ref ar), .val (.int (4 : Int32)), .val (.int (2 : Int32)), .val (.double v1), .second] [(.int (2 : Int32))]))
  refine own_st (fun t k => XS.iload X28.here hx rfl (hb hby own_d4_16) rfl k) ?_
  show own_Run p e below s _ _ _ (T28.setTop (mkF m 18 #[.val (.ref o0), .val (.double (FP.dadd (FP.dadd (0 : UInt64) v0) v1)), .second, .val (.ref ar), .val (.int (4 : Int32)), .val (.int (2 : Int32)), .val (.double v1), .second] [(.int (4 : Int32)), (.int (2 : Int32))]))
  refine own_st (fun t k => XS.icmpNo X28.here hx rfl (hb hby own_d4_18) rfl (tlt (by decide : (2 : Int32) < (4 : Int32))).2.1 k) ?_
  show own_Run p e below s _ _ _ (T28.setTop (mkF m 21 #[.val (.ref o0), .val (.double (FP.dadd (FP.dadd (0 : UInt64) v0) v1)), .second, .val (.ref ar), .val (.int (4 : Int32)), .val (.int (2 : Int32)), .val (.double v1), .second] []))
  refine own_st (fun t k => XS.aloadN X28.here hx rfl (hb hby own_d4_21) rfl rfl k) ?_
  show own_Run p e below s _ _ _ (T28.setTop (mkF m 22 #[.val (.ref o0), .val (.double (FP.dadd (FP.dadd (0 : UInt64) v0) v1)), .second, .val (.ref ar), .val (.int (4 : Int32)), .val (.int (2 : Int32)), .val (.double v1), .second] [(.ref ar)]))
  refine own_st (fun t k => XS.iload X28.here hx rfl (hb hby own_d4_22) rfl k) ?_
  show own_Run p e below s _ _ _ (T28.setTop (mkF m 24 #[.val (.ref o0), .val (.double (FP.dadd (FP.dadd (0 : UInt64) v0) v1)), .second, .val (.ref ar), .val (.int (4 : Int32)), .val (.int (2 : Int32)), .val (.double v1), .second] [(.int (2 : Int32)), (.ref ar)]))
  obtain ⟨cl32, Ar32, -, S32, N32, H32, G32⟩ := id A_v
  have hin32 : ¬ ((2 : Int32) < 0 ∨ cl32.slots.size ≤ ((2 : Int32)).toNatClampNeg) := inb_of S32 ⟨by decide, by decide⟩
  refine own_st (X28.daload hx (j := (2 : Int32)) (v := (.double v2)) (by rw [e28]; exact Ar32.1) (State.isArrayOf_alike hZ.alike Ar32.2.1) Ar32.2.2 hin32 (Has.at H32 hin32 rfl) (g := (mkF m 24 #[.val (.ref o0), .val (.double (FP.dadd (FP.dadd (0 : UInt64) v0) v1)), .second, .val (.ref ar), .val (.int (4 : Int32)), .val (.int (2 : Int32)), .val (.double v1), .second] [(.int (2 : Int32)), (.ref ar)])) rfl rfl (hb hby own_d4_24)) ?_
  show own_Run p e below s _ _ _ (T28.setTop (mkF m 25 #[.val (.ref o0), .val (.double (FP.dadd (FP.dadd (0 : UInt64) v0) v1)), .second, .val (.ref ar), .val (.int (4 : Int32)), .val (.int (2 : Int32)), .val (.double v1), .second] [(.double v2)]))
  refine own_st (fun t k => XS.dstore X28.here hx rfl (hb hby own_d4_25) rfl (l' := #[.val (.ref o0), .val (.double (FP.dadd (FP.dadd (0 : UInt64) v0) v1)), .second, .val (.ref ar), .val (.int (4 : Int32)), .val (.int (2 : Int32)), .val (.double v2), .second]) rfl k) ?_
  show own_Run p e below s _ _ _ (T28.setTop (mkF m 27 #[.val (.ref o0), .val (.double (FP.dadd (FP.dadd (0 : UInt64) v0) v1)), .second, .val (.ref ar), .val (.int (4 : Int32)), .val (.int (2 : Int32)), .val (.double v2), .second] []))
  refine own_st (fun t k => XS.dloadN X28.here hx rfl (hb hby own_d4_27) rfl k) ?_
  show own_Run p e below s _ _ _ (T28.setTop (mkF m 28 #[.val (.ref o0), .val (.double (FP.dadd (FP.dadd (0 : UInt64) v0) v1)), .second, .val (.ref ar), .val (.int (4 : Int32)), .val (.int (2 : Int32)), .val (.double v2), .second] [(.double (FP.dadd (FP.dadd (0 : UInt64) v0) v1))]))
  refine own_st (fun t k => XS.dload X28.here hx rfl (hb hby own_d4_28) rfl k) ?_
  show own_Run p e below s _ _ _ (T28.setTop (mkF m 30 #[.val (.ref o0), .val (.double (FP.dadd (FP.dadd (0 : UInt64) v0) v1)), .second, .val (.ref ar), .val (.int (4 : Int32)), .val (.int (2 : Int32)), .val (.double v2), .second] [(.double v2), (.double (FP.dadd (FP.dadd (0 : UInt64) v0) v1))]))
  refine own_st (fun t k => XS.daddS X28.here hx rfl (hb hby own_d4_30) rfl (pn2) (v := (FP.dadd (FP.dadd (FP.dadd (0 : UInt64) v0) v1) v2)) (rfl) k) ?_
  show own_Run p e below s _ _ _ (T28.setTop (mkF m 31 #[.val (.ref o0), .val (.double (FP.dadd (FP.dadd (0 : UInt64) v0) v1)), .second, .val (.ref ar), .val (.int (4 : Int32)), .val (.int (2 : Int32)), .val (.double v2), .second] [(.double (FP.dadd (FP.dadd (FP.dadd (0 : UInt64) v0) v1) v2))]))
  refine own_st (fun t k => XS.dstoreN X28.here hx rfl (hb hby own_d4_31) rfl (l' := #[.val (.ref o0), .val (.double (FP.dadd (FP.dadd (FP.dadd (0 : UInt64) v0) v1) v2)), .second, .val (.ref ar), .val (.int (4 : Int32)), .val (.int (2 : Int32)), .val (.double v2), .second]) rfl k) ?_
  show own_Run p e below s _ _ _ (T28.setTop (mkF m 32 #[.val (.ref o0), .val (.double (FP.dadd (FP.dadd (FP.dadd (0 : UInt64) v0) v1) v2)), .second, .val (.ref ar), .val (.int (4 : Int32)), .val (.int (2 : Int32)), .val (.double v2), .second] []))
  refine own_st (fun t k => XS.iinc X28.here hx rfl (hb hby own_d4_32) rfl (l' := #[.val (.ref o0), .val (.double (FP.dadd (FP.dadd (FP.dadd (0 : UInt64) v0) v1) v2)), .second, .val (.ref ar), .val (.int (4 : Int32)), .val (.int (3 : Int32)), .val (.double v2), .second]) rfl k) ?_
  show own_Run p e below s _ _ _ (T28.setTop (mkF m 35 #[.val (.ref o0), .val (.double (FP.dadd (FP.dadd (FP.dadd (0 : UInt64) v0) v1) v2)), .second, .val (.ref ar), .val (.int (4 : Int32)), .val (.int (3 : Int32)), .val (.double v2), .second] []))
  refine own_st (fun t k => XS.goto X28.here hx rfl (pc0 := 35) (pc' := 14) rfl (hb hby own_d4_35) (by decide) (by decide) k) ?_
  show own_Run p e below s _ _ _ (T28.setTop (mkF m 14 #[.val (.ref o0), .val (.double (FP.dadd (FP.dadd (FP.dadd (0 : UInt64) v0) v1) v2)), .second, .val (.ref ar), .val (.int (4 : Int32)), .val (.int (3 : Int32)), .val (.double v2), .second] []))
  refine own_st (fun t k => XS.iload X28.here hx rfl (hb hby own_d4_14) rfl k) ?_
  show own_Run p e below s _ _ _ (T28.setTop (mkF m 16 #[.val (.ref o0), .val (.double (FP.dadd (FP.dadd (FP.dadd (0 : UInt64) v0) v1) v2)), .second, .val (.ref ar), .val (.int (4 : Int32)), .val (.int (3 : Int32)), .val (.double v2), .second] [(.int (3 : Int32))]))
  refine own_st (fun t k => XS.iload X28.here hx rfl (hb hby own_d4_16) rfl k) ?_
  show own_Run p e below s _ _ _ (T28.setTop (mkF m 18 #[.val (.ref o0), .val (.double (FP.dadd (FP.dadd (FP.dadd (0 : UInt64) v0) v1) v2)), .second, .val (.ref ar), .val (.int (4 : Int32)), .val (.int (3 : Int32)), .val (.double v2), .second] [(.int (4 : Int32)), (.int (3 : Int32))]))
  refine own_st (fun t k => XS.icmpNo X28.here hx rfl (hb hby own_d4_18) rfl (tlt (by decide : (3 : Int32) < (4 : Int32))).2.1 k) ?_
  show own_Run p e below s _ _ _ (T28.setTop (mkF m 21 #[.val (.ref o0), .val (.double (FP.dadd (FP.dadd (FP.dadd (0 : UInt64) v0) v1) v2)), .second, .val (.ref ar), .val (.int (4 : Int32)), .val (.int (3 : Int32)), .val (.double v2), .second] []))
  refine own_st (fun t k => XS.aloadN X28.here hx rfl (hb hby own_d4_21) rfl rfl k) ?_
  show own_Run p e below s _ _ _ (T28.setTop (mkF m 22 #[.val (.ref o0), .val (.double (FP.dadd (FP.dadd (FP.dadd (0 : UInt64) v0) v1) v2)), .second, .val (.ref ar), .val (.int (4 : Int32)), .val (.int (3 : Int32)), .val (.double v2), .second] [(.ref ar)]))
  refine own_st (fun t k => XS.iload X28.here hx rfl (hb hby own_d4_22) rfl k) ?_
  show own_Run p e below s _ _ _ (T28.setTop (mkF m 24 #[.val (.ref o0), .val (.double (FP.dadd (FP.dadd (FP.dadd (0 : UInt64) v0) v1) v2)), .second, .val (.ref ar), .val (.int (4 : Int32)), .val (.int (3 : Int32)), .val (.double v2), .second] [(.int (3 : Int32)), (.ref ar)]))
  obtain ⟨cl33, Ar33, -, S33, N33, H33, G33⟩ := id A_v
  have hin33 : ¬ ((3 : Int32) < 0 ∨ cl33.slots.size ≤ ((3 : Int32)).toNatClampNeg) := inb_of S33 ⟨by decide, by decide⟩
  refine own_st (X28.daload hx (j := (3 : Int32)) (v := (.double v3)) (by rw [e28]; exact Ar33.1) (State.isArrayOf_alike hZ.alike Ar33.2.1) Ar33.2.2 hin33 (Has.at H33 hin33 rfl) (g := (mkF m 24 #[.val (.ref o0), .val (.double (FP.dadd (FP.dadd (FP.dadd (0 : UInt64) v0) v1) v2)), .second, .val (.ref ar), .val (.int (4 : Int32)), .val (.int (3 : Int32)), .val (.double v2), .second] [(.int (3 : Int32)), (.ref ar)])) rfl rfl (hb hby own_d4_24)) ?_
  show own_Run p e below s _ _ _ (T28.setTop (mkF m 25 #[.val (.ref o0), .val (.double (FP.dadd (FP.dadd (FP.dadd (0 : UInt64) v0) v1) v2)), .second, .val (.ref ar), .val (.int (4 : Int32)), .val (.int (3 : Int32)), .val (.double v2), .second] [(.double v3)]))
  refine own_st (fun t k => XS.dstore X28.here hx rfl (hb hby own_d4_25) rfl (l' := #[.val (.ref o0), .val (.double (FP.dadd (FP.dadd (FP.dadd (0 : UInt64) v0) v1) v2)), .second, .val (.ref ar), .val (.int (4 : Int32)), .val (.int (3 : Int32)), .val (.double v3), .second]) rfl k) ?_
  show own_Run p e below s _ _ _ (T28.setTop (mkF m 27 #[.val (.ref o0), .val (.double (FP.dadd (FP.dadd (FP.dadd (0 : UInt64) v0) v1) v2)), .second, .val (.ref ar), .val (.int (4 : Int32)), .val (.int (3 : Int32)), .val (.double v3), .second] []))
  refine own_st (fun t k => XS.dloadN X28.here hx rfl (hb hby own_d4_27) rfl k) ?_
  show own_Run p e below s _ _ _ (T28.setTop (mkF m 28 #[.val (.ref o0), .val (.double (FP.dadd (FP.dadd (FP.dadd (0 : UInt64) v0) v1) v2)), .second, .val (.ref ar), .val (.int (4 : Int32)), .val (.int (3 : Int32)), .val (.double v3), .second] [(.double (FP.dadd (FP.dadd (FP.dadd (0 : UInt64) v0) v1) v2))]))
  refine own_st (fun t k => XS.dload X28.here hx rfl (hb hby own_d4_28) rfl k) ?_
  show own_Run p e below s _ _ _ (T28.setTop (mkF m 30 #[.val (.ref o0), .val (.double (FP.dadd (FP.dadd (FP.dadd (0 : UInt64) v0) v1) v2)), .second, .val (.ref ar), .val (.int (4 : Int32)), .val (.int (3 : Int32)), .val (.double v3), .second] [(.double v3), (.double (FP.dadd (FP.dadd (FP.dadd (0 : UInt64) v0) v1) v2))]))
  refine own_st (fun t k => XS.daddS X28.here hx rfl (hb hby own_d4_30) rfl (pn3) (v := (FP.dadd (FP.dadd (FP.dadd (FP.dadd (0 : UInt64) v0) v1) v2) v3)) (rfl) k) ?_
  show own_Run p e below s _ _ _ (T28.setTop (mkF m 31 #[.val (.ref o0), .val (.double (FP.dadd (FP.dadd (FP.dadd (0 : UInt64) v0) v1) v2)), .second, .val (.ref ar), .val (.int (4 : Int32)), .val (.int (3 : Int32)), .val (.double v3), .second] [(.double (FP.dadd (FP.dadd (FP.dadd (FP.dadd (0 : UInt64) v0) v1) v2) v3))]))
  refine own_st (fun t k => XS.dstoreN X28.here hx rfl (hb hby own_d4_31) rfl (l' := #[.val (.ref o0), .val (.double (FP.dadd (FP.dadd (FP.dadd (FP.dadd (0 : UInt64) v0) v1) v2) v3)), .second, .val (.ref ar), .val (.int (4 : Int32)), .val (.int (3 : Int32)), .val (.double v3), .second]) rfl k) ?_
  show own_Run p e below s _ _ _ (T28.setTop (mkF m 32 #[.val (.ref o0), .val (.double (FP.dadd (FP.dadd (FP.dadd (FP.dadd (0 : UInt64) v0) v1) v2) v3)), .second, .val (.ref ar), .val (.int (4 : Int32)), .val (.int (3 : Int32)), .val (.double v3), .second] []))
  refine own_st (fun t k => XS.iinc X28.here hx rfl (hb hby own_d4_32) rfl (l' := #[.val (.ref o0), .val (.double (FP.dadd (FP.dadd (FP.dadd (FP.dadd (0 : UInt64) v0) v1) v2) v3)), .second, .val (.ref ar), .val (.int (4 : Int32)), .val (.int (4 : Int32)), .val (.double v3), .second]) rfl k) ?_
  show own_Run p e below s _ _ _ (T28.setTop (mkF m 35 #[.val (.ref o0), .val (.double (FP.dadd (FP.dadd (FP.dadd (FP.dadd (0 : UInt64) v0) v1) v2) v3)), .second, .val (.ref ar), .val (.int (4 : Int32)), .val (.int (4 : Int32)), .val (.double v3), .second] []))
  refine own_st (fun t k => XS.goto X28.here hx rfl (pc0 := 35) (pc' := 14) rfl (hb hby own_d4_35) (by decide) (by decide) k) ?_
  show own_Run p e below s _ _ _ (T28.setTop (mkF m 14 #[.val (.ref o0), .val (.double (FP.dadd (FP.dadd (FP.dadd (FP.dadd (0 : UInt64) v0) v1) v2) v3)), .second, .val (.ref ar), .val (.int (4 : Int32)), .val (.int (4 : Int32)), .val (.double v3), .second] []))
  refine own_st (fun t k => XS.iload X28.here hx rfl (hb hby own_d4_14) rfl k) ?_
  show own_Run p e below s _ _ _ (T28.setTop (mkF m 16 #[.val (.ref o0), .val (.double (FP.dadd (FP.dadd (FP.dadd (FP.dadd (0 : UInt64) v0) v1) v2) v3)), .second, .val (.ref ar), .val (.int (4 : Int32)), .val (.int (4 : Int32)), .val (.double v3), .second] [(.int (4 : Int32))]))
  refine own_st (fun t k => XS.iload X28.here hx rfl (hb hby own_d4_16) rfl k) ?_
  show own_Run p e below s _ _ _ (T28.setTop (mkF m 18 #[.val (.ref o0), .val (.double (FP.dadd (FP.dadd (FP.dadd (FP.dadd (0 : UInt64) v0) v1) v2) v3)), .second, .val (.ref ar), .val (.int (4 : Int32)), .val (.int (4 : Int32)), .val (.double v3), .second] [(.int (4 : Int32)), (.int (4 : Int32))]))
  refine own_st (fun t k => XS.icmpYes X28.here hx rfl (pc0 := 18) (pc' := 38) rfl (hb hby own_d4_18) rfl (flt (by decide : ¬ ((4 : Int32) < (4 : Int32)))).2.1 (by decide) (by decide) k) ?_
  show own_Run p e below s _ _ _ (T28.setTop (mkF m 38 #[.val (.ref o0), .val (.double (FP.dadd (FP.dadd (FP.dadd (FP.dadd (0 : UInt64) v0) v1) v2) v3)), .second, .val (.ref ar), .val (.int (4 : Int32)), .val (.int (4 : Int32)), .val (.double v3), .second] []))
  refine own_st (fun t k => XS.dloadN X28.here hx rfl (hb hby own_d4_38) rfl k) ?_
  show own_Run p e below s _ _ _ (T28.setTop (mkF m 39 #[.val (.ref o0), .val (.double (FP.dadd (FP.dadd (FP.dadd (FP.dadd (0 : UInt64) v0) v1) v2) v3)), .second, .val (.ref ar), .val (.int (4 : Int32)), .val (.int (4 : Int32)), .val (.double v3), .second] [(.double (FP.dadd (FP.dadd (FP.dadd (FP.dadd (0 : UInt64) v0) v1) v2) v3))]))
  exact own_ret X28 hx hlk (t := .double) hret rfl (Or.inr (Or.inr (Or.inl ⟨rfl, rfl, _, rfl⟩))) (hb hby own_d4_39) (by decide) (by decide) ⟨rfl, N0, e28⟩
theorem own_pd3 : parseMethodDescriptor "([I[D)V" = some ⟨[(.array .int), (.array .double)], none⟩ := by decide +kernel
theorem own_pd4 : parseMethodDescriptor "()D" = some ⟨[], some .double⟩ := by decide +kernel
set_option maxHeartbeats 4000000 in
theorem own_ef0 (m : MethodId) (x0 : Int32) (x1 : Int32) (x2 : Int32) (x3 : Int32) (x4 : Int32) : entryFrame m #[(.int x0), (.int x1), (.int x2), (.int x3), (.int x4)] maxLocals = mkF m 0 #[.val (.int x0), .val (.int x1), .val (.int x2), .val (.int x3), .val (.int x4), .unset, .unset, .unset, .unset, .unset, .unset] [] := by first | (simp [entryFrame, mkF, argsToLocals, Value.category, maxLocals]; done) | rfl
theorem own_pn5 : plainName "com/example/usurf/usurf/WeightsSumPinLaw" = true := by first | (simp [plainName, overriddenIn]; done) | decide +kernel
def own_Q0 (Z : State) (a0 : Array Value) (i0 : Int32) (i1 : Int32) (i2 : Int32) (i3 : Int32) (i4 : Int32) (h0 : Heap) (n0 : Nat) (v : Option Value) (h : Heap) (L : List Loc) : Prop := v = some (.int 1) ∧ Fr n0 L
set_option maxRecDepth 65536 in
set_option maxHeartbeats 40000000 in
theorem own_rm0 (l : Launch) (Z : State) (a0 : Array Value) (hw : ∀ d ∈ tables_1, d.before a0 Z = true) (ws : List Jvm.Cond) (i0 : Int32) (i1 : Int32) (i2 : Int32) (i3 : Int32) (i4 : Int32) (h0 : Heap) (n0 : Nat) (Z0 : n0 ≤ h0.size) (O0 : Old Z n0 h0) :
    MetFree l x (head1 (Jvm.Cond.code x code maxLocals ret :: ws) room_1) (fun a U => a = #[(.int i0), (.int i1), (.int i2), (.int i3), (.int i4)] ∧ Z.Warmed39 U.vm ∧ U.heap = h0) (fun _ _ _ _ _ => True) (fun _ U o U' => ∃ v L, o = .returned v ∧ own_Q0 Z a0 i0 i1 i2 i3 i4 h0 n0 v U'.heap L ∧ FrameEnd U o U' L room_1.cells room_1.slots) := by
  refine own_body (Q := fun v h L => own_Q0 Z a0 i0 i1 i2 i3 i4 h0 n0 v h L) (plainFor_of_name own_pn5) ?_
  intro p e s m below meth c s₁ hx hby hml hZ hown hnm hret hlk X0 e0
  replace hml : c.maxLocals = 11 := hml
  replace hown : s.vm.findClass "com/example/usurf/usurf/WeightsSumPinLaw" = some m.cls := hown
  have N0 := Fr.nil n0
  have K0 : Keep h0 h0 [] := Keep.refl _ _
  refine own_st (fun t k => castTop (own_ef0 m i0 i1 i2 i3 i4) k) ?_
  show own_Run p e below s _ _ _ (s₁.setTop (mkF m 0 #[.val (.int i0), .val (.int i1), .val (.int i2), .val (.int i3), .val (.int i4), .unset, .unset, .unset, .unset, .unset, .unset] []))
  refine own_st (fun t k => XS.iloadN X0.here hx rfl (hb hby at_0) rfl k) ?_
  show own_Run p e below s _ _ _ (s₁.setTop (mkF m 1 #[.val (.int i0), .val (.int i1), .val (.int i2), .val (.int i3), .val (.int i4), .unset, .unset, .unset, .unset, .unset, .unset] [(.int i0)]))
  refine own_st (X0.ldcInt hx hown (mvT hZ (hw _ (List.mem_of_getElem? (i := 0) rfl))) (g := (mkF m 1 #[.val (.int i0), .val (.int i1), .val (.int i2), .val (.int i3), .val (.int i4), .unset, .unset, .unset, .unset, .unset, .unset] [(.int i0)])) rfl (hb hby at_1)) ?_
  show own_Run p e below s _ _ _ (s₁.setTop (mkF m 3 #[.val (.int i0), .val (.int i1), .val (.int i2), .val (.int i3), .val (.int i4), .unset, .unset, .unset, .unset, .unset, .unset] [(.int (2147483647 : Int32)), (.int i0)]))
  refine own_st (fun t k => XS.iand X0.here hx rfl (hb hby at_3) rfl k) ?_
  show own_Run p e below s _ _ _ (s₁.setTop (mkF m 4 #[.val (.int i0), .val (.int i1), .val (.int i2), .val (.int i3), .val (.int i4), .unset, .unset, .unset, .unset, .unset, .unset] [(.int (i0 &&& (2147483647 : Int32)))]))
  refine own_st (fun t k => XS.iconst X0.here hx rfl (hb hby at_4) k) ?_
  show own_Run p e below s _ _ _ (s₁.setTop (mkF m 5 #[.val (.int i0), .val (.int i1), .val (.int i2), .val (.int i3), .val (.int i4), .unset, .unset, .unset, .unset, .unset, .unset] [(.int (5 : Int32)), (.int (i0 &&& (2147483647 : Int32)))]))
  refine own_st (fun t k => iremM X0 hx rfl (hb hby at_5) rfl (by decide) k) ?_
  show own_Run p e below s _ _ _ (s₁.setTop (mkF m 6 #[.val (.int i0), .val (.int i1), .val (.int i2), .val (.int i3), .val (.int i4), .unset, .unset, .unset, .unset, .unset, .unset] [(.int ((i0 &&& (2147483647 : Int32)) % (5 : Int32)))]))
  obtain ⟨n, h_n⟩ : ∃ z, (((i0 &&& (2147483647 : Int32)) % (5 : Int32)) : Int32) = z := ⟨_, rfl⟩
  refine own_topI h_n ?_
  show own_Run p e below s _ _ _ (s₁.setTop (mkF m 6 #[.val (.int i0), .val (.int i1), .val (.int i2), .val (.int i3), .val (.int i4), .unset, .unset, .unset, .unset, .unset, .unset] [(.int n)]))
  rcases own_five i0 h_n with hn | hn | hn | hn | hn
  · refine own_topI hn ?_
    show own_Run p e below s _ _ _ (s₁.setTop (mkF m 6 #[.val (.int i0), .val (.int i1), .val (.int i2), .val (.int i3), .val (.int i4), .unset, .unset, .unset, .unset, .unset, .unset] [(.int (0 : Int32))]))
    refine own_st (fun t k => XS.istore X0.here hx rfl (hb hby at_6) rfl (l' := #[.val (.int i0), .val (.int i1), .val (.int i2), .val (.int i3), .val (.int i4), .val (.int (0 : Int32)), .unset, .unset, .unset, .unset, .unset]) rfl k) ?_
    show own_Run p e below s _ _ _ (s₁.setTop (mkF m 8 #[.val (.int i0), .val (.int i1), .val (.int i2), .val (.int i3), .val (.int i4), .val (.int (0 : Int32)), .unset, .unset, .unset, .unset, .unset] []))
    refine own_st (fun t k => XS.iload X0.here hx rfl (hb hby at_8) rfl k) ?_
    show own_Run p e below s _ _ _ (s₁.setTop (mkF m 10 #[.val (.int i0), .val (.int i1), .val (.int i2), .val (.int i3), .val (.int i4), .val (.int (0 : Int32)), .unset, .unset, .unset, .unset, .unset] [(.int (0 : Int32))]))
    obtain ⟨T34, h34, k34, X34, e34, E34, A34, st34⟩ := newP X0 hx hZ (hw _ (List.mem_of_getElem? (i := 1) rfl)) e0 (g := (mkF m 10 #[.val (.int i0), .val (.int i1), .val (.int i2), .val (.int i3), .val (.int i4), .val (.int (0 : Int32)), .unset, .unset, .unset, .unset, .unset] [(.int (0 : Int32))])) rfl (hb hby at_10) rfl (by decide) (cap := 0) (by decide) (by decide) (by decide) (by decide)
    obtain ⟨b34, g34⟩ : ∃ z, z = h0.size := ⟨_, rfl⟩
    rw [← g34] at A34 st34
    have sz35 : h0.size ≤ b34 := Nat.le_trans K0.1 (Nat.le_of_eq g34.symm)
    have ge36 : n0 ≤ b34 := Nat.le_trans Z0 sz35
    refine own_st st34 ?_
    have V34 : Arv Z h34 b34 k34 .double (0 : Int32) [] (.double (0 : UInt64)) := (Arv.new A34 (by decide))
    have K37 : Keep h0 h34 [] := K0.ext E34
    have O38 := O0.ext E34
    show own_Run p e below s _ _ _ (T34.setTop (mkF m 12 #[.val (.int i0), .val (.int i1), .val (.int i2), .val (.int i3), .val (.int i4), .val (.int (0 : Int32)), .unset, .unset, .unset, .unset, .unset] [(.ref b34)]))
    refine own_st (fun t k => XS.astore X34.here hx rfl (hb hby at_12) rfl rfl (l' := #[.val (.int i0), .val (.int i1), .val (.int i2), .val (.int i3), .val (.int i4), .val (.int (0 : Int32)), .val (.ref b34), .unset, .unset, .unset, .unset]) rfl k) ?_
    show own_Run p e below s _ _ _ (T34.setTop (mkF m 14 #[.val (.int i0), .val (.int i1), .val (.int i2), .val (.int i3), .val (.int i4), .val (.int (0 : Int32)), .val (.ref b34), .unset, .unset, .unset, .unset] []))
    refine own_st (fun t k => XS.iload X34.here hx rfl (hb hby at_14) rfl k) ?_
    show own_Run p e below s _ _ _ (T34.setTop (mkF m 16 #[.val (.int i0), .val (.int i1), .val (.int i2), .val (.int i3), .val (.int i4), .val (.int (0 : Int32)), .val (.ref b34), .unset, .unset, .unset, .unset] [(.int (0 : Int32))]))
    obtain ⟨T39, h39, k39, X39, e39, E39, A39, st39⟩ := newP X34 hx hZ (hw _ (List.mem_of_getElem? (i := 2) rfl)) e34 (g := (mkF m 16 #[.val (.int i0), .val (.int i1), .val (.int i2), .val (.int i3), .val (.int i4), .val (.int (0 : Int32)), .val (.ref b34), .unset, .unset, .unset, .unset] [(.int (0 : Int32))])) rfl (hb hby at_16) rfl (by decide) (cap := 0) (by decide) (by decide) (by decide) (by decide)
    obtain ⟨b39, g39⟩ : ∃ z, z = h34.size := ⟨_, rfl⟩
    rw [← g39] at A39 st39
    have sz40 : h0.size ≤ b39 := Nat.le_trans K37.1 (Nat.le_of_eq g39.symm)
    have ge41 : n0 ≤ b39 := Nat.le_trans Z0 sz40
    refine own_st st39 ?_
    have V39 : Arv Z h39 b39 k39 .int (0 : Int32) [] (.int (0 : Int32)) := (Arv.new A39 (by decide))
    have K42 : Keep h0 h39 [] := K37.ext E39
    have O43 := O38.ext E39
    show own_Run p e below s _ _ _ (T39.setTop (mkF m 18 #[.val (.int i0), .val (.int i1), .val (.int i2), .val (.int i3), .val (.int i4), .val (.int (0 : Int32)), .val (.ref b34), .unset, .unset, .unset, .unset] [(.ref b39)]))
    refine own_st (fun t k => XS.astore X39.here hx rfl (hb hby at_18) rfl rfl (l' := #[.val (.int i0), .val (.int i1), .val (.int i2), .val (.int i3), .val (.int i4), .val (.int (0 : Int32)), .val (.ref b34), .val (.ref b39), .unset, .unset, .unset]) rfl k) ?_
    show own_Run p e below s _ _ _ (T39.setTop (mkF m 20 #[.val (.int i0), .val (.int i1), .val (.int i2), .val (.int i3), .val (.int i4), .val (.int (0 : Int32)), .val (.ref b34), .val (.ref b39), .unset, .unset, .unset] []))
    refine own_st (fun t k => XS.lconst X39.here hx rfl (hb hby at_20) k) ?_
    show own_Run p e below s _ _ _ (T39.setTop (mkF m 21 #[.val (.int i0), .val (.int i1), .val (.int i2), .val (.int i3), .val (.int i4), .val (.int (0 : Int32)), .val (.ref b34), .val (.ref b39), .unset, .unset, .unset] [(.long (0 : Int64))]))
    refine own_st (fun t k => XS.lstore X39.here hx rfl (hb hby at_21) rfl (l' := #[.val (.int i0), .val (.int i1), .val (.int i2), .val (.int i3), .val (.int i4), .val (.int (0 : Int32)), .val (.ref b34), .val (.ref b39), .val (.long (0 : Int64)), .second, .unset]) rfl k) ?_
    show own_Run p e below s _ _ _ (T39.setTop (mkF m 23 #[.val (.int i0), .val (.int i1), .val (.int i2), .val (.int i3), .val (.int i4), .val (.int (0 : Int32)), .val (.ref b34), .val (.ref b39), .val (.long (0 : Int64)), .second, .unset] []))
    refine own_st (fun t k => XS.iload X39.here hx rfl (hb hby at_23) rfl k) ?_
    show own_Run p e below s _ _ _ (T39.setTop (mkF m 25 #[.val (.int i0), .val (.int i1), .val (.int i2), .val (.int i3), .val (.int i4), .val (.int (0 : Int32)), .val (.ref b34), .val (.ref b39), .val (.long (0 : Int64)), .second, .unset] [(.int (0 : Int32))]))
    refine own_st (fun t k => XS.ifYes X39.here hx rfl (pc0 := 25) (pc' := 46) rfl (hb hby at_25) rfl ((if0 _ _).trans (flt (by decide : ¬ ((0 : Int32) < (0 : Int32)))).2.2.2) (by decide) (by decide) k) ?_
    show own_Run p e below s _ _ _ (T39.setTop (mkF m 46 #[.val (.int i0), .val (.int i1), .val (.int i2), .val (.int i3), .val (.int i4), .val (.int (0 : Int32)), .val (.ref b34), .val (.ref b39), .val (.long (0 : Int64)), .second, .unset] []))
    refine own_st (fun t k => XS.iload X39.here hx rfl (hb hby at_46) rfl k) ?_
    show own_Run p e below s _ _ _ (T39.setTop (mkF m 48 #[.val (.int i0), .val (.int i1), .val (.int i2), .val (.int i3), .val (.int i4), .val (.int (0 : Int32)), .val (.ref b34), .val (.ref b39), .val (.long (0 : Int64)), .second, .unset] [(.int (0 : Int32))]))
    refine own_st (fun t k => XS.iconst X39.here hx rfl (hb hby at_48) k) ?_
    show own_Run p e below s _ _ _ (T39.setTop (mkF m 49 #[.val (.int i0), .val (.int i1), .val (.int i2), .val (.int i3), .val (.int i4), .val (.int (0 : Int32)), .val (.ref b34), .val (.ref b39), .val (.long (0 : Int64)), .second, .unset] [(.int (1 : Int32)), (.int (0 : Int32))]))
    refine own_st (fun t k => XS.icmpYes X39.here hx rfl (pc0 := 49) (pc' := 70) rfl (hb hby at_49) rfl (flt (by decide : ¬ ((1 : Int32) < (0 : Int32)))).2.2.2 (by decide) (by decide) k) ?_
    show own_Run p e below s _ _ _ (T39.setTop (mkF m 70 #[.val (.int i0), .val (.int i1), .val (.int i2), .val (.int i3), .val (.int i4), .val (.int (0 : Int32)), .val (.ref b34), .val (.ref b39), .val (.long (0 : Int64)), .second, .unset] []))
    refine own_st (fun t k => XS.iload X39.here hx rfl (hb hby at_70) rfl k) ?_
    show own_Run p e below s _ _ _ (T39.setTop (mkF m 72 #[.val (.int i0), .val (.int i1), .val (.int i2), .val (.int i3), .val (.int i4), .val (.int (0 : Int32)), .val (.ref b34), .val (.ref b39), .val (.long (0 : Int64)), .second, .unset] [(.int (0 : Int32))]))
    refine own_st (fun t k => XS.iconst X39.here hx rfl (hb hby at_72) k) ?_
    show own_Run p e below s _ _ _ (T39.setTop (mkF m 73 #[.val (.int i0), .val (.int i1), .val (.int i2), .val (.int i3), .val (.int i4), .val (.int (0 : Int32)), .val (.ref b34), .val (.ref b39), .val (.long (0 : Int64)), .second, .unset] [(.int (2 : Int32)), (.int (0 : Int32))]))
    refine own_st (fun t k => XS.icmpYes X39.here hx rfl (pc0 := 73) (pc' := 94) rfl (hb hby at_73) rfl (flt (by decide : ¬ ((2 : Int32) < (0 : Int32)))).2.2.2 (by decide) (by decide) k) ?_
    show own_Run p e below s _ _ _ (T39.setTop (mkF m 94 #[.val (.int i0), .val (.int i1), .val (.int i2), .val (.int i3), .val (.int i4), .val (.int (0 : Int32)), .val (.ref b34), .val (.ref b39), .val (.long (0 : Int64)), .second, .unset] []))
    refine own_st (fun t k => XS.iload X39.here hx rfl (hb hby at_94) rfl k) ?_
    show own_Run p e below s _ _ _ (T39.setTop (mkF m 96 #[.val (.int i0), .val (.int i1), .val (.int i2), .val (.int i3), .val (.int i4), .val (.int (0 : Int32)), .val (.ref b34), .val (.ref b39), .val (.long (0 : Int64)), .second, .unset] [(.int (0 : Int32))]))
    refine own_st (fun t k => XS.iconst X39.here hx rfl (hb hby at_96) k) ?_
    show own_Run p e below s _ _ _ (T39.setTop (mkF m 97 #[.val (.int i0), .val (.int i1), .val (.int i2), .val (.int i3), .val (.int i4), .val (.int (0 : Int32)), .val (.ref b34), .val (.ref b39), .val (.long (0 : Int64)), .second, .unset] [(.int (3 : Int32)), (.int (0 : Int32))]))
    refine own_st (fun t k => XS.icmpYes X39.here hx rfl (pc0 := 97) (pc' := 120) rfl (hb hby at_97) rfl (flt (by decide : ¬ ((3 : Int32) < (0 : Int32)))).2.2.2 (by decide) (by decide) k) ?_
    show own_Run p e below s _ _ _ (T39.setTop (mkF m 120 #[.val (.int i0), .val (.int i1), .val (.int i2), .val (.int i3), .val (.int i4), .val (.int (0 : Int32)), .val (.ref b34), .val (.ref b39), .val (.long (0 : Int64)), .second, .unset] []))
    obtain ⟨T44, h44, X44, e44, E44, A44, D44, -, st44⟩ := newO X39 hx hZ hown (hw _ (List.mem_of_getElem? (i := 3) rfl)) (hw _ (List.mem_of_getElem? (i := 4) rfl)) (hw _ (List.mem_of_getElem? (i := 5) rfl)) e39 (g := (mkF m 120 #[.val (.int i0), .val (.int i1), .val (.int i2), .val (.int i3), .val (.int i4), .val (.int (0 : Int32)), .val (.ref b34), .val (.ref b39), .val (.long (0 : Int64)), .second, .unset] [])) rfl (hb hby at_120) (by decide) (by decide)
    obtain ⟨b44, g44⟩ : ∃ z, z = h39.size := ⟨_, rfl⟩
    rw [← g44] at A44 D44 st44
    have sz45 : h0.size ≤ b44 := Nat.le_trans K42.1 (Nat.le_of_eq g44.symm)
    have ge46 : n0 ≤ b44 := Nat.le_trans Z0 sz45
    refine own_st st44 ?_
    have K47 : Keep h0 h44 [] := K42.ext E44
    have O48 := O43.ext E44
    show own_Run p e below s _ _ _ (T44.setTop (mkF m 123 #[.val (.int i0), .val (.int i1), .val (.int i2), .val (.int i3), .val (.int i4), .val (.int (0 : Int32)), .val (.ref b34), .val (.ref b39), .val (.long (0 : Int64)), .second, .unset] [(.ref b44)]))
    refine own_st (fun t k => XS.dup X44.here hx rfl (hb hby at_123) rfl rfl k) ?_
    show own_Run p e below s _ _ _ (T44.setTop (mkF m 124 #[.val (.int i0), .val (.int i1), .val (.int i2), .val (.int i3), .val (.int i4), .val (.int (0 : Int32)), .val (.ref b34), .val (.ref b39), .val (.long (0 : Int64)), .second, .unset] [(.ref b44), (.ref b44)]))
    refine own_st (fun t k => XS.aload X44.here hx rfl (hb hby at_124) rfl rfl k) ?_
    show own_Run p e below s _ _ _ (T44.setTop (mkF m 126 #[.val (.int i0), .val (.int i1), .val (.int i2), .val (.int i3), .val (.int i4), .val (.int (0 : Int32)), .val (.ref b34), .val (.ref b39), .val (.long (0 : Int64)), .second, .unset] [(.ref b39), (.ref b44), (.ref b44)]))
    refine own_st (fun t k => XS.aload X44.here hx rfl (hb hby at_126) rfl rfl k) ?_
    show own_Run p e below s _ _ _ (T44.setTop (mkF m 128 #[.val (.int i0), .val (.int i1), .val (.int i2), .val (.int i3), .val (.int i4), .val (.int (0 : Int32)), .val (.ref b34), .val (.ref b39), .val (.long (0 : Int64)), .second, .unset] [(.ref b34), (.ref b39), (.ref b44), (.ref b44)]))
    refine own_callI X44 hx hZ (y := (⟨"com/example/usurf/usurf/WalkWeights$Weights", "<init>", "([I[D)V"⟩ : MethodName)) rfl hown (hw _ (List.mem_of_getElem? (i := 6) rfl)) (hw _ (List.mem_of_getElem? (i := 7) rfl)) (hw _ (List.mem_of_getElem? (i := 8) rfl)) (hw _ (List.mem_of_getElem? (i := 5) rfl)) (by decide) e44 (a := b44) (argsL := [(.ref b39), (.ref b34)]) (rest := [(.ref b44)]) (W := 1) (own_rm1 l Z a0 hw [] b44 b39 b34 h44 n0 (Nat.le_trans Z0 K47.1) A44 D44 ge46) (by decide) (by decide) (by rw [hml]; rfl) (lenOf own_pd3 rfl) rfl (by exact Nat.le_of_eq rfl) (hb hby at_128) (by decide) (by decide) ?_
    intro T49 v49 L49 X49 hq49
    obtain ⟨rfl, N49q, K49q, Q50, Q51⟩ := hq49
    have K52 : Keep h0 T49.heap [] := K47.trans K49q (allS (Or.inr sz45) all0)
    have O53 := O48.keep K49q (allS ge46 all0)
    have N49 := Fr.app N0 N49q
    show own_Run p e below s _ _ _ (T49.setTop (mkF m 131 #[.val (.int i0), .val (.int i1), .val (.int i2), .val (.int i3), .val (.int i4), .val (.int (0 : Int32)), .val (.ref b34), .val (.ref b39), .val (.long (0 : Int64)), .second, .unset] [(.ref b44)]))
    refine own_st (fun t k => XS.astore X49.here hx rfl (hb hby at_131) rfl rfl (l' := #[.val (.int i0), .val (.int i1), .val (.int i2), .val (.int i3), .val (.int i4), .val (.int (0 : Int32)), .val (.ref b34), .val (.ref b39), .val (.long (0 : Int64)), .second, .val (.ref b44)]) rfl k) ?_
    show own_Run p e below s _ _ _ (T49.setTop (mkF m 133 #[.val (.int i0), .val (.int i1), .val (.int i2), .val (.int i3), .val (.int i4), .val (.int (0 : Int32)), .val (.ref b34), .val (.ref b39), .val (.long (0 : Int64)), .second, .val (.ref b44)] []))
    have z0 := own_Z0
    have t0 : (0 : Int64).toInt = 0 := rfl
    refine own_st (fun t k => XS.aload X49.here hx rfl (hb hby at_133) rfl rfl k) ?_
    show own_Run p e below s _ _ _ (T49.setTop (mkF m 135 #[.val (.int i0), .val (.int i1), .val (.int i2), .val (.int i3), .val (.int i4), .val (.int (0 : Int32)), .val (.ref b34), .val (.ref b39), .val (.long (0 : Int64)), .second, .val (.ref b44)] [(.ref b44)]))
    have V54 := (((V34.ext E39).ext E44).keep K49q (ninS (Nat.ne_of_lt (Nat.lt_of_lt_of_le (Nat.lt_of_lt_of_le A34.lt E39.1) (Nat.le_of_eq g44.symm))) nin0))
    refine own_callV X49 hx hZ (y := (⟨"com/example/usurf/usurf/WalkWeights$Weights", "sum", "()D"⟩ : MethodName)) (C := "com/example/usurf/usurf/WalkWeights$Weights") hown (hw _ (List.mem_of_getElem? (i := 21) rfl)) (hw _ (List.mem_of_getElem? (i := 22) rfl)) (hw _ (List.mem_of_getElem? (i := 24) rfl)) (hw _ (List.mem_of_getElem? (i := 23) rfl)) (hw _ (List.mem_of_getElem? (i := 25) rfl)) (hw _ (List.mem_of_getElem? (i := 5) rfl)) (by decide) rfl (a := b44) Q50 (argsL := []) (rest := []) (W := 0) (own_rm4pn0 l Z a0 hw [] b44 b34 k34 T49.heap n0 (Nat.le_trans Z0 K52.1) Q51 V54) (by decide) (by decide) (by rw [hml]; rfl) (lenOf own_pd4 rfl) rfl (by exact Nat.le_of_eq rfl) (hb hby at_135) (by decide) (by decide) ?_
    intro T55 v55 L55 X55 hq55
    obtain ⟨rfl, N55q, hh55⟩ := hq55
    have N55 := Fr.app N49 N55q
    show own_Run p e below s _ _ _ (T55.setTop (mkF m 138 #[.val (.int i0), .val (.int i1), .val (.int i2), .val (.int i3), .val (.int i4), .val (.int (0 : Int32)), .val (.ref b34), .val (.ref b39), .val (.long (0 : Int64)), .second, .val (.ref b44)] [(.double (0 : UInt64))]))
    refine own_st (fun t k => XS.lload X55.here hx rfl (hb hby at_138) rfl k) ?_
    show own_Run p e below s _ _ _ (T55.setTop (mkF m 140 #[.val (.int i0), .val (.int i1), .val (.int i2), .val (.int i3), .val (.int i4), .val (.int (0 : Int32)), .val (.ref b34), .val (.ref b39), .val (.long (0 : Int64)), .second, .val (.ref b44)] [(.long (0 : Int64)), (.double (0 : UInt64))]))
    refine own_st (fun t k => XS.l2dS X55.here hx rfl (hb hby at_140) rfl (v := (FP.l2d (0 : Int64))) (rfl) k) ?_
    show own_Run p e below s _ _ _ (T55.setTop (mkF m 141 #[.val (.int i0), .val (.int i1), .val (.int i2), .val (.int i3), .val (.int i4), .val (.int (0 : Int32)), .val (.ref b34), .val (.ref b39), .val (.long (0 : Int64)), .second, .val (.ref b44)] [(.double (FP.l2d (0 : Int64))), (.double (0 : UInt64))]))
    refine own_st (fun t k => XS.dcmpS X55.here hx rfl (hb hby at_141) rfl (v := (0 : Int32)) (z0.cmpE (own_Z.l2d (by rw [t0]; omega)) t0.symm _) k) ?_
    show own_Run p e below s _ _ _ (T55.setTop (mkF m 142 #[.val (.int i0), .val (.int i1), .val (.int i2), .val (.int i3), .val (.int i4), .val (.int (0 : Int32)), .val (.ref b34), .val (.ref b39), .val (.long (0 : Int64)), .second, .val (.ref b44)] [(.int (0 : Int32))]))
    refine own_st (fun t k => XS.ifNo X55.here hx rfl (hb hby at_142) rfl ((if0 _ _).trans (teq (by decide : (0 : Int32) = (0 : Int32))).2) k) ?_
    show own_Run p e below s _ _ _ (T55.setTop (mkF m 145 #[.val (.int i0), .val (.int i1), .val (.int i2), .val (.int i3), .val (.int i4), .val (.int (0 : Int32)), .val (.ref b34), .val (.ref b39), .val (.long (0 : Int64)), .second, .val (.ref b44)] []))
    refine own_st (fun t k => XS.iconst X55.here hx rfl (hb hby at_145) k) ?_
    show own_Run p e below s _ _ _ (T55.setTop (mkF m 146 #[.val (.int i0), .val (.int i1), .val (.int i2), .val (.int i3), .val (.int i4), .val (.int (0 : Int32)), .val (.ref b34), .val (.ref b39), .val (.long (0 : Int64)), .second, .val (.ref b44)] [(.int (1 : Int32))]))
    refine own_st (fun t k => XS.goto X55.here hx rfl (pc0 := 146) (pc' := 150) rfl (hb hby at_146) (by decide) (by decide) k) ?_
    show own_Run p e below s _ _ _ (T55.setTop (mkF m 150 #[.val (.int i0), .val (.int i1), .val (.int i2), .val (.int i3), .val (.int i4), .val (.int (0 : Int32)), .val (.ref b34), .val (.ref b39), .val (.long (0 : Int64)), .second, .val (.ref b44)] [(.int (1 : Int32))]))
    exact own_ret X55 hx hlk (t := .boolean) hret rfl (Or.inl ⟨rfl, by simp, _, rfl⟩) (hb hby at_150) (by decide) (by decide) ⟨rfl, N55⟩
  · refine own_topI hn ?_
    show own_Run p e below s _ _ _ (s₁.setTop (mkF m 6 #[.val (.int i0), .val (.int i1), .val (.int i2), .val (.int i3), .val (.int i4), .unset, .unset, .unset, .unset, .unset, .unset] [(.int (1 : Int32))]))
    refine own_st (fun t k => XS.istore X0.here hx rfl (hb hby at_6) rfl (l' := #[.val (.int i0), .val (.int i1), .val (.int i2), .val (.int i3), .val (.int i4), .val (.int (1 : Int32)), .unset, .unset, .unset, .unset, .unset]) rfl k) ?_
    show own_Run p e below s _ _ _ (s₁.setTop (mkF m 8 #[.val (.int i0), .val (.int i1), .val (.int i2), .val (.int i3), .val (.int i4), .val (.int (1 : Int32)), .unset, .unset, .unset, .unset, .unset] []))
    refine own_st (fun t k => XS.iload X0.here hx rfl (hb hby at_8) rfl k) ?_
    show own_Run p e below s _ _ _ (s₁.setTop (mkF m 10 #[.val (.int i0), .val (.int i1), .val (.int i2), .val (.int i3), .val (.int i4), .val (.int (1 : Int32)), .unset, .unset, .unset, .unset, .unset] [(.int (1 : Int32))]))
    obtain ⟨T56, h56, k56, X56, e56, E56, A56, st56⟩ := newP X0 hx hZ (hw _ (List.mem_of_getElem? (i := 1) rfl)) e0 (g := (mkF m 10 #[.val (.int i0), .val (.int i1), .val (.int i2), .val (.int i3), .val (.int i4), .val (.int (1 : Int32)), .unset, .unset, .unset, .unset, .unset] [(.int (1 : Int32))])) rfl (hb hby at_10) rfl (by decide) (cap := 1) (by decide) (by decide) (by decide) (by decide)
    obtain ⟨b56, g56⟩ : ∃ z, z = h0.size := ⟨_, rfl⟩
    rw [← g56] at A56 st56
    have sz57 : h0.size ≤ b56 := Nat.le_trans K0.1 (Nat.le_of_eq g56.symm)
    have ge58 : n0 ≤ b56 := Nat.le_trans Z0 sz57
    refine own_st st56 ?_
    have V56 : Arv Z h56 b56 k56 .double (1 : Int32) [(.double (0 : UInt64))] (.double (0 : UInt64)) := (Arv.new A56 (by decide)).pad (pad_rep [] (.double (0 : UInt64)) 1)
    have K59 : Keep h0 h56 [] := K0.ext E56
    have O60 := O0.ext E56
    show own_Run p e below s _ _ _ (T56.setTop (mkF m 12 #[.val (.int i0), .val (.int i1), .val (.int i2), .val (.int i3), .val (.int i4), .val (.int (1 : Int32)), .unset, .unset, .unset, .unset, .unset] [(.ref b56)]))
    refine own_st (fun t k => XS.astore X56.here hx rfl (hb hby at_12) rfl rfl (l' := #[.val (.int i0), .val (.int i1), .val (.int i2), .val (.int i3), .val (.int i4), .val (.int (1 : Int32)), .val (.ref b56), .unset, .unset, .unset, .unset]) rfl k) ?_
    show own_Run p e below s _ _ _ (T56.setTop (mkF m 14 #[.val (.int i0), .val (.int i1), .val (.int i2), .val (.int i3), .val (.int i4), .val (.int (1 : Int32)), .val (.ref b56), .unset, .unset, .unset, .unset] []))
    refine own_st (fun t k => XS.iload X56.here hx rfl (hb hby at_14) rfl k) ?_
    show own_Run p e below s _ _ _ (T56.setTop (mkF m 16 #[.val (.int i0), .val (.int i1), .val (.int i2), .val (.int i3), .val (.int i4), .val (.int (1 : Int32)), .val (.ref b56), .unset, .unset, .unset, .unset] [(.int (1 : Int32))]))
    obtain ⟨T61, h61, k61, X61, e61, E61, A61, st61⟩ := newP X56 hx hZ (hw _ (List.mem_of_getElem? (i := 2) rfl)) e56 (g := (mkF m 16 #[.val (.int i0), .val (.int i1), .val (.int i2), .val (.int i3), .val (.int i4), .val (.int (1 : Int32)), .val (.ref b56), .unset, .unset, .unset, .unset] [(.int (1 : Int32))])) rfl (hb hby at_16) rfl (by decide) (cap := 1) (by decide) (by decide) (by decide) (by decide)
    obtain ⟨b61, g61⟩ : ∃ z, z = h56.size := ⟨_, rfl⟩
    rw [← g61] at A61 st61
    have sz62 : h0.size ≤ b61 := Nat.le_trans K59.1 (Nat.le_of_eq g61.symm)
    have ge63 : n0 ≤ b61 := Nat.le_trans Z0 sz62
    refine own_st st61 ?_
    have V61 : Arv Z h61 b61 k61 .int (1 : Int32) [(.int (0 : Int32))] (.int (0 : Int32)) := (Arv.new A61 (by decide)).pad (pad_rep [] (.int (0 : Int32)) 1)
    have K64 : Keep h0 h61 [] := K59.ext E61
    have O65 := O60.ext E61
    show own_Run p e below s _ _ _ (T61.setTop (mkF m 18 #[.val (.int i0), .val (.int i1), .val (.int i2), .val (.int i3), .val (.int i4), .val (.int (1 : Int32)), .val (.ref b56), .unset, .unset, .unset, .unset] [(.ref b61)]))
    refine own_st (fun t k => XS.astore X61.here hx rfl (hb hby at_18) rfl rfl (l' := #[.val (.int i0), .val (.int i1), .val (.int i2), .val (.int i3), .val (.int i4), .val (.int (1 : Int32)), .val (.ref b56), .val (.ref b61), .unset, .unset, .unset]) rfl k) ?_
    show own_Run p e below s _ _ _ (T61.setTop (mkF m 20 #[.val (.int i0), .val (.int i1), .val (.int i2), .val (.int i3), .val (.int i4), .val (.int (1 : Int32)), .val (.ref b56), .val (.ref b61), .unset, .unset, .unset] []))
    refine own_st (fun t k => XS.lconst X61.here hx rfl (hb hby at_20) k) ?_
    show own_Run p e below s _ _ _ (T61.setTop (mkF m 21 #[.val (.int i0), .val (.int i1), .val (.int i2), .val (.int i3), .val (.int i4), .val (.int (1 : Int32)), .val (.ref b56), .val (.ref b61), .unset, .unset, .unset] [(.long (0 : Int64))]))
    refine own_st (fun t k => XS.lstore X61.here hx rfl (hb hby at_21) rfl (l' := #[.val (.int i0), .val (.int i1), .val (.int i2), .val (.int i3), .val (.int i4), .val (.int (1 : Int32)), .val (.ref b56), .val (.ref b61), .val (.long (0 : Int64)), .second, .unset]) rfl k) ?_
    show own_Run p e below s _ _ _ (T61.setTop (mkF m 23 #[.val (.int i0), .val (.int i1), .val (.int i2), .val (.int i3), .val (.int i4), .val (.int (1 : Int32)), .val (.ref b56), .val (.ref b61), .val (.long (0 : Int64)), .second, .unset] []))
    refine own_st (fun t k => XS.iload X61.here hx rfl (hb hby at_23) rfl k) ?_
    show own_Run p e below s _ _ _ (T61.setTop (mkF m 25 #[.val (.int i0), .val (.int i1), .val (.int i2), .val (.int i3), .val (.int i4), .val (.int (1 : Int32)), .val (.ref b56), .val (.ref b61), .val (.long (0 : Int64)), .second, .unset] [(.int (1 : Int32))]))
    refine own_st (fun t k => XS.ifNo X61.here hx rfl (hb hby at_25) rfl ((if0 _ _).trans (tlt (by decide : (0 : Int32) < (1 : Int32))).2.2.2) k) ?_
    show own_Run p e below s _ _ _ (T61.setTop (mkF m 28 #[.val (.int i0), .val (.int i1), .val (.int i2), .val (.int i3), .val (.int i4), .val (.int (1 : Int32)), .val (.ref b56), .val (.ref b61), .val (.long (0 : Int64)), .second, .unset] []))
    refine own_st (fun t k => XS.aload X61.here hx rfl (hb hby at_28) rfl rfl k) ?_
    show own_Run p e below s _ _ _ (T61.setTop (mkF m 30 #[.val (.int i0), .val (.int i1), .val (.int i2), .val (.int i3), .val (.int i4), .val (.int (1 : Int32)), .val (.ref b56), .val (.ref b61), .val (.long (0 : Int64)), .second, .unset] [(.ref b56)]))
    refine own_st (fun t k => XS.iconst X61.here hx rfl (hb hby at_30) k) ?_
    show own_Run p e below s _ _ _ (T61.setTop (mkF m 31 #[.val (.int i0), .val (.int i1), .val (.int i2), .val (.int i3), .val (.int i4), .val (.int (1 : Int32)), .val (.ref b56), .val (.ref b61), .val (.long (0 : Int64)), .second, .unset] [(.int (0 : Int32)), (.ref b56)]))
    refine own_st (fun t k => XS.iloadN X61.here hx rfl (hb hby at_31) rfl k) ?_
    show own_Run p e below s _ _ _ (T61.setTop (mkF m 32 #[.val (.int i0), .val (.int i1), .val (.int i2), .val (.int i3), .val (.int i4), .val (.int (1 : Int32)), .val (.ref b56), .val (.ref b61), .val (.long (0 : Int64)), .second, .unset] [(.int i1), (.int (0 : Int32)), (.ref b56)]))
    refine own_st (fun t k => XS.i2dS X61.here hx rfl (hb hby at_32) rfl (v := (FP.i2d i1)) (rfl) k) ?_
    show own_Run p e below s _ _ _ (T61.setTop (mkF m 33 #[.val (.int i0), .val (.int i1), .val (.int i2), .val (.int i3), .val (.int i4), .val (.int (1 : Int32)), .val (.ref b56), .val (.ref b61), .val (.long (0 : Int64)), .second, .unset] [(.double (FP.i2d i1)), (.int (0 : Int32)), (.ref b56)]))
    have V66 := (V56.ext E61)
    obtain ⟨cl67, Ar67, q67, S67, N67, H67, G67⟩ := id V66
    have hin67 : ¬ ((0 : Int32) < 0 ∨ cl67.slots.size ≤ ((0 : Int32)).toNatClampNeg) := inb_of S67 ⟨by decide, by decide⟩
    obtain ⟨T68, h68, X68, e68, W68, st68⟩ := stD X61 hx hZ e61 Ar67 (j := (0 : Int32)) hin67 (g := (mkF m 33 #[.val (.int i0), .val (.int i1), .val (.int i2), .val (.int i3), .val (.int i4), .val (.int (1 : Int32)), .val (.ref b56), .val (.ref b61), .val (.long (0 : Int64)), .second, .unset] [(.double (FP.i2d i1)), (.int (0 : Int32)), (.ref b56)])) rfl rfl (hb hby at_33)
    refine own_st st68 ?_
    have V68 : Arv Z h68 b56 k56 .double (1 : Int32) [(.double (FP.i2d i1))] (.double (0 : UInt64)) := Arv.set Ar67 q67 S67 N67 H67 G67 rfl W68 0 rfl (Nat.le_of_ble_eq_true rfl)
    have N68 := Fr.snoc X68 N0 ge58
    have K69 : Keep h0 h68 [] := K64.wr W68 (Or.inr sz57)
    have O70 := O65.wr W68 ge58
    show own_Run p e below s _ _ _ (T68.setTop (mkF m 34 #[.val (.int i0), .val (.int i1), .val (.int i2), .val (.int i3), .val (.int i4), .val (.int (1 : Int32)), .val (.ref b56), .val (.ref b61), .val (.long (0 : Int64)), .second, .unset] []))
    refine own_st (fun t k => XS.aload X68.here hx rfl (hb hby at_34) rfl rfl k) ?_
    show own_Run p e below s _ _ _ (T68.setTop (mkF m 36 #[.val (.int i0), .val (.int i1), .val (.int i2), .val (.int i3), .val (.int i4), .val (.int (1 : Int32)), .val (.ref b56), .val (.ref b61), .val (.long (0 : Int64)), .second, .unset] [(.ref b61)]))
    refine own_st (fun t k => XS.iconst X68.here hx rfl (hb hby at_36) k) ?_
    show own_Run p e below s _ _ _ (T68.setTop (mkF m 37 #[.val (.int i0), .val (.int i1), .val (.int i2), .val (.int i3), .val (.int i4), .val (.int (1 : Int32)), .val (.ref b56), .val (.ref b61), .val (.long (0 : Int64)), .second, .unset] [(.int (0 : Int32)), (.ref b61)]))
    refine own_st (fun t k => XS.iconst X68.here hx rfl (hb hby at_37) k) ?_
    show own_Run p e below s _ _ _ (T68.setTop (mkF m 38 #[.val (.int i0), .val (.int i1), .val (.int i2), .val (.int i3), .val (.int i4), .val (.int (1 : Int32)), .val (.ref b56), .val (.ref b61), .val (.long (0 : Int64)), .second, .unset] [(.int (0 : Int32)), (.int (0 : Int32)), (.ref b61)]))
    have V71 := (V61.other W68 (Ne.symm (Nat.ne_of_lt (Nat.lt_of_lt_of_le A56.lt (Nat.le_of_eq g61.symm)))))
    obtain ⟨cl72, Ar72, q72, S72, N72, H72, G72⟩ := id V71
    have hin72 : ¬ ((0 : Int32) < 0 ∨ cl72.slots.size ≤ ((0 : Int32)).toNatClampNeg) := inb_of S72 ⟨by decide, by decide⟩
    obtain ⟨T73, h73, X73, e73, W73, st73⟩ := stI X68 hx hZ e68 Ar72 (j := (0 : Int32)) hin72 (g := (mkF m 38 #[.val (.int i0), .val (.int i1), .val (.int i2), .val (.int i3), .val (.int i4), .val (.int (1 : Int32)), .val (.ref b56), .val (.ref b61), .val (.long (0 : Int64)), .second, .unset] [(.int (0 : Int32)), (.int (0 : Int32)), (.ref b61)])) rfl rfl (hb hby at_38)
    refine own_st st73 ?_
    have V73 : Arv Z h73 b61 k61 .int (1 : Int32) [(.int (0 : Int32))] (.int (0 : Int32)) := Arv.set Ar72 q72 S72 N72 H72 G72 rfl W73 0 rfl (Nat.le_of_ble_eq_true rfl)
    have N73 := Fr.snoc X73 N68 ge63
    have K74 : Keep h0 h73 [] := K69.wr W73 (Or.inr sz62)
    have O75 := O70.wr W73 ge63
    show own_Run p e below s _ _ _ (T73.setTop (mkF m 39 #[.val (.int i0), .val (.int i1), .val (.int i2), .val (.int i3), .val (.int i4), .val (.int (1 : Int32)), .val (.ref b56), .val (.ref b61), .val (.long (0 : Int64)), .second, .unset] []))
    refine own_st (fun t k => XS.lload X73.here hx rfl (hb hby at_39) rfl k) ?_
    show own_Run p e below s _ _ _ (T73.setTop (mkF m 41 #[.val (.int i0), .val (.int i1), .val (.int i2), .val (.int i3), .val (.int i4), .val (.int (1 : Int32)), .val (.ref b56), .val (.ref b61), .val (.long (0 : Int64)), .second, .unset] [(.long (0 : Int64))]))
    refine own_st (fun t k => XS.iloadN X73.here hx rfl (hb hby at_41) rfl k) ?_
    show own_Run p e below s _ _ _ (T73.setTop (mkF m 42 #[.val (.int i0), .val (.int i1), .val (.int i2), .val (.int i3), .val (.int i4), .val (.int (1 : Int32)), .val (.ref b56), .val (.ref b61), .val (.long (0 : Int64)), .second, .unset] [(.int i1), (.long (0 : Int64))]))
    refine own_st (fun t k => XS.i2l X73.here hx rfl (hb hby at_42) rfl k) ?_
    show own_Run p e below s _ _ _ (T73.setTop (mkF m 43 #[.val (.int i0), .val (.int i1), .val (.int i2), .val (.int i3), .val (.int i4), .val (.int (1 : Int32)), .val (.ref b56), .val (.ref b61), .val (.long (0 : Int64)), .second, .unset] [(.long (i1.toInt64)), (.long (0 : Int64))]))
    refine own_st (fun t k => XS.ladd X73.here hx rfl (hb hby at_43) rfl k) ?_
    show own_Run p e below s _ _ _ (T73.setTop (mkF m 44 #[.val (.int i0), .val (.int i1), .val (.int i2), .val (.int i3), .val (.int i4), .val (.int (1 : Int32)), .val (.ref b56), .val (.ref b61), .val (.long (0 : Int64)), .second, .unset] [(.long ((0 : Int64) + (i1.toInt64)))]))
    refine own_st (fun t k => XS.lstore X73.here hx rfl (hb hby at_44) rfl (l' := #[.val (.int i0), .val (.int i1), .val (.int i2), .val (.int i3), .val (.int i4), .val (.int (1 : Int32)), .val (.ref b56), .val (.ref b61), .val (.long ((0 : Int64) + (i1.toInt64))), .second, .unset]) rfl k) ?_
    show own_Run p e below s _ _ _ (T73.setTop (mkF m 46 #[.val (.int i0), .val (.int i1), .val (.int i2), .val (.int i3), .val (.int i4), .val (.int (1 : Int32)), .val (.ref b56), .val (.ref b61), .val (.long ((0 : Int64) + (i1.toInt64))), .second, .unset] []))
    refine own_st (fun t k => XS.iload X73.here hx rfl (hb hby at_46) rfl k) ?_
    show own_Run p e below s _ _ _ (T73.setTop (mkF m 48 #[.val (.int i0), .val (.int i1), .val (.int i2), .val (.int i3), .val (.int i4), .val (.int (1 : Int32)), .val (.ref b56), .val (.ref b61), .val (.long ((0 : Int64) + (i1.toInt64))), .second, .unset] [(.int (1 : Int32))]))
    refine own_st (fun t k => XS.iconst X73.here hx rfl (hb hby at_48) k) ?_
    show own_Run p e below s _ _ _ (T73.setTop (mkF m 49 #[.val (.int i0), .val (.int i1), .val (.int i2), .val (.int i3), .val (.int i4), .val (.int (1 : Int32)), .val (.ref b56), .val (.ref b61), .val (.long ((0 : Int64) + (i1.toInt64))), .second, .unset] [(.int (1 : Int32)), (.int (1 : Int32))]))
    refine own_st (fun t k => XS.icmpYes X73.here hx rfl (pc0 := 49) (pc' := 70) rfl (hb hby at_49) rfl (flt (by decide : ¬ ((1 : Int32) < (1 : Int32)))).2.2.2 (by decide) (by decide) k) ?_
    show own_Run p e below s _ _ _ (T73.setTop (mkF m 70 #[.val (.int i0), .val (.int i1), .val (.int i2), .val (.int i3), .val (.int i4), .val (.int (1 : Int32)), .val (.ref b56), .val (.ref b61), .val (.long ((0 : Int64) + (i1.toInt64))), .second, .unset] []))
    refine own_st (fun t k => XS.iload X73.here hx rfl (hb hby at_70) rfl k) ?_
    show own_Run p e below s _ _ _ (T73.setTop (mkF m 72 #[.val (.int i0), .val (.int i1), .val (.int i2), .val (.int i3), .val (.int i4), .val (.int (1 : Int32)), .val (.ref b56), .val (.ref b61), .val (.long ((0 : Int64) + (i1.toInt64))), .second, .unset] [(.int (1 : Int32))]))
    refine own_st (fun t k => XS.iconst X73.here hx rfl (hb hby at_72) k) ?_
    show own_Run p e below s _ _ _ (T73.setTop (mkF m 73 #[.val (.int i0), .val (.int i1), .val (.int i2), .val (.int i3), .val (.int i4), .val (.int (1 : Int32)), .val (.ref b56), .val (.ref b61), .val (.long ((0 : Int64) + (i1.toInt64))), .second, .unset] [(.int (2 : Int32)), (.int (1 : Int32))]))
    refine own_st (fun t k => XS.icmpYes X73.here hx rfl (pc0 := 73) (pc' := 94) rfl (hb hby at_73) rfl (flt (by decide : ¬ ((2 : Int32) < (1 : Int32)))).2.2.2 (by decide) (by decide) k) ?_
    show own_Run p e below s _ _ _ (T73.setTop (mkF m 94 #[.val (.int i0), .val (.int i1), .val (.int i2), .val (.int i3), .val (.int i4), .val (.int (1 : Int32)), .val (.ref b56), .val (.ref b61), .val (.long ((0 : Int64) + (i1.toInt64))), .second, .unset] []))
    refine own_st (fun t k => XS.iload X73.here hx rfl (hb hby at_94) rfl k) ?_
    show own_Run p e below s _ _ _ (T73.setTop (mkF m 96 #[.val (.int i0), .val (.int i1), .val (.int i2), .val (.int i3), .val (.int i4), .val (.int (1 : Int32)), .val (.ref b56), .val (.ref b61), .val (.long ((0 : Int64) + (i1.toInt64))), .second, .unset] [(.int (1 : Int32))]))
    refine own_st (fun t k => XS.iconst X73.here hx rfl (hb hby at_96) k) ?_
    show own_Run p e below s _ _ _ (T73.setTop (mkF m 97 #[.val (.int i0), .val (.int i1), .val (.int i2), .val (.int i3), .val (.int i4), .val (.int (1 : Int32)), .val (.ref b56), .val (.ref b61), .val (.long ((0 : Int64) + (i1.toInt64))), .second, .unset] [(.int (3 : Int32)), (.int (1 : Int32))]))
    refine own_st (fun t k => XS.icmpYes X73.here hx rfl (pc0 := 97) (pc' := 120) rfl (hb hby at_97) rfl (flt (by decide : ¬ ((3 : Int32) < (1 : Int32)))).2.2.2 (by decide) (by decide) k) ?_
    show own_Run p e below s _ _ _ (T73.setTop (mkF m 120 #[.val (.int i0), .val (.int i1), .val (.int i2), .val (.int i3), .val (.int i4), .val (.int (1 : Int32)), .val (.ref b56), .val (.ref b61), .val (.long ((0 : Int64) + (i1.toInt64))), .second, .unset] []))
    obtain ⟨T76, h76, X76, e76, E76, A76, D76, -, st76⟩ := newO X73 hx hZ hown (hw _ (List.mem_of_getElem? (i := 3) rfl)) (hw _ (List.mem_of_getElem? (i := 4) rfl)) (hw _ (List.mem_of_getElem? (i := 5) rfl)) e73 (g := (mkF m 120 #[.val (.int i0), .val (.int i1), .val (.int i2), .val (.int i3), .val (.int i4), .val (.int (1 : Int32)), .val (.ref b56), .val (.ref b61), .val (.long ((0 : Int64) + (i1.toInt64))), .second, .unset] [])) rfl (hb hby at_120) (by decide) (by decide)
    obtain ⟨b76, g76⟩ : ∃ z, z = h73.size := ⟨_, rfl⟩
    rw [← g76] at A76 D76 st76
    have sz77 : h0.size ≤ b76 := Nat.le_trans K74.1 (Nat.le_of_eq g76.symm)
    have ge78 : n0 ≤ b76 := Nat.le_trans Z0 sz77
    refine own_st st76 ?_
    have K79 : Keep h0 h76 [] := K74.ext E76
    have O80 := O75.ext E76
    show own_Run p e below s _ _ _ (T76.setTop (mkF m 123 #[.val (.int i0), .val (.int i1), .val (.int i2), .val (.int i3), .val (.int i4), .val (.int (1 : Int32)), .val (.ref b56), .val (.ref b61), .val (.long ((0 : Int64) + (i1.toInt64))), .second, .unset] [(.ref b76)]))
    refine own_st (fun t k => XS.dup X76.here hx rfl (hb hby at_123) rfl rfl k) ?_
    show own_Run p e below s _ _ _ (T76.setTop (mkF m 124 #[.val (.int i0), .val (.int i1), .val (.int i2), .val (.int i3), .val (.int i4), .val (.int (1 : Int32)), .val (.ref b56), .val (.ref b61), .val (.long ((0 : Int64) + (i1.toInt64))), .second, .unset] [(.ref b76), (.ref b76)]))
    refine own_st (fun t k => XS.aload X76.here hx rfl (hb hby at_124) rfl rfl k) ?_
    show own_Run p e below s _ _ _ (T76.setTop (mkF m 126 #[.val (.int i0), .val (.int i1), .val (.int i2), .val (.int i3), .val (.int i4), .val (.int (1 : Int32)), .val (.ref b56), .val (.ref b61), .val (.long ((0 : Int64) + (i1.toInt64))), .second, .unset] [(.ref b61), (.ref b76), (.ref b76)]))
    refine own_st (fun t k => XS.aload X76.here hx rfl (hb hby at_126) rfl rfl k) ?_
    show own_Run p e below s _ _ _ (T76.setTop (mkF m 128 #[.val (.int i0), .val (.int i1), .val (.int i2), .val (.int i3), .val (.int i4), .val (.int (1 : Int32)), .val (.ref b56), .val (.ref b61), .val (.long ((0 : Int64) + (i1.toInt64))), .second, .unset] [(.ref b56), (.ref b61), (.ref b76), (.ref b76)]))
    refine own_callI X76 hx hZ (y := (⟨"com/example/usurf/usurf/WalkWeights$Weights", "<init>", "([I[D)V"⟩ : MethodName)) rfl hown (hw _ (List.mem_of_getElem? (i := 6) rfl)) (hw _ (List.mem_of_getElem? (i := 7) rfl)) (hw _ (List.mem_of_getElem? (i := 8) rfl)) (hw _ (List.mem_of_getElem? (i := 5) rfl)) (by decide) e76 (a := b76) (argsL := [(.ref b61), (.ref b56)]) (rest := [(.ref b76)]) (W := 1) (own_rm1 l Z a0 hw [] b76 b61 b56 h76 n0 (Nat.le_trans Z0 K79.1) A76 D76 ge78) (by decide) (by decide) (by rw [hml]; rfl) (lenOf own_pd3 rfl) rfl (by exact Nat.le_of_eq rfl) (hb hby at_128) (by decide) (by decide) ?_
    intro T81 v81 L81 X81 hq81
    obtain ⟨rfl, N81q, K81q, Q82, Q83⟩ := hq81
    have K84 : Keep h0 T81.heap [] := K79.trans K81q (allS (Or.inr sz77) all0)
    have O85 := O80.keep K81q (allS ge78 all0)
    have N81 := Fr.app N73 N81q
    show own_Run p e below s _ _ _ (T81.setTop (mkF m 131 #[.val (.int i0), .val (.int i1), .val (.int i2), .val (.int i3), .val (.int i4), .val (.int (1 : Int32)), .val (.ref b56), .val (.ref b61), .val (.long ((0 : Int64) + (i1.toInt64))), .second, .unset] [(.ref b76)]))
    refine own_st (fun t k => XS.astore X81.here hx rfl (hb hby at_131) rfl rfl (l' := #[.val (.int i0), .val (.int i1), .val (.int i2), .val (.int i3), .val (.int i4), .val (.int (1 : Int32)), .val (.ref b56), .val (.ref b61), .val (.long ((0 : Int64) + (i1.toInt64))), .second, .val (.ref b76)]) rfl k) ?_
    show own_Run p e below s _ _ _ (T81.setTop (mkF m 133 #[.val (.int i0), .val (.int i1), .val (.int i2), .val (.int i3), .val (.int i4), .val (.int (1 : Int32)), .val (.ref b56), .val (.ref b61), .val (.long ((0 : Int64) + (i1.toInt64))), .second, .val (.ref b76)] []))
    have rb1 := i1.le_toInt; have ra1 := i1.toInt_lt
    have z0 := own_Z0
    have z1 := own_zz (y := i1) z0 (by omega)
    have t0 : (0 : Int64).toInt = 0 := rfl
    have t1 := own_ls (y := i1) t0 (by omega)
    refine own_st (fun t k => XS.aload X81.here hx rfl (hb hby at_133) rfl rfl k) ?_
    show own_Run p e below s _ _ _ (T81.setTop (mkF m 135 #[.val (.int i0), .val (.int i1), .val (.int i2), .val (.int i3), .val (.int i4), .val (.int (1 : Int32)), .val (.ref b56), .val (.ref b61), .val (.long ((0 : Int64) + (i1.toInt64))), .second, .val (.ref b76)] [(.ref b76)]))
    have V86 := (((V68.other W73 (Nat.ne_of_lt (Nat.lt_of_lt_of_le A56.lt (Nat.le_of_eq g61.symm)))).ext E76).keep K81q (ninS (Nat.ne_of_lt (Nat.lt_of_lt_of_le (Nat.lt_of_lt_of_le (Nat.lt_of_lt_of_le (Nat.lt_of_lt_of_le A56.lt E61.1) (Nat.le_of_eq W68.size.symm)) (Nat.le_of_eq W73.size.symm)) (Nat.le_of_eq g76.symm))) nin0))
    refine own_callV X81 hx hZ (y := (⟨"com/example/usurf/usurf/WalkWeights$Weights", "sum", "()D"⟩ : MethodName)) (C := "com/example/usurf/usurf/WalkWeights$Weights") hown (hw _ (List.mem_of_getElem? (i := 21) rfl)) (hw _ (List.mem_of_getElem? (i := 22) rfl)) (hw _ (List.mem_of_getElem? (i := 24) rfl)) (hw _ (List.mem_of_getElem? (i := 23) rfl)) (hw _ (List.mem_of_getElem? (i := 25) rfl)) (hw _ (List.mem_of_getElem? (i := 5) rfl)) (by decide) rfl (a := b76) Q82 (argsL := []) (rest := []) (W := 0) (own_rm4pn1 l Z a0 hw [] b76 b56 k56 (FP.i2d i1) T81.heap n0 (Nat.le_trans Z0 K84.1) Q83 V86 (z1.nn)) (by decide) (by decide) (by rw [hml]; rfl) (lenOf own_pd4 rfl) rfl (by exact Nat.le_of_eq rfl) (hb hby at_135) (by decide) (by decide) ?_
    intro T87 v87 L87 X87 hq87
    obtain ⟨rfl, N87q, hh87⟩ := hq87
    have N87 := Fr.app N81 N87q
    show own_Run p e below s _ _ _ (T87.setTop (mkF m 138 #[.val (.int i0), .val (.int i1), .val (.int i2), .val (.int i3), .val (.int i4), .val (.int (1 : Int32)), .val (.ref b56), .val (.ref b61), .val (.long ((0 : Int64) + (i1.toInt64))), .second, .val (.ref b76)] [(.double (FP.dadd (0 : UInt64) (FP.i2d i1)))]))
    refine own_st (fun t k => XS.lload X87.here hx rfl (hb hby at_138) rfl k) ?_
    show own_Run p e below s _ _ _ (T87.setTop (mkF m 140 #[.val (.int i0), .val (.int i1), .val (.int i2), .val (.int i3), .val (.int i4), .val (.int (1 : Int32)), .val (.ref b56), .val (.ref b61), .val (.long ((0 : Int64) + (i1.toInt64))), .second, .val (.ref b76)] [(.long ((0 : Int64) + (i1.toInt64))), (.double (FP.dadd (0 : UInt64) (FP.i2d i1)))]))
    refine own_st (fun t k => XS.l2dS X87.here hx rfl (hb hby at_140) rfl (v := (FP.l2d ((0 : Int64) + (i1.toInt64)))) (rfl) k) ?_
    show own_Run p e below s _ _ _ (T87.setTop (mkF m 141 #[.val (.int i0), .val (.int i1), .val (.int i2), .val (.int i3), .val (.int i4), .val (.int (1 : Int32)), .val (.ref b56), .val (.ref b61), .val (.long ((0 : Int64) + (i1.toInt64))), .second, .val (.ref b76)] [(.double (FP.l2d ((0 : Int64) + (i1.toInt64)))), (.double (FP.dadd (0 : UInt64) (FP.i2d i1)))]))
    refine own_st (fun t k => XS.dcmpS X87.here hx rfl (hb hby at_141) rfl (v := (0 : Int32)) (z1.cmpE (own_Z.l2d (by rw [t1]; omega)) t1.symm _) k) ?_
    show own_Run p e below s _ _ _ (T87.setTop (mkF m 142 #[.val (.int i0), .val (.int i1), .val (.int i2), .val (.int i3), .val (.int i4), .val (.int (1 : Int32)), .val (.ref b56), .val (.ref b61), .val (.long ((0 : Int64) + (i1.toInt64))), .second, .val (.ref b76)] [(.int (0 : Int32))]))
    refine own_st (fun t k => XS.ifNo X87.here hx rfl (hb hby at_142) rfl ((if0 _ _).trans (teq (by decide : (0 : Int32) = (0 : Int32))).2) k) ?_
    show own_Run p e below s _ _ _ (T87.setTop (mkF m 145 #[.val (.int i0), .val (.int i1), .val (.int i2), .val (.int i3), .val (.int i4), .val (.int (1 : Int32)), .val (.ref b56), .val (.ref b61), .val (.long ((0 : Int64) + (i1.toInt64))), .second, .val (.ref b76)] []))
    refine own_st (fun t k => XS.iconst X87.here hx rfl (hb hby at_145) k) ?_
    show own_Run p e below s _ _ _ (T87.setTop (mkF m 146 #[.val (.int i0), .val (.int i1), .val (.int i2), .val (.int i3), .val (.int i4), .val (.int (1 : Int32)), .val (.ref b56), .val (.ref b61), .val (.long ((0 : Int64) + (i1.toInt64))), .second, .val (.ref b76)] [(.int (1 : Int32))]))
    refine own_st (fun t k => XS.goto X87.here hx rfl (pc0 := 146) (pc' := 150) rfl (hb hby at_146) (by decide) (by decide) k) ?_
    show own_Run p e below s _ _ _ (T87.setTop (mkF m 150 #[.val (.int i0), .val (.int i1), .val (.int i2), .val (.int i3), .val (.int i4), .val (.int (1 : Int32)), .val (.ref b56), .val (.ref b61), .val (.long ((0 : Int64) + (i1.toInt64))), .second, .val (.ref b76)] [(.int (1 : Int32))]))
    exact own_ret X87 hx hlk (t := .boolean) hret rfl (Or.inl ⟨rfl, by simp, _, rfl⟩) (hb hby at_150) (by decide) (by decide) ⟨rfl, N87⟩
  · refine own_topI hn ?_
    show own_Run p e below s _ _ _ (s₁.setTop (mkF m 6 #[.val (.int i0), .val (.int i1), .val (.int i2), .val (.int i3), .val (.int i4), .unset, .unset, .unset, .unset, .unset, .unset] [(.int (2 : Int32))]))
    refine own_st (fun t k => XS.istore X0.here hx rfl (hb hby at_6) rfl (l' := #[.val (.int i0), .val (.int i1), .val (.int i2), .val (.int i3), .val (.int i4), .val (.int (2 : Int32)), .unset, .unset, .unset, .unset, .unset]) rfl k) ?_
    show own_Run p e below s _ _ _ (s₁.setTop (mkF m 8 #[.val (.int i0), .val (.int i1), .val (.int i2), .val (.int i3), .val (.int i4), .val (.int (2 : Int32)), .unset, .unset, .unset, .unset, .unset] []))
    refine own_st (fun t k => XS.iload X0.here hx rfl (hb hby at_8) rfl k) ?_
    show own_Run p e below s _ _ _ (s₁.setTop (mkF m 10 #[.val (.int i0), .val (.int i1), .val (.int i2), .val (.int i3), .val (.int i4), .val (.int (2 : Int32)), .unset, .unset, .unset, .unset, .unset] [(.int (2 : Int32))]))
    obtain ⟨T88, h88, k88, X88, e88, E88, A88, st88⟩ := newP X0 hx hZ (hw _ (List.mem_of_getElem? (i := 1) rfl)) e0 (g := (mkF m 10 #[.val (.int i0), .val (.int i1), .val (.int i2), .val (.int i3), .val (.int i4), .val (.int (2 : Int32)), .unset, .unset, .unset, .unset, .unset] [(.int (2 : Int32))])) rfl (hb hby at_10) rfl (by decide) (cap := 2) (by decide) (by decide) (by decide) (by decide)
    obtain ⟨b88, g88⟩ : ∃ z, z = h0.size := ⟨_, rfl⟩
    rw [← g88] at A88 st88
    have sz89 : h0.size ≤ b88 := Nat.le_trans K0.1 (Nat.le_of_eq g88.symm)
    have ge90 : n0 ≤ b88 := Nat.le_trans Z0 sz89
    refine own_st st88 ?_
    have V88 : Arv Z h88 b88 k88 .double (2 : Int32) [(.double (0 : UInt64)), (.double (0 : UInt64))] (.double (0 : UInt64)) := (Arv.new A88 (by decide)).pad (pad_rep [] (.double (0 : UInt64)) 2)
    have K91 : Keep h0 h88 [] := K0.ext E88
    have O92 := O0.ext E88
    show own_Run p e below s _ _ _ (T88.setTop (mkF m 12 #[.val (.int i0), .val (.int i1), .val (.int i2), .val (.int i3), .val (.int i4), .val (.int (2 : Int32)), .unset, .unset, .unset, .unset, .unset] [(.ref b88)]))
    refine own_st (fun t k => XS.astore X88.here hx rfl (hb hby at_12) rfl rfl (l' := #[.val (.int i0), .val (.int i1), .val (.int i2), .val (.int i3), .val (.int i4), .val (.int (2 : Int32)), .val (.ref b88), .unset, .unset, .unset, .unset]) rfl k) ?_
    show own_Run p e below s _ _ _ (T88.setTop (mkF m 14 #[.val (.int i0), .val (.int i1), .val (.int i2), .val (.int i3), .val (.int i4), .val (.int (2 : Int32)), .val (.ref b88), .unset, .unset, .unset, .unset] []))
    refine own_st (fun t k => XS.iload X88.here hx rfl (hb hby at_14) rfl k) ?_
    show own_Run p e below s _ _ _ (T88.setTop (mkF m 16 #[.val (.int i0), .val (.int i1), .val (.int i2), .val (.int i3), .val (.int i4), .val (.int (2 : Int32)), .val (.ref b88), .unset, .unset, .unset, .unset] [(.int (2 : Int32))]))
    obtain ⟨T93, h93, k93, X93, e93, E93, A93, st93⟩ := newP X88 hx hZ (hw _ (List.mem_of_getElem? (i := 2) rfl)) e88 (g := (mkF m 16 #[.val (.int i0), .val (.int i1), .val (.int i2), .val (.int i3), .val (.int i4), .val (.int (2 : Int32)), .val (.ref b88), .unset, .unset, .unset, .unset] [(.int (2 : Int32))])) rfl (hb hby at_16) rfl (by decide) (cap := 2) (by decide) (by decide) (by decide) (by decide)
    obtain ⟨b93, g93⟩ : ∃ z, z = h88.size := ⟨_, rfl⟩
    rw [← g93] at A93 st93
    have sz94 : h0.size ≤ b93 := Nat.le_trans K91.1 (Nat.le_of_eq g93.symm)
    have ge95 : n0 ≤ b93 := Nat.le_trans Z0 sz94
    refine own_st st93 ?_
    have V93 : Arv Z h93 b93 k93 .int (2 : Int32) [(.int (0 : Int32)), (.int (0 : Int32))] (.int (0 : Int32)) := (Arv.new A93 (by decide)).pad (pad_rep [] (.int (0 : Int32)) 2)
    have K96 : Keep h0 h93 [] := K91.ext E93
    have O97 := O92.ext E93
    show own_Run p e below s _ _ _ (T93.setTop (mkF m 18 #[.val (.int i0), .val (.int i1), .val (.int i2), .val (.int i3), .val (.int i4), .val (.int (2 : Int32)), .val (.ref b88), .unset, .unset, .unset, .unset] [(.ref b93)]))
    refine own_st (fun t k => XS.astore X93.here hx rfl (hb hby at_18) rfl rfl (l' := #[.val (.int i0), .val (.int i1), .val (.int i2), .val (.int i3), .val (.int i4), .val (.int (2 : Int32)), .val (.ref b88), .val (.ref b93), .unset, .unset, .unset]) rfl k) ?_
    show own_Run p e below s _ _ _ (T93.setTop (mkF m 20 #[.val (.int i0), .val (.int i1), .val (.int i2), .val (.int i3), .val (.int i4), .val (.int (2 : Int32)), .val (.ref b88), .val (.ref b93), .unset, .unset, .unset] []))
    refine own_st (fun t k => XS.lconst X93.here hx rfl (hb hby at_20) k) ?_
    show own_Run p e below s _ _ _ (T93.setTop (mkF m 21 #[.val (.int i0), .val (.int i1), .val (.int i2), .val (.int i3), .val (.int i4), .val (.int (2 : Int32)), .val (.ref b88), .val (.ref b93), .unset, .unset, .unset] [(.long (0 : Int64))]))
    refine own_st (fun t k => XS.lstore X93.here hx rfl (hb hby at_21) rfl (l' := #[.val (.int i0), .val (.int i1), .val (.int i2), .val (.int i3), .val (.int i4), .val (.int (2 : Int32)), .val (.ref b88), .val (.ref b93), .val (.long (0 : Int64)), .second, .unset]) rfl k) ?_
    show own_Run p e below s _ _ _ (T93.setTop (mkF m 23 #[.val (.int i0), .val (.int i1), .val (.int i2), .val (.int i3), .val (.int i4), .val (.int (2 : Int32)), .val (.ref b88), .val (.ref b93), .val (.long (0 : Int64)), .second, .unset] []))
    refine own_st (fun t k => XS.iload X93.here hx rfl (hb hby at_23) rfl k) ?_
    show own_Run p e below s _ _ _ (T93.setTop (mkF m 25 #[.val (.int i0), .val (.int i1), .val (.int i2), .val (.int i3), .val (.int i4), .val (.int (2 : Int32)), .val (.ref b88), .val (.ref b93), .val (.long (0 : Int64)), .second, .unset] [(.int (2 : Int32))]))
    refine own_st (fun t k => XS.ifNo X93.here hx rfl (hb hby at_25) rfl ((if0 _ _).trans (tlt (by decide : (0 : Int32) < (2 : Int32))).2.2.2) k) ?_
    show own_Run p e below s _ _ _ (T93.setTop (mkF m 28 #[.val (.int i0), .val (.int i1), .val (.int i2), .val (.int i3), .val (.int i4), .val (.int (2 : Int32)), .val (.ref b88), .val (.ref b93), .val (.long (0 : Int64)), .second, .unset] []))
    refine own_st (fun t k => XS.aload X93.here hx rfl (hb hby at_28) rfl rfl k) ?_
    show own_Run p e below s _ _ _ (T93.setTop (mkF m 30 #[.val (.int i0), .val (.int i1), .val (.int i2), .val (.int i3), .val (.int i4), .val (.int (2 : Int32)), .val (.ref b88), .val (.ref b93), .val (.long (0 : Int64)), .second, .unset] [(.ref b88)]))
    refine own_st (fun t k => XS.iconst X93.here hx rfl (hb hby at_30) k) ?_
    show own_Run p e below s _ _ _ (T93.setTop (mkF m 31 #[.val (.int i0), .val (.int i1), .val (.int i2), .val (.int i3), .val (.int i4), .val (.int (2 : Int32)), .val (.ref b88), .val (.ref b93), .val (.long (0 : Int64)), .second, .unset] [(.int (0 : Int32)), (.ref b88)]))
    refine own_st (fun t k => XS.iloadN X93.here hx rfl (hb hby at_31) rfl k) ?_
    show own_Run p e below s _ _ _ (T93.setTop (mkF m 32 #[.val (.int i0), .val (.int i1), .val (.int i2), .val (.int i3), .val (.int i4), .val (.int (2 : Int32)), .val (.ref b88), .val (.ref b93), .val (.long (0 : Int64)), .second, .unset] [(.int i1), (.int (0 : Int32)), (.ref b88)]))
    refine own_st (fun t k => XS.i2dS X93.here hx rfl (hb hby at_32) rfl (v := (FP.i2d i1)) (rfl) k) ?_
    show own_Run p e below s _ _ _ (T93.setTop (mkF m 33 #[.val (.int i0), .val (.int i1), .val (.int i2), .val (.int i3), .val (.int i4), .val (.int (2 : Int32)), .val (.ref b88), .val (.ref b93), .val (.long (0 : Int64)), .second, .unset] [(.double (FP.i2d i1)), (.int (0 : Int32)), (.ref b88)]))
    have V98 := (V88.ext E93)
    obtain ⟨cl99, Ar99, q99, S99, N99, H99, G99⟩ := id V98
    have hin99 : ¬ ((0 : Int32) < 0 ∨ cl99.slots.size ≤ ((0 : Int32)).toNatClampNeg) := inb_of S99 ⟨by decide, by decide⟩
    obtain ⟨T100, h100, X100, e100, W100, st100⟩ := stD X93 hx hZ e93 Ar99 (j := (0 : Int32)) hin99 (g := (mkF m 33 #[.val (.int i0), .val (.int i1), .val (.int i2), .val (.int i3), .val (.int i4), .val (.int (2 : Int32)), .val (.ref b88), .val (.ref b93), .val (.long (0 : Int64)), .second, .unset] [(.double (FP.i2d i1)), (.int (0 : Int32)), (.ref b88)])) rfl rfl (hb hby at_33)
    refine own_st st100 ?_
    have V100 : Arv Z h100 b88 k88 .double (2 : Int32) [(.double (FP.i2d i1)), (.double (0 : UInt64))] (.double (0 : UInt64)) := Arv.set Ar99 q99 S99 N99 H99 G99 rfl W100 0 rfl (Nat.le_of_ble_eq_true rfl)
    have N100 := Fr.snoc X100 N0 ge90
    have K101 : Keep h0 h100 [] := K96.wr W100 (Or.inr sz89)
    have O102 := O97.wr W100 ge90
    show own_Run p e below s _ _ _ (T100.setTop (mkF m 34 #[.val (.int i0), .val (.int i1), .val (.int i2), .val (.int i3), .val (.int i4), .val (.int (2 : Int32)), .val (.ref b88), .val (.ref b93), .val (.long (0 : Int64)), .second, .unset] []))
    refine own_st (fun t k => XS.aload X100.here hx rfl (hb hby at_34) rfl rfl k) ?_
    show own_Run p e below s _ _ _ (T100.setTop (mkF m 36 #[.val (.int i0), .val (.int i1), .val (.int i2), .val (.int i3), .val (.int i4), .val (.int (2 : Int32)), .val (.ref b88), .val (.ref b93), .val (.long (0 : Int64)), .second, .unset] [(.ref b93)]))
    refine own_st (fun t k => XS.iconst X100.here hx rfl (hb hby at_36) k) ?_
    show own_Run p e below s _ _ _ (T100.setTop (mkF m 37 #[.val (.int i0), .val (.int i1), .val (.int i2), .val (.int i3), .val (.int i4), .val (.int (2 : Int32)), .val (.ref b88), .val (.ref b93), .val (.long (0 : Int64)), .second, .unset] [(.int (0 : Int32)), (.ref b93)]))
    refine own_st (fun t k => XS.iconst X100.here hx rfl (hb hby at_37) k) ?_
    show own_Run p e below s _ _ _ (T100.setTop (mkF m 38 #[.val (.int i0), .val (.int i1), .val (.int i2), .val (.int i3), .val (.int i4), .val (.int (2 : Int32)), .val (.ref b88), .val (.ref b93), .val (.long (0 : Int64)), .second, .unset] [(.int (0 : Int32)), (.int (0 : Int32)), (.ref b93)]))
    have V103 := (V93.other W100 (Ne.symm (Nat.ne_of_lt (Nat.lt_of_lt_of_le A88.lt (Nat.le_of_eq g93.symm)))))
    obtain ⟨cl104, Ar104, q104, S104, N104, H104, G104⟩ := id V103
    have hin104 : ¬ ((0 : Int32) < 0 ∨ cl104.slots.size ≤ ((0 : Int32)).toNatClampNeg) := inb_of S104 ⟨by decide, by decide⟩
    obtain ⟨T105, h105, X105, e105, W105, st105⟩ := stI X100 hx hZ e100 Ar104 (j := (0 : Int32)) hin104 (g := (mkF m 38 #[.val (.int i0), .val (.int i1), .val (.int i2), .val (.int i3), .val (.int i4), .val (.int (2 : Int32)), .val (.ref b88), .val (.ref b93), .val (.long (0 : Int64)), .second, .unset] [(.int (0 : Int32)), (.int (0 : Int32)), (.ref b93)])) rfl rfl (hb hby at_38)
    refine own_st st105 ?_
    have V105 : Arv Z h105 b93 k93 .int (2 : Int32) [(.int (0 : Int32)), (.int (0 : Int32))] (.int (0 : Int32)) := Arv.set Ar104 q104 S104 N104 H104 G104 rfl W105 0 rfl (Nat.le_of_ble_eq_true rfl)
    have N105 := Fr.snoc X105 N100 ge95
    have K106 : Keep h0 h105 [] := K101.wr W105 (Or.inr sz94)
    have O107 := O102.wr W105 ge95
    show own_Run p e below s _ _ _ (T105.setTop (mkF m 39 #[.val (.int i0), .val (.int i1), .val (.int i2), .val (.int i3), .val (.int i4), .val (.int (2 : Int32)), .val (.ref b88), .val (.ref b93), .val (.long (0 : Int64)), .second, .unset] []))
    refine own_st (fun t k => XS.lload X105.here hx rfl (hb hby at_39) rfl k) ?_
    show own_Run p e below s _ _ _ (T105.setTop (mkF m 41 #[.val (.int i0), .val (.int i1), .val (.int i2), .val (.int i3), .val (.int i4), .val (.int (2 : Int32)), .val (.ref b88), .val (.ref b93), .val (.long (0 : Int64)), .second, .unset] [(.long (0 : Int64))]))
    refine own_st (fun t k => XS.iloadN X105.here hx rfl (hb hby at_41) rfl k) ?_
    show own_Run p e below s _ _ _ (T105.setTop (mkF m 42 #[.val (.int i0), .val (.int i1), .val (.int i2), .val (.int i3), .val (.int i4), .val (.int (2 : Int32)), .val (.ref b88), .val (.ref b93), .val (.long (0 : Int64)), .second, .unset] [(.int i1), (.long (0 : Int64))]))
    refine own_st (fun t k => XS.i2l X105.here hx rfl (hb hby at_42) rfl k) ?_
    show own_Run p e below s _ _ _ (T105.setTop (mkF m 43 #[.val (.int i0), .val (.int i1), .val (.int i2), .val (.int i3), .val (.int i4), .val (.int (2 : Int32)), .val (.ref b88), .val (.ref b93), .val (.long (0 : Int64)), .second, .unset] [(.long (i1.toInt64)), (.long (0 : Int64))]))
    refine own_st (fun t k => XS.ladd X105.here hx rfl (hb hby at_43) rfl k) ?_
    show own_Run p e below s _ _ _ (T105.setTop (mkF m 44 #[.val (.int i0), .val (.int i1), .val (.int i2), .val (.int i3), .val (.int i4), .val (.int (2 : Int32)), .val (.ref b88), .val (.ref b93), .val (.long (0 : Int64)), .second, .unset] [(.long ((0 : Int64) + (i1.toInt64)))]))
    refine own_st (fun t k => XS.lstore X105.here hx rfl (hb hby at_44) rfl (l' := #[.val (.int i0), .val (.int i1), .val (.int i2), .val (.int i3), .val (.int i4), .val (.int (2 : Int32)), .val (.ref b88), .val (.ref b93), .val (.long ((0 : Int64) + (i1.toInt64))), .second, .unset]) rfl k) ?_
    show own_Run p e below s _ _ _ (T105.setTop (mkF m 46 #[.val (.int i0), .val (.int i1), .val (.int i2), .val (.int i3), .val (.int i4), .val (.int (2 : Int32)), .val (.ref b88), .val (.ref b93), .val (.long ((0 : Int64) + (i1.toInt64))), .second, .unset] []))
    refine own_st (fun t k => XS.iload X105.here hx rfl (hb hby at_46) rfl k) ?_
    show own_Run p e below s _ _ _ (T105.setTop (mkF m 48 #[.val (.int i0), .val (.int i1), .val (.int i2), .val (.int i3), .val (.int i4), .val (.int (2 : Int32)), .val (.ref b88), .val (.ref b93), .val (.long ((0 : Int64) + (i1.toInt64))), .second, .unset] [(.int (2 : Int32))]))
    refine own_st (fun t k => XS.iconst X105.here hx rfl (hb hby at_48) k) ?_
    show own_Run p e below s _ _ _ (T105.setTop (mkF m 49 #[.val (.int i0), .val (.int i1), .val (.int i2), .val (.int i3), .val (.int i4), .val (.int (2 : Int32)), .val (.ref b88), .val (.ref b93), .val (.long ((0 : Int64) + (i1.toInt64))), .second, .unset] [(.int (1 : Int32)), (.int (2 : Int32))]))
    refine own_st (fun t k => XS.icmpNo X105.here hx rfl (hb hby at_49) rfl (tlt (by decide : (1 : Int32) < (2 : Int32))).2.2.2 k) ?_
    show own_Run p e below s _ _ _ (T105.setTop (mkF m 52 #[.val (.int i0), .val (.int i1), .val (.int i2), .val (.int i3), .val (.int i4), .val (.int (2 : Int32)), .val (.ref b88), .val (.ref b93), .val (.long ((0 : Int64) + (i1.toInt64))), .second, .unset] []))
    refine own_st (fun t k => XS.aload X105.here hx rfl (hb hby at_52) rfl rfl k) ?_
    show own_Run p e below s _ _ _ (T105.setTop (mkF m 54 #[.val (.int i0), .val (.int i1), .val (.int i2), .val (.int i3), .val (.int i4), .val (.int (2 : Int32)), .val (.ref b88), .val (.ref b93), .val (.long ((0 : Int64) + (i1.toInt64))), .second, .unset] [(.ref b88)]))
    refine own_st (fun t k => XS.iconst X105.here hx rfl (hb hby at_54) k) ?_
    show own_Run p e below s _ _ _ (T105.setTop (mkF m 55 #[.val (.int i0), .val (.int i1), .val (.int i2), .val (.int i3), .val (.int i4), .val (.int (2 : Int32)), .val (.ref b88), .val (.ref b93), .val (.long ((0 : Int64) + (i1.toInt64))), .second, .unset] [(.int (1 : Int32)), (.ref b88)]))
    refine own_st (fun t k => XS.iloadN X105.here hx rfl (hb hby at_55) rfl k) ?_
    show own_Run p e below s _ _ _ (T105.setTop (mkF m 56 #[.val (.int i0), .val (.int i1), .val (.int i2), .val (.int i3), .val (.int i4), .val (.int (2 : Int32)), .val (.ref b88), .val (.ref b93), .val (.long ((0 : Int64) + (i1.toInt64))), .second, .unset] [(.int i2), (.int (1 : Int32)), (.ref b88)]))
    refine own_st (fun t k => XS.i2dS X105.here hx rfl (hb hby at_56) rfl (v := (FP.i2d i2)) (rfl) k) ?_
    show own_Run p e below s _ _ _ (T105.setTop (mkF m 57 #[.val (.int i0), .val (.int i1), .val (.int i2), .val (.int i3), .val (.int i4), .val (.int (2 : Int32)), .val (.ref b88), .val (.ref b93), .val (.long ((0 : Int64) + (i1.toInt64))), .second, .unset] [(.double (FP.i2d i2)), (.int (1 : Int32)), (.ref b88)]))
    have V108 := (V100.other W105 (Nat.ne_of_lt (Nat.lt_of_lt_of_le A88.lt (Nat.le_of_eq g93.symm))))
    obtain ⟨cl109, Ar109, q109, S109, N109, H109, G109⟩ := id V108
    have hin109 : ¬ ((1 : Int32) < 0 ∨ cl109.slots.size ≤ ((1 : Int32)).toNatClampNeg) := inb_of S109 ⟨by decide, by decide⟩
    obtain ⟨T110, h110, X110, e110, W110, st110⟩ := stD X105 hx hZ e105 Ar109 (j := (1 : Int32)) hin109 (g := (mkF m 57 #[.val (.int i0), .val (.int i1), .val (.int i2), .val (.int i3), .val (.int i4), .val (.int (2 : Int32)), .val (.ref b88), .val (.ref b93), .val (.long ((0 : Int64) + (i1.toInt64))), .second, .unset] [(.double (FP.i2d i2)), (.int (1 : Int32)), (.ref b88)])) rfl rfl (hb hby at_57)
    refine own_st st110 ?_
    have V110 : Arv Z h110 b88 k88 .double (2 : Int32) [(.double (FP.i2d i1)), (.double (FP.i2d i2))] (.double (0 : UInt64)) := Arv.set Ar109 q109 S109 N109 H109 G109 rfl W110 1 rfl (Nat.le_of_ble_eq_true rfl)
    have N110 := Fr.snoc X110 N105 ge90
    have K111 : Keep h0 h110 [] := K106.wr W110 (Or.inr sz89)
    have O112 := O107.wr W110 ge90
    show own_Run p e below s _ _ _ (T110.setTop (mkF m 58 #[.val (.int i0), .val (.int i1), .val (.int i2), .val (.int i3), .val (.int i4), .val (.int (2 : Int32)), .val (.ref b88), .val (.ref b93), .val (.long ((0 : Int64) + (i1.toInt64))), .second, .unset] []))
    refine own_st (fun t k => XS.aload X110.here hx rfl (hb hby at_58) rfl rfl k) ?_
    show own_Run p e below s _ _ _ (T110.setTop (mkF m 60 #[.val (.int i0), .val (.int i1), .val (.int i2), .val (.int i3), .val (.int i4), .val (.int (2 : Int32)), .val (.ref b88), .val (.ref b93), .val (.long ((0 : Int64) + (i1.toInt64))), .second, .unset] [(.ref b93)]))
    refine own_st (fun t k => XS.iconst X110.here hx rfl (hb hby at_60) k) ?_
    show own_Run p e below s _ _ _ (T110.setTop (mkF m 61 #[.val (.int i0), .val (.int i1), .val (.int i2), .val (.int i3), .val (.int i4), .val (.int (2 : Int32)), .val (.ref b88), .val (.ref b93), .val (.long ((0 : Int64) + (i1.toInt64))), .second, .unset] [(.int (1 : Int32)), (.ref b93)]))
    refine own_st (fun t k => XS.iconst X110.here hx rfl (hb hby at_61) k) ?_
    show own_Run p e below s _ _ _ (T110.setTop (mkF m 62 #[.val (.int i0), .val (.int i1), .val (.int i2), .val (.int i3), .val (.int i4), .val (.int (2 : Int32)), .val (.ref b88), .val (.ref b93), .val (.long ((0 : Int64) + (i1.toInt64))), .second, .unset] [(.int (1 : Int32)), (.int (1 : Int32)), (.ref b93)]))
    have V113 := (V105.other W110 (Ne.symm (Nat.ne_of_lt (Nat.lt_of_lt_of_le A88.lt (Nat.le_of_eq g93.symm)))))
    obtain ⟨cl114, Ar114, q114, S114, N114, H114, G114⟩ := id V113
    have hin114 : ¬ ((1 : Int32) < 0 ∨ cl114.slots.size ≤ ((1 : Int32)).toNatClampNeg) := inb_of S114 ⟨by decide, by decide⟩
    obtain ⟨T115, h115, X115, e115, W115, st115⟩ := stI X110 hx hZ e110 Ar114 (j := (1 : Int32)) hin114 (g := (mkF m 62 #[.val (.int i0), .val (.int i1), .val (.int i2), .val (.int i3), .val (.int i4), .val (.int (2 : Int32)), .val (.ref b88), .val (.ref b93), .val (.long ((0 : Int64) + (i1.toInt64))), .second, .unset] [(.int (1 : Int32)), (.int (1 : Int32)), (.ref b93)])) rfl rfl (hb hby at_62)
    refine own_st st115 ?_
    have V115 : Arv Z h115 b93 k93 .int (2 : Int32) [(.int (0 : Int32)), (.int (1 : Int32))] (.int (0 : Int32)) := Arv.set Ar114 q114 S114 N114 H114 G114 rfl W115 1 rfl (Nat.le_of_ble_eq_true rfl)
    have N115 := Fr.snoc X115 N110 ge95
    have K116 : Keep h0 h115 [] := K111.wr W115 (Or.inr sz94)
    have O117 := O112.wr W115 ge95
    show own_Run p e below s _ _ _ (T115.setTop (mkF m 63 #[.val (.int i0), .val (.int i1), .val (.int i2), .val (.int i3), .val (.int i4), .val (.int (2 : Int32)), .val (.ref b88), .val (.ref b93), .val (.long ((0 : Int64) + (i1.toInt64))), .second, .unset] []))
    refine own_st (fun t k => XS.lload X115.here hx rfl (hb hby at_63) rfl k) ?_
    show own_Run p e below s _ _ _ (T115.setTop (mkF m 65 #[.val (.int i0), .val (.int i1), .val (.int i2), .val (.int i3), .val (.int i4), .val (.int (2 : Int32)), .val (.ref b88), .val (.ref b93), .val (.long ((0 : Int64) + (i1.toInt64))), .second, .unset] [(.long ((0 : Int64) + (i1.toInt64)))]))
    refine own_st (fun t k => XS.iloadN X115.here hx rfl (hb hby at_65) rfl k) ?_
    show own_Run p e below s _ _ _ (T115.setTop (mkF m 66 #[.val (.int i0), .val (.int i1), .val (.int i2), .val (.int i3), .val (.int i4), .val (.int (2 : Int32)), .val (.ref b88), .val (.ref b93), .val (.long ((0 : Int64) + (i1.toInt64))), .second, .unset] [(.int i2), (.long ((0 : Int64) + (i1.toInt64)))]))
    refine own_st (fun t k => XS.i2l X115.here hx rfl (hb hby at_66) rfl k) ?_
    show own_Run p e below s _ _ _ (T115.setTop (mkF m 67 #[.val (.int i0), .val (.int i1), .val (.int i2), .val (.int i3), .val (.int i4), .val (.int (2 : Int32)), .val (.ref b88), .val (.ref b93), .val (.long ((0 : Int64) + (i1.toInt64))), .second, .unset] [(.long (i2.toInt64)), (.long ((0 : Int64) + (i1.toInt64)))]))
    refine own_st (fun t k => XS.ladd X115.here hx rfl (hb hby at_67) rfl k) ?_
    show own_Run p e below s _ _ _ (T115.setTop (mkF m 68 #[.val (.int i0), .val (.int i1), .val (.int i2), .val (.int i3), .val (.int i4), .val (.int (2 : Int32)), .val (.ref b88), .val (.ref b93), .val (.long ((0 : Int64) + (i1.toInt64))), .second, .unset] [(.long (((0 : Int64) + (i1.toInt64)) + (i2.toInt64)))]))
    refine own_st (fun t k => XS.lstore X115.here hx rfl (hb hby at_68) rfl (l' := #[.val (.int i0), .val (.int i1), .val (.int i2), .val (.int i3), .val (.int i4), .val (.int (2 : Int32)), .val (.ref b88), .val (.ref b93), .val (.long (((0 : Int64) + (i1.toInt64)) + (i2.toInt64))), .second, .unset]) rfl k) ?_
    show own_Run p e below s _ _ _ (T115.setTop (mkF m 70 #[.val (.int i0), .val (.int i1), .val (.int i2), .val (.int i3), .val (.int i4), .val (.int (2 : Int32)), .val (.ref b88), .val (.ref b93), .val (.long (((0 : Int64) + (i1.toInt64)) + (i2.toInt64))), .second, .unset] []))
    refine own_st (fun t k => XS.iload X115.here hx rfl (hb hby at_70) rfl k) ?_
    show own_Run p e below s _ _ _ (T115.setTop (mkF m 72 #[.val (.int i0), .val (.int i1), .val (.int i2), .val (.int i3), .val (.int i4), .val (.int (2 : Int32)), .val (.ref b88), .val (.ref b93), .val (.long (((0 : Int64) + (i1.toInt64)) + (i2.toInt64))), .second, .unset] [(.int (2 : Int32))]))
    refine own_st (fun t k => XS.iconst X115.here hx rfl (hb hby at_72) k) ?_
    show own_Run p e below s _ _ _ (T115.setTop (mkF m 73 #[.val (.int i0), .val (.int i1), .val (.int i2), .val (.int i3), .val (.int i4), .val (.int (2 : Int32)), .val (.ref b88), .val (.ref b93), .val (.long (((0 : Int64) + (i1.toInt64)) + (i2.toInt64))), .second, .unset] [(.int (2 : Int32)), (.int (2 : Int32))]))
    refine own_st (fun t k => XS.icmpYes X115.here hx rfl (pc0 := 73) (pc' := 94) rfl (hb hby at_73) rfl (flt (by decide : ¬ ((2 : Int32) < (2 : Int32)))).2.2.2 (by decide) (by decide) k) ?_
    show own_Run p e below s _ _ _ (T115.setTop (mkF m 94 #[.val (.int i0), .val (.int i1), .val (.int i2), .val (.int i3), .val (.int i4), .val (.int (2 : Int32)), .val (.ref b88), .val (.ref b93), .val (.long (((0 : Int64) + (i1.toInt64)) + (i2.toInt64))), .second, .unset] []))
    refine own_st (fun t k => XS.iload X115.here hx rfl (hb hby at_94) rfl k) ?_
    show own_Run p e below s _ _ _ (T115.setTop (mkF m 96 #[.val (.int i0), .val (.int i1), .val (.int i2), .val (.int i3), .val (.int i4), .val (.int (2 : Int32)), .val (.ref b88), .val (.ref b93), .val (.long (((0 : Int64) + (i1.toInt64)) + (i2.toInt64))), .second, .unset] [(.int (2 : Int32))]))
    refine own_st (fun t k => XS.iconst X115.here hx rfl (hb hby at_96) k) ?_
    show own_Run p e below s _ _ _ (T115.setTop (mkF m 97 #[.val (.int i0), .val (.int i1), .val (.int i2), .val (.int i3), .val (.int i4), .val (.int (2 : Int32)), .val (.ref b88), .val (.ref b93), .val (.long (((0 : Int64) + (i1.toInt64)) + (i2.toInt64))), .second, .unset] [(.int (3 : Int32)), (.int (2 : Int32))]))
    refine own_st (fun t k => XS.icmpYes X115.here hx rfl (pc0 := 97) (pc' := 120) rfl (hb hby at_97) rfl (flt (by decide : ¬ ((3 : Int32) < (2 : Int32)))).2.2.2 (by decide) (by decide) k) ?_
    show own_Run p e below s _ _ _ (T115.setTop (mkF m 120 #[.val (.int i0), .val (.int i1), .val (.int i2), .val (.int i3), .val (.int i4), .val (.int (2 : Int32)), .val (.ref b88), .val (.ref b93), .val (.long (((0 : Int64) + (i1.toInt64)) + (i2.toInt64))), .second, .unset] []))
    obtain ⟨T118, h118, X118, e118, E118, A118, D118, -, st118⟩ := newO X115 hx hZ hown (hw _ (List.mem_of_getElem? (i := 3) rfl)) (hw _ (List.mem_of_getElem? (i := 4) rfl)) (hw _ (List.mem_of_getElem? (i := 5) rfl)) e115 (g := (mkF m 120 #[.val (.int i0), .val (.int i1), .val (.int i2), .val (.int i3), .val (.int i4), .val (.int (2 : Int32)), .val (.ref b88), .val (.ref b93), .val (.long (((0 : Int64) + (i1.toInt64)) + (i2.toInt64))), .second, .unset] [])) rfl (hb hby at_120) (by decide) (by decide)
    obtain ⟨b118, g118⟩ : ∃ z, z = h115.size := ⟨_, rfl⟩
    rw [← g118] at A118 D118 st118
    have sz119 : h0.size ≤ b118 := Nat.le_trans K116.1 (Nat.le_of_eq g118.symm)
    have ge120 : n0 ≤ b118 := Nat.le_trans Z0 sz119
    refine own_st st118 ?_
    have K121 : Keep h0 h118 [] := K116.ext E118
    have O122 := O117.ext E118
    show own_Run p e below s _ _ _ (T118.setTop (mkF m 123 #[.val (.int i0), .val (.int i1), .val (.int i2), .val (.int i3), .val (.int i4), .val (.int (2 : Int32)), .val (.ref b88), .val (.ref b93), .val (.long (((0 : Int64) + (i1.toInt64)) + (i2.toInt64))), .second, .unset] [(.ref b118)]))
    refine own_st (fun t k => XS.dup X118.here hx rfl (hb hby at_123) rfl rfl k) ?_
    show own_Run p e below s _ _ _ (T118.setTop (mkF m 124 #[.val (.int i0), .val (.int i1), .val (.int i2), .val (.int i3), .val (.int i4), .val (.int (2 : Int32)), .val (.ref b88), .val (.ref b93), .val (.long (((0 : Int64) + (i1.toInt64)) + (i2.toInt64))), .second, .unset] [(.ref b118), (.ref b118)]))
    refine own_st (fun t k => XS.aload X118.here hx rfl (hb hby at_124) rfl rfl k) ?_
    show own_Run p e below s _ _ _ (T118.setTop (mkF m 126 #[.val (.int i0), .val (.int i1), .val (.int i2), .val (.int i3), .val (.int i4), .val (.int (2 : Int32)), .val (.ref b88), .val (.ref b93), .val (.long (((0 : Int64) + (i1.toInt64)) + (i2.toInt64))), .second, .unset] [(.ref b93), (.ref b118), (.ref b118)]))
    refine own_st (fun t k => XS.aload X118.here hx rfl (hb hby at_126) rfl rfl k) ?_
    show own_Run p e below s _ _ _ (T118.setTop (mkF m 128 #[.val (.int i0), .val (.int i1), .val (.int i2), .val (.int i3), .val (.int i4), .val (.int (2 : Int32)), .val (.ref b88), .val (.ref b93), .val (.long (((0 : Int64) + (i1.toInt64)) + (i2.toInt64))), .second, .unset] [(.ref b88), (.ref b93), (.ref b118), (.ref b118)]))
    refine own_callI X118 hx hZ (y := (⟨"com/example/usurf/usurf/WalkWeights$Weights", "<init>", "([I[D)V"⟩ : MethodName)) rfl hown (hw _ (List.mem_of_getElem? (i := 6) rfl)) (hw _ (List.mem_of_getElem? (i := 7) rfl)) (hw _ (List.mem_of_getElem? (i := 8) rfl)) (hw _ (List.mem_of_getElem? (i := 5) rfl)) (by decide) e118 (a := b118) (argsL := [(.ref b93), (.ref b88)]) (rest := [(.ref b118)]) (W := 1) (own_rm1 l Z a0 hw [] b118 b93 b88 h118 n0 (Nat.le_trans Z0 K121.1) A118 D118 ge120) (by decide) (by decide) (by rw [hml]; rfl) (lenOf own_pd3 rfl) rfl (by exact Nat.le_of_eq rfl) (hb hby at_128) (by decide) (by decide) ?_
    intro T123 v123 L123 X123 hq123
    obtain ⟨rfl, N123q, K123q, Q124, Q125⟩ := hq123
    have K126 : Keep h0 T123.heap [] := K121.trans K123q (allS (Or.inr sz119) all0)
    have O127 := O122.keep K123q (allS ge120 all0)
    have N123 := Fr.app N115 N123q
    show own_Run p e below s _ _ _ (T123.setTop (mkF m 131 #[.val (.int i0), .val (.int i1), .val (.int i2), .val (.int i3), .val (.int i4), .val (.int (2 : Int32)), .val (.ref b88), .val (.ref b93), .val (.long (((0 : Int64) + (i1.toInt64)) + (i2.toInt64))), .second, .unset] [(.ref b118)]))
    refine own_st (fun t k => XS.astore X123.here hx rfl (hb hby at_131) rfl rfl (l' := #[.val (.int i0), .val (.int i1), .val (.int i2), .val (.int i3), .val (.int i4), .val (.int (2 : Int32)), .val (.ref b88), .val (.ref b93), .val (.long (((0 : Int64) + (i1.toInt64)) + (i2.toInt64))), .second, .val (.ref b118)]) rfl k) ?_
    show own_Run p e below s _ _ _ (T123.setTop (mkF m 133 #[.val (.int i0), .val (.int i1), .val (.int i2), .val (.int i3), .val (.int i4), .val (.int (2 : Int32)), .val (.ref b88), .val (.ref b93), .val (.long (((0 : Int64) + (i1.toInt64)) + (i2.toInt64))), .second, .val (.ref b118)] []))
    have rb1 := i1.le_toInt; have ra1 := i1.toInt_lt
    have rb2 := i2.le_toInt; have ra2 := i2.toInt_lt
    have z0 := own_Z0
    have z1 := own_zz (y := i1) z0 (by omega)
    have z2 := own_zz (y := i2) z1 (by omega)
    have t0 : (0 : Int64).toInt = 0 := rfl
    have t1 := own_ls (y := i1) t0 (by omega)
    have t2 := own_ls (y := i2) t1 (by omega)
    refine own_st (fun t k => XS.aload X123.here hx rfl (hb hby at_133) rfl rfl k) ?_
    show own_Run p e below s _ _ _ (T123.setTop (mkF m 135 #[.val (.int i0), .val (.int i1), .val (.int i2), .val (.int i3), .val (.int i4), .val (.int (2 : Int32)), .val (.ref b88), .val (.ref b93), .val (.long (((0 : Int64) + (i1.toInt64)) + (i2.toInt64))), .second, .val (.ref b118)] [(.ref b118)]))
    have V128 := (((V110.other W115 (Nat.ne_of_lt (Nat.lt_of_lt_of_le A88.lt (Nat.le_of_eq g93.symm)))).ext E118).keep K123q (ninS (Nat.ne_of_lt (Nat.lt_of_lt_of_le (Nat.lt_of_lt_of_le (Nat.lt_of_lt_of_le (Nat.lt_of_lt_of_le (Nat.lt_of_lt_of_le (Nat.lt_of_lt_of_le A88.lt E93.1) (Nat.le_of_eq W100.size.symm)) (Nat.le_of_eq W105.size.symm)) (Nat.le_of_eq W110.size.symm)) (Nat.le_of_eq W115.size.symm)) (Nat.le_of_eq g118.symm))) nin0))
    refine own_callV X123 hx hZ (y := (⟨"com/example/usurf/usurf/WalkWeights$Weights", "sum", "()D"⟩ : MethodName)) (C := "com/example/usurf/usurf/WalkWeights$Weights") hown (hw _ (List.mem_of_getElem? (i := 21) rfl)) (hw _ (List.mem_of_getElem? (i := 22) rfl)) (hw _ (List.mem_of_getElem? (i := 24) rfl)) (hw _ (List.mem_of_getElem? (i := 23) rfl)) (hw _ (List.mem_of_getElem? (i := 25) rfl)) (hw _ (List.mem_of_getElem? (i := 5) rfl)) (by decide) rfl (a := b118) Q124 (argsL := []) (rest := []) (W := 0) (own_rm4pn2 l Z a0 hw [] b118 b88 k88 (FP.i2d i1) (FP.i2d i2) T123.heap n0 (Nat.le_trans Z0 K126.1) Q125 V128 (z1.nn) (z2.nn)) (by decide) (by decide) (by rw [hml]; rfl) (lenOf own_pd4 rfl) rfl (by exact Nat.le_of_eq rfl) (hb hby at_135) (by decide) (by decide) ?_
    intro T129 v129 L129 X129 hq129
    obtain ⟨rfl, N129q, hh129⟩ := hq129
    have N129 := Fr.app N123 N129q
    show own_Run p e below s _ _ _ (T129.setTop (mkF m 138 #[.val (.int i0), .val (.int i1), .val (.int i2), .val (.int i3), .val (.int i4), .val (.int (2 : Int32)), .val (.ref b88), .val (.ref b93), .val (.long (((0 : Int64) + (i1.toInt64)) + (i2.toInt64))), .second, .val (.ref b118)] [(.double (FP.dadd (FP.dadd (0 : UInt64) (FP.i2d i1)) (FP.i2d i2)))]))
    refine own_st (fun t k => XS.lload X129.here hx rfl (hb hby at_138) rfl k) ?_
    show own_Run p e below s _ _ _ (T129.setTop (mkF m 140 #[.val (.int i0), .val (.int i1), .val (.int i2), .val (.int i3), .val (.int i4), .val (.int (2 : Int32)), .val (.ref b88), .val (.ref b93), .val (.long (((0 : Int64) + (i1.toInt64)) + (i2.toInt64))), .second, .val (.ref b118)] [(.long (((0 : Int64) + (i1.toInt64)) + (i2.toInt64))), (.double (FP.dadd (FP.dadd (0 : UInt64) (FP.i2d i1)) (FP.i2d i2)))]))
    refine own_st (fun t k => XS.l2dS X129.here hx rfl (hb hby at_140) rfl (v := (FP.l2d (((0 : Int64) + (i1.toInt64)) + (i2.toInt64)))) (rfl) k) ?_
    show own_Run p e below s _ _ _ (T129.setTop (mkF m 141 #[.val (.int i0), .val (.int i1), .val (.int i2), .val (.int i3), .val (.int i4), .val (.int (2 : Int32)), .val (.ref b88), .val (.ref b93), .val (.long (((0 : Int64) + (i1.toInt64)) + (i2.toInt64))), .second, .val (.ref b118)] [(.double (FP.l2d (((0 : Int64) + (i1.toInt64)) + (i2.toInt64)))), (.double (FP.dadd (FP.dadd (0 : UInt64) (FP.i2d i1)) (FP.i2d i2)))]))
    refine own_st (fun t k => XS.dcmpS X129.here hx rfl (hb hby at_141) rfl (v := (0 : Int32)) (z2.cmpE (own_Z.l2d (by rw [t2]; omega)) t2.symm _) k) ?_
    show own_Run p e below s _ _ _ (T129.setTop (mkF m 142 #[.val (.int i0), .val (.int i1), .val (.int i2), .val (.int i3), .val (.int i4), .val (.int (2 : Int32)), .val (.ref b88), .val (.ref b93), .val (.long (((0 : Int64) + (i1.toInt64)) + (i2.toInt64))), .second, .val (.ref b118)] [(.int (0 : Int32))]))
    refine own_st (fun t k => XS.ifNo X129.here hx rfl (hb hby at_142) rfl ((if0 _ _).trans (teq (by decide : (0 : Int32) = (0 : Int32))).2) k) ?_
    show own_Run p e below s _ _ _ (T129.setTop (mkF m 145 #[.val (.int i0), .val (.int i1), .val (.int i2), .val (.int i3), .val (.int i4), .val (.int (2 : Int32)), .val (.ref b88), .val (.ref b93), .val (.long (((0 : Int64) + (i1.toInt64)) + (i2.toInt64))), .second, .val (.ref b118)] []))
    refine own_st (fun t k => XS.iconst X129.here hx rfl (hb hby at_145) k) ?_
    show own_Run p e below s _ _ _ (T129.setTop (mkF m 146 #[.val (.int i0), .val (.int i1), .val (.int i2), .val (.int i3), .val (.int i4), .val (.int (2 : Int32)), .val (.ref b88), .val (.ref b93), .val (.long (((0 : Int64) + (i1.toInt64)) + (i2.toInt64))), .second, .val (.ref b118)] [(.int (1 : Int32))]))
    refine own_st (fun t k => XS.goto X129.here hx rfl (pc0 := 146) (pc' := 150) rfl (hb hby at_146) (by decide) (by decide) k) ?_
    show own_Run p e below s _ _ _ (T129.setTop (mkF m 150 #[.val (.int i0), .val (.int i1), .val (.int i2), .val (.int i3), .val (.int i4), .val (.int (2 : Int32)), .val (.ref b88), .val (.ref b93), .val (.long (((0 : Int64) + (i1.toInt64)) + (i2.toInt64))), .second, .val (.ref b118)] [(.int (1 : Int32))]))
    exact own_ret X129 hx hlk (t := .boolean) hret rfl (Or.inl ⟨rfl, by simp, _, rfl⟩) (hb hby at_150) (by decide) (by decide) ⟨rfl, N129⟩
  · refine own_topI hn ?_
    show own_Run p e below s _ _ _ (s₁.setTop (mkF m 6 #[.val (.int i0), .val (.int i1), .val (.int i2), .val (.int i3), .val (.int i4), .unset, .unset, .unset, .unset, .unset, .unset] [(.int (3 : Int32))]))
    refine own_st (fun t k => XS.istore X0.here hx rfl (hb hby at_6) rfl (l' := #[.val (.int i0), .val (.int i1), .val (.int i2), .val (.int i3), .val (.int i4), .val (.int (3 : Int32)), .unset, .unset, .unset, .unset, .unset]) rfl k) ?_
    show own_Run p e below s _ _ _ (s₁.setTop (mkF m 8 #[.val (.int i0), .val (.int i1), .val (.int i2), .val (.int i3), .val (.int i4), .val (.int (3 : Int32)), .unset, .unset, .unset, .unset, .unset] []))
    refine own_st (fun t k => XS.iload X0.here hx rfl (hb hby at_8) rfl k) ?_
    show own_Run p e below s _ _ _ (s₁.setTop (mkF m 10 #[.val (.int i0), .val (.int i1), .val (.int i2), .val (.int i3), .val (.int i4), .val (.int (3 : Int32)), .unset, .unset, .unset, .unset, .unset] [(.int (3 : Int32))]))
    obtain ⟨T130, h130, k130, X130, e130, E130, A130, st130⟩ := newP X0 hx hZ (hw _ (List.mem_of_getElem? (i := 1) rfl)) e0 (g := (mkF m 10 #[.val (.int i0), .val (.int i1), .val (.int i2), .val (.int i3), .val (.int i4), .val (.int (3 : Int32)), .unset, .unset, .unset, .unset, .unset] [(.int (3 : Int32))])) rfl (hb hby at_10) rfl (by decide) (cap := 3) (by decide) (by decide) (by decide) (by decide)
    obtain ⟨b130, g130⟩ : ∃ z, z = h0.size := ⟨_, rfl⟩
    rw [← g130] at A130 st130
    have sz131 : h0.size ≤ b130 := Nat.le_trans K0.1 (Nat.le_of_eq g130.symm)
    have ge132 : n0 ≤ b130 := Nat.le_trans Z0 sz131
    refine own_st st130 ?_
    have V130 : Arv Z h130 b130 k130 .double (3 : Int32) [(.double (0 : UInt64)), (.double (0 : UInt64)), (.double (0 : UInt64))] (.double (0 : UInt64)) := (Arv.new A130 (by decide)).pad (pad_rep [] (.double (0 : UInt64)) 3)
    have K133 : Keep h0 h130 [] := K0.ext E130
    have O134 := O0.ext E130
    show own_Run p e below s _ _ _ (T130.setTop (mkF m 12 #[.val (.int i0), .val (.int i1), .val (.int i2), .val (.int i3), .val (.int i4), .val (.int (3 : Int32)), .unset, .unset, .unset, .unset, .unset] [(.ref b130)]))
    refine own_st (fun t k => XS.astore X130.here hx rfl (hb hby at_12) rfl rfl (l' := #[.val (.int i0), .val (.int i1), .val (.int i2), .val (.int i3), .val (.int i4), .val (.int (3 : Int32)), .val (.ref b130), .unset, .unset, .unset, .unset]) rfl k) ?_
    show own_Run p e below s _ _ _ (T130.setTop (mkF m 14 #[.val (.int i0), .val (.int i1), .val (.int i2), .val (.int i3), .val (.int i4), .val (.int (3 : Int32)), .val (.ref b130), .unset, .unset, .unset, .unset] []))
    refine own_st (fun t k => XS.iload X130.here hx rfl (hb hby at_14) rfl k) ?_
    show own_Run p e below s _ _ _ (T130.setTop (mkF m 16 #[.val (.int i0), .val (.int i1), .val (.int i2), .val (.int i3), .val (.int i4), .val (.int (3 : Int32)), .val (.ref b130), .unset, .unset, .unset, .unset] [(.int (3 : Int32))]))
    obtain ⟨T135, h135, k135, X135, e135, E135, A135, st135⟩ := newP X130 hx hZ (hw _ (List.mem_of_getElem? (i := 2) rfl)) e130 (g := (mkF m 16 #[.val (.int i0), .val (.int i1), .val (.int i2), .val (.int i3), .val (.int i4), .val (.int (3 : Int32)), .val (.ref b130), .unset, .unset, .unset, .unset] [(.int (3 : Int32))])) rfl (hb hby at_16) rfl (by decide) (cap := 3) (by decide) (by decide) (by decide) (by decide)
    obtain ⟨b135, g135⟩ : ∃ z, z = h130.size := ⟨_, rfl⟩
    rw [← g135] at A135 st135
    have sz136 : h0.size ≤ b135 := Nat.le_trans K133.1 (Nat.le_of_eq g135.symm)
    have ge137 : n0 ≤ b135 := Nat.le_trans Z0 sz136
    refine own_st st135 ?_
    have V135 : Arv Z h135 b135 k135 .int (3 : Int32) [(.int (0 : Int32)), (.int (0 : Int32)), (.int (0 : Int32))] (.int (0 : Int32)) := (Arv.new A135 (by decide)).pad (pad_rep [] (.int (0 : Int32)) 3)
    have K138 : Keep h0 h135 [] := K133.ext E135
    have O139 := O134.ext E135
    show own_Run p e below s _ _ _ (T135.setTop (mkF m 18 #[.val (.int i0), .val (.int i1), .val (.int i2), .val (.int i3), .val (.int i4), .val (.int (3 : Int32)), .val (.ref b130), .unset, .unset, .unset, .unset] [(.ref b135)]))
    refine own_st (fun t k => XS.astore X135.here hx rfl (hb hby at_18) rfl rfl (l' := #[.val (.int i0), .val (.int i1), .val (.int i2), .val (.int i3), .val (.int i4), .val (.int (3 : Int32)), .val (.ref b130), .val (.ref b135), .unset, .unset, .unset]) rfl k) ?_
    show own_Run p e below s _ _ _ (T135.setTop (mkF m 20 #[.val (.int i0), .val (.int i1), .val (.int i2), .val (.int i3), .val (.int i4), .val (.int (3 : Int32)), .val (.ref b130), .val (.ref b135), .unset, .unset, .unset] []))
    refine own_st (fun t k => XS.lconst X135.here hx rfl (hb hby at_20) k) ?_
    show own_Run p e below s _ _ _ (T135.setTop (mkF m 21 #[.val (.int i0), .val (.int i1), .val (.int i2), .val (.int i3), .val (.int i4), .val (.int (3 : Int32)), .val (.ref b130), .val (.ref b135), .unset, .unset, .unset] [(.long (0 : Int64))]))
    refine own_st (fun t k => XS.lstore X135.here hx rfl (hb hby at_21) rfl (l' := #[.val (.int i0), .val (.int i1), .val (.int i2), .val (.int i3), .val (.int i4), .val (.int (3 : Int32)), .val (.ref b130), .val (.ref b135), .val (.long (0 : Int64)), .second, .unset]) rfl k) ?_
    show own_Run p e below s _ _ _ (T135.setTop (mkF m 23 #[.val (.int i0), .val (.int i1), .val (.int i2), .val (.int i3), .val (.int i4), .val (.int (3 : Int32)), .val (.ref b130), .val (.ref b135), .val (.long (0 : Int64)), .second, .unset] []))
    refine own_st (fun t k => XS.iload X135.here hx rfl (hb hby at_23) rfl k) ?_
    show own_Run p e below s _ _ _ (T135.setTop (mkF m 25 #[.val (.int i0), .val (.int i1), .val (.int i2), .val (.int i3), .val (.int i4), .val (.int (3 : Int32)), .val (.ref b130), .val (.ref b135), .val (.long (0 : Int64)), .second, .unset] [(.int (3 : Int32))]))
    refine own_st (fun t k => XS.ifNo X135.here hx rfl (hb hby at_25) rfl ((if0 _ _).trans (tlt (by decide : (0 : Int32) < (3 : Int32))).2.2.2) k) ?_
    show own_Run p e below s _ _ _ (T135.setTop (mkF m 28 #[.val (.int i0), .val (.int i1), .val (.int i2), .val (.int i3), .val (.int i4), .val (.int (3 : Int32)), .val (.ref b130), .val (.ref b135), .val (.long (0 : Int64)), .second, .unset] []))
    refine own_st (fun t k => XS.aload X135.here hx rfl (hb hby at_28) rfl rfl k) ?_
    show own_Run p e below s _ _ _ (T135.setTop (mkF m 30 #[.val (.int i0), .val (.int i1), .val (.int i2), .val (.int i3), .val (.int i4), .val (.int (3 : Int32)), .val (.ref b130), .val (.ref b135), .val (.long (0 : Int64)), .second, .unset] [(.ref b130)]))
    refine own_st (fun t k => XS.iconst X135.here hx rfl (hb hby at_30) k) ?_
    show own_Run p e below s _ _ _ (T135.setTop (mkF m 31 #[.val (.int i0), .val (.int i1), .val (.int i2), .val (.int i3), .val (.int i4), .val (.int (3 : Int32)), .val (.ref b130), .val (.ref b135), .val (.long (0 : Int64)), .second, .unset] [(.int (0 : Int32)), (.ref b130)]))
    refine own_st (fun t k => XS.iloadN X135.here hx rfl (hb hby at_31) rfl k) ?_
    show own_Run p e below s _ _ _ (T135.setTop (mkF m 32 #[.val (.int i0), .val (.int i1), .val (.int i2), .val (.int i3), .val (.int i4), .val (.int (3 : Int32)), .val (.ref b130), .val (.ref b135), .val (.long (0 : Int64)), .second, .unset] [(.int i1), (.int (0 : Int32)), (.ref b130)]))
    refine own_st (fun t k => XS.i2dS X135.here hx rfl (hb hby at_32) rfl (v := (FP.i2d i1)) (rfl) k) ?_
    show own_Run p e below s _ _ _ (T135.setTop (mkF m 33 #[.val (.int i0), .val (.int i1), .val (.int i2), .val (.int i3), .val (.int i4), .val (.int (3 : Int32)), .val (.ref b130), .val (.ref b135), .val (.long (0 : Int64)), .second, .unset] [(.double (FP.i2d i1)), (.int (0 : Int32)), (.ref b130)]))
    have V140 := (V130.ext E135)
    obtain ⟨cl141, Ar141, q141, S141, N141, H141, G141⟩ := id V140
    have hin141 : ¬ ((0 : Int32) < 0 ∨ cl141.slots.size ≤ ((0 : Int32)).toNatClampNeg) := inb_of S141 ⟨by decide, by decide⟩
    obtain ⟨T142, h142, X142, e142, W142, st142⟩ := stD X135 hx hZ e135 Ar141 (j := (0 : Int32)) hin141 (g := (mkF m 33 #[.val (.int i0), .val (.int i1), .val (.int i2), .val (.int i3), .val (.int i4), .val (.int (3 : Int32)), .val (.ref b130), .val (.ref b135), .val (.long (0 : Int64)), .second, .unset] [(.double (FP.i2d i1)), (.int (0 : Int32)), (.ref b130)])) rfl rfl (hb hby at_33)
    refine own_st st142 ?_
    have V142 : Arv Z h142 b130 k130 .double (3 : Int32) [(.double (FP.i2d i1)), (.double (0 : UInt64)), (.double (0 : UInt64))] (.double (0 : UInt64)) := Arv.set Ar141 q141 S141 N141 H141 G141 rfl W142 0 rfl (Nat.le_of_ble_eq_true rfl)
    have N142 := Fr.snoc X142 N0 ge132
    have K143 : Keep h0 h142 [] := K138.wr W142 (Or.inr sz131)
    have O144 := O139.wr W142 ge132
    show own_Run p e below s _ _ _ (T142.setTop (mkF m 34 #[.val (.int i0), .val (.int i1), .val (.int i2), .val (.int i3), .val (.int i4), .val (.int (3 : Int32)), .val (.ref b130), .val (.ref b135), .val (.long (0 : Int64)), .second, .unset] []))
    refine own_st (fun t k => XS.aload X142.here hx rfl (hb hby at_34) rfl rfl k) ?_
    show own_Run p e below s _ _ _ (T142.setTop (mkF m 36 #[.val (.int i0), .val (.int i1), .val (.int i2), .val (.int i3), .val (.int i4), .val (.int (3 : Int32)), .val (.ref b130), .val (.ref b135), .val (.long (0 : Int64)), .second, .unset] [(.ref b135)]))
    refine own_st (fun t k => XS.iconst X142.here hx rfl (hb hby at_36) k) ?_
    show own_Run p e below s _ _ _ (T142.setTop (mkF m 37 #[.val (.int i0), .val (.int i1), .val (.int i2), .val (.int i3), .val (.int i4), .val (.int (3 : Int32)), .val (.ref b130), .val (.ref b135), .val (.long (0 : Int64)), .second, .unset] [(.int (0 : Int32)), (.ref b135)]))
    refine own_st (fun t k => XS.iconst X142.here hx rfl (hb hby at_37) k) ?_
    show own_Run p e below s _ _ _ (T142.setTop (mkF m 38 #[.val (.int i0), .val (.int i1), .val (.int i2), .val (.int i3), .val (.int i4), .val (.int (3 : Int32)), .val (.ref b130), .val (.ref b135), .val (.long (0 : Int64)), .second, .unset] [(.int (0 : Int32)), (.int (0 : Int32)), (.ref b135)]))
    have V145 := (V135.other W142 (Ne.symm (Nat.ne_of_lt (Nat.lt_of_lt_of_le A130.lt (Nat.le_of_eq g135.symm)))))
    obtain ⟨cl146, Ar146, q146, S146, N146, H146, G146⟩ := id V145
    have hin146 : ¬ ((0 : Int32) < 0 ∨ cl146.slots.size ≤ ((0 : Int32)).toNatClampNeg) := inb_of S146 ⟨by decide, by decide⟩
    obtain ⟨T147, h147, X147, e147, W147, st147⟩ := stI X142 hx hZ e142 Ar146 (j := (0 : Int32)) hin146 (g := (mkF m 38 #[.val (.int i0), .val (.int i1), .val (.int i2), .val (.int i3), .val (.int i4), .val (.int (3 : Int32)), .val (.ref b130), .val (.ref b135), .val (.long (0 : Int64)), .second, .unset] [(.int (0 : Int32)), (.int (0 : Int32)), (.ref b135)])) rfl rfl (hb hby at_38)
    refine own_st st147 ?_
    have V147 : Arv Z h147 b135 k135 .int (3 : Int32) [(.int (0 : Int32)), (.int (0 : Int32)), (.int (0 : Int32))] (.int (0 : Int32)) := Arv.set Ar146 q146 S146 N146 H146 G146 rfl W147 0 rfl (Nat.le_of_ble_eq_true rfl)
    have N147 := Fr.snoc X147 N142 ge137
    have K148 : Keep h0 h147 [] := K143.wr W147 (Or.inr sz136)
    have O149 := O144.wr W147 ge137
    show own_Run p e below s _ _ _ (T147.setTop (mkF m 39 #[.val (.int i0), .val (.int i1), .val (.int i2), .val (.int i3), .val (.int i4), .val (.int (3 : Int32)), .val (.ref b130), .val (.ref b135), .val (.long (0 : Int64)), .second, .unset] []))
    refine own_st (fun t k => XS.lload X147.here hx rfl (hb hby at_39) rfl k) ?_
    show own_Run p e below s _ _ _ (T147.setTop (mkF m 41 #[.val (.int i0), .val (.int i1), .val (.int i2), .val (.int i3), .val (.int i4), .val (.int (3 : Int32)), .val (.ref b130), .val (.ref b135), .val (.long (0 : Int64)), .second, .unset] [(.long (0 : Int64))]))
    refine own_st (fun t k => XS.iloadN X147.here hx rfl (hb hby at_41) rfl k) ?_
    show own_Run p e below s _ _ _ (T147.setTop (mkF m 42 #[.val (.int i0), .val (.int i1), .val (.int i2), .val (.int i3), .val (.int i4), .val (.int (3 : Int32)), .val (.ref b130), .val (.ref b135), .val (.long (0 : Int64)), .second, .unset] [(.int i1), (.long (0 : Int64))]))
    refine own_st (fun t k => XS.i2l X147.here hx rfl (hb hby at_42) rfl k) ?_
    show own_Run p e below s _ _ _ (T147.setTop (mkF m 43 #[.val (.int i0), .val (.int i1), .val (.int i2), .val (.int i3), .val (.int i4), .val (.int (3 : Int32)), .val (.ref b130), .val (.ref b135), .val (.long (0 : Int64)), .second, .unset] [(.long (i1.toInt64)), (.long (0 : Int64))]))
    refine own_st (fun t k => XS.ladd X147.here hx rfl (hb hby at_43) rfl k) ?_
    show own_Run p e below s _ _ _ (T147.setTop (mkF m 44 #[.val (.int i0), .val (.int i1), .val (.int i2), .val (.int i3), .val (.int i4), .val (.int (3 : Int32)), .val (.ref b130), .val (.ref b135), .val (.long (0 : Int64)), .second, .unset] [(.long ((0 : Int64) + (i1.toInt64)))]))
    refine own_st (fun t k => XS.lstore X147.here hx rfl (hb hby at_44) rfl (l' := #[.val (.int i0), .val (.int i1), .val (.int i2), .val (.int i3), .val (.int i4), .val (.int (3 : Int32)), .val (.ref b130), .val (.ref b135), .val (.long ((0 : Int64) + (i1.toInt64))), .second, .unset]) rfl k) ?_
    show own_Run p e below s _ _ _ (T147.setTop (mkF m 46 #[.val (.int i0), .val (.int i1), .val (.int i2), .val (.int i3), .val (.int i4), .val (.int (3 : Int32)), .val (.ref b130), .val (.ref b135), .val (.long ((0 : Int64) + (i1.toInt64))), .second, .unset] []))
    refine own_st (fun t k => XS.iload X147.here hx rfl (hb hby at_46) rfl k) ?_
    show own_Run p e below s _ _ _ (T147.setTop (mkF m 48 #[.val (.int i0), .val (.int i1), .val (.int i2), .val (.int i3), .val (.int i4), .val (.int (3 : Int32)), .val (.ref b130), .val (.ref b135), .val (.long ((0 : Int64) + (i1.toInt64))), .second, .unset] [(.int (3 : Int32))]))
    refine own_st (fun t k => XS.iconst X147.here hx rfl (hb hby at_48) k) ?_
    show own_Run p e below s _ _ _ (T147.setTop (mkF m 49 #[.val (.int i0), .val (.int i1), .val (.int i2), .val (.int i3), .val (.int i4), .val (.int (3 : Int32)), .val (.ref b130), .val (.ref b135), .val (.long ((0 : Int64) + (i1.toInt64))), .second, .unset] [(.int (1 : Int32)), (.int (3 : Int32))]))
    refine own_st (fun t k => XS.icmpNo X147.here hx rfl (hb hby at_49) rfl (tlt (by decide : (1 : Int32) < (3 : Int32))).2.2.2 k) ?_
    show own_Run p e below s _ _ _ (T147.setTop (mkF m 52 #[.val (.int i0), .val (.int i1), .val (.int i2), .val (.int i3), .val (.int i4), .val (.int (3 : Int32)), .val (.ref b130), .val (.ref b135), .val (.long ((0 : Int64) + (i1.toInt64))), .second, .unset] []))
    refine own_st (fun t k => XS.aload X147.here hx rfl (hb hby at_52) rfl rfl k) ?_
    show own_Run p e below s _ _ _ (T147.setTop (mkF m 54 #[.val (.int i0), .val (.int i1), .val (.int i2), .val (.int i3), .val (.int i4), .val (.int (3 : Int32)), .val (.ref b130), .val (.ref b135), .val (.long ((0 : Int64) + (i1.toInt64))), .second, .unset] [(.ref b130)]))
    refine own_st (fun t k => XS.iconst X147.here hx rfl (hb hby at_54) k) ?_
    show own_Run p e below s _ _ _ (T147.setTop (mkF m 55 #[.val (.int i0), .val (.int i1), .val (.int i2), .val (.int i3), .val (.int i4), .val (.int (3 : Int32)), .val (.ref b130), .val (.ref b135), .val (.long ((0 : Int64) + (i1.toInt64))), .second, .unset] [(.int (1 : Int32)), (.ref b130)]))
    refine own_st (fun t k => XS.iloadN X147.here hx rfl (hb hby at_55) rfl k) ?_
    show own_Run p e below s _ _ _ (T147.setTop (mkF m 56 #[.val (.int i0), .val (.int i1), .val (.int i2), .val (.int i3), .val (.int i4), .val (.int (3 : Int32)), .val (.ref b130), .val (.ref b135), .val (.long ((0 : Int64) + (i1.toInt64))), .second, .unset] [(.int i2), (.int (1 : Int32)), (.ref b130)]))
    refine own_st (fun t k => XS.i2dS X147.here hx rfl (hb hby at_56) rfl (v := (FP.i2d i2)) (rfl) k) ?_
    show own_Run p e below s _ _ _ (T147.setTop (mkF m 57 #[.val (.int i0), .val (.int i1), .val (.int i2), .val (.int i3), .val (.int i4), .val (.int (3 : Int32)), .val (.ref b130), .val (.ref b135), .val (.long ((0 : Int64) + (i1.toInt64))), .second, .unset] [(.double (FP.i2d i2)), (.int (1 : Int32)), (.ref b130)]))
    have V150 := (V142.other W147 (Nat.ne_of_lt (Nat.lt_of_lt_of_le A130.lt (Nat.le_of_eq g135.symm))))
    obtain ⟨cl151, Ar151, q151, S151, N151, H151, G151⟩ := id V150
    have hin151 : ¬ ((1 : Int32) < 0 ∨ cl151.slots.size ≤ ((1 : Int32)).toNatClampNeg) := inb_of S151 ⟨by decide, by decide⟩
    obtain ⟨T152, h152, X152, e152, W152, st152⟩ := stD X147 hx hZ e147 Ar151 (j := (1 : Int32)) hin151 (g := (mkF m 57 #[.val (.int i0), .val (.int i1), .val (.int i2), .val (.int i3), .val (.int i4), .val (.int (3 : Int32)), .val (.ref b130), .val (.ref b135), .val (.long ((0 : Int64) + (i1.toInt64))), .second, .unset] [(.double (FP.i2d i2)), (.int (1 : Int32)), (.ref b130)])) rfl rfl (hb hby at_57)
    refine own_st st152 ?_
    have V152 : Arv Z h152 b130 k130 .double (3 : Int32) [(.double (FP.i2d i1)), (.double (FP.i2d i2)), (.double (0 : UInt64))] (.double (0 : UInt64)) := Arv.set Ar151 q151 S151 N151 H151 G151 rfl W152 1 rfl (Nat.le_of_ble_eq_true rfl)
    have N152 := Fr.snoc X152 N147 ge132
    have K153 : Keep h0 h152 [] := K148.wr W152 (Or.inr sz131)
    have O154 := O149.wr W152 ge132
    show own_Run p e below s _ _ _ (T152.setTop (mkF m 58 #[.val (.int i0), .val (.int i1), .val (.int i2), .val (.int i3), .val (.int i4), .val (.int (3 : Int32)), .val (.ref b130), .val (.ref b135), .val (.long ((0 : Int64) + (i1.toInt64))), .second, .unset] []))
    refine own_st (fun t k => XS.aload X152.here hx rfl (hb hby at_58) rfl rfl k) ?_
    show own_Run p e below s _ _ _ (T152.setTop (mkF m 60 #[.val (.int i0), .val (.int i1), .val (.int i2), .val (.int i3), .val (.int i4), .val (.int (3 : Int32)), .val (.ref b130), .val (.ref b135), .val (.long ((0 : Int64) + (i1.toInt64))), .second, .unset] [(.ref b135)]))
    refine own_st (fun t k => XS.iconst X152.here hx rfl (hb hby at_60) k) ?_
    show own_Run p e below s _ _ _ (T152.setTop (mkF m 61 #[.val (.int i0), .val (.int i1), .val (.int i2), .val (.int i3), .val (.int i4), .val (.int (3 : Int32)), .val (.ref b130), .val (.ref b135), .val (.long ((0 : Int64) + (i1.toInt64))), .second, .unset] [(.int (1 : Int32)), (.ref b135)]))
    refine own_st (fun t k => XS.iconst X152.here hx rfl (hb hby at_61) k) ?_
    show own_Run p e below s _ _ _ (T152.setTop (mkF m 62 #[.val (.int i0), .val (.int i1), .val (.int i2), .val (.int i3), .val (.int i4), .val (.int (3 : Int32)), .val (.ref b130), .val (.ref b135), .val (.long ((0 : Int64) + (i1.toInt64))), .second, .unset] [(.int (1 : Int32)), (.int (1 : Int32)), (.ref b135)]))
    have V155 := (V147.other W152 (Ne.symm (Nat.ne_of_lt (Nat.lt_of_lt_of_le A130.lt (Nat.le_of_eq g135.symm)))))
    obtain ⟨cl156, Ar156, q156, S156, N156, H156, G156⟩ := id V155
    have hin156 : ¬ ((1 : Int32) < 0 ∨ cl156.slots.size ≤ ((1 : Int32)).toNatClampNeg) := inb_of S156 ⟨by decide, by decide⟩
    obtain ⟨T157, h157, X157, e157, W157, st157⟩ := stI X152 hx hZ e152 Ar156 (j := (1 : Int32)) hin156 (g := (mkF m 62 #[.val (.int i0), .val (.int i1), .val (.int i2), .val (.int i3), .val (.int i4), .val (.int (3 : Int32)), .val (.ref b130), .val (.ref b135), .val (.long ((0 : Int64) + (i1.toInt64))), .second, .unset] [(.int (1 : Int32)), (.int (1 : Int32)), (.ref b135)])) rfl rfl (hb hby at_62)
    refine own_st st157 ?_
    have V157 : Arv Z h157 b135 k135 .int (3 : Int32) [(.int (0 : Int32)), (.int (1 : Int32)), (.int (0 : Int32))] (.int (0 : Int32)) := Arv.set Ar156 q156 S156 N156 H156 G156 rfl W157 1 rfl (Nat.le_of_ble_eq_true rfl)
    have N157 := Fr.snoc X157 N152 ge137
    have K158 : Keep h0 h157 [] := K153.wr W157 (Or.inr sz136)
    have O159 := O154.wr W157 ge137
    show own_Run p e below s _ _ _ (T157.setTop (mkF m 63 #[.val (.int i0), .val (.int i1), .val (.int i2), .val (.int i3), .val (.int i4), .val (.int (3 : Int32)), .val (.ref b130), .val (.ref b135), .val (.long ((0 : Int64) + (i1.toInt64))), .second, .unset] []))
    refine own_st (fun t k => XS.lload X157.here hx rfl (hb hby at_63) rfl k) ?_
    show own_Run p e below s _ _ _ (T157.setTop (mkF m 65 #[.val (.int i0), .val (.int i1), .val (.int i2), .val (.int i3), .val (.int i4), .val (.int (3 : Int32)), .val (.ref b130), .val (.ref b135), .val (.long ((0 : Int64) + (i1.toInt64))), .second, .unset] [(.long ((0 : Int64) + (i1.toInt64)))]))
    refine own_st (fun t k => XS.iloadN X157.here hx rfl (hb hby at_65) rfl k) ?_
    show own_Run p e below s _ _ _ (T157.setTop (mkF m 66 #[.val (.int i0), .val (.int i1), .val (.int i2), .val (.int i3), .val (.int i4), .val (.int (3 : Int32)), .val (.ref b130), .val (.ref b135), .val (.long ((0 : Int64) + (i1.toInt64))), .second, .unset] [(.int i2), (.long ((0 : Int64) + (i1.toInt64)))]))
    refine own_st (fun t k => XS.i2l X157.here hx rfl (hb hby at_66) rfl k) ?_
    show own_Run p e below s _ _ _ (T157.setTop (mkF m 67 #[.val (.int i0), .val (.int i1), .val (.int i2), .val (.int i3), .val (.int i4), .val (.int (3 : Int32)), .val (.ref b130), .val (.ref b135), .val (.long ((0 : Int64) + (i1.toInt64))), .second, .unset] [(.long (i2.toInt64)), (.long ((0 : Int64) + (i1.toInt64)))]))
    refine own_st (fun t k => XS.ladd X157.here hx rfl (hb hby at_67) rfl k) ?_
    show own_Run p e below s _ _ _ (T157.setTop (mkF m 68 #[.val (.int i0), .val (.int i1), .val (.int i2), .val (.int i3), .val (.int i4), .val (.int (3 : Int32)), .val (.ref b130), .val (.ref b135), .val (.long ((0 : Int64) + (i1.toInt64))), .second, .unset] [(.long (((0 : Int64) + (i1.toInt64)) + (i2.toInt64)))]))
    refine own_st (fun t k => XS.lstore X157.here hx rfl (hb hby at_68) rfl (l' := #[.val (.int i0), .val (.int i1), .val (.int i2), .val (.int i3), .val (.int i4), .val (.int (3 : Int32)), .val (.ref b130), .val (.ref b135), .val (.long (((0 : Int64) + (i1.toInt64)) + (i2.toInt64))), .second, .unset]) rfl k) ?_
    show own_Run p e below s _ _ _ (T157.setTop (mkF m 70 #[.val (.int i0), .val (.int i1), .val (.int i2), .val (.int i3), .val (.int i4), .val (.int (3 : Int32)), .val (.ref b130), .val (.ref b135), .val (.long (((0 : Int64) + (i1.toInt64)) + (i2.toInt64))), .second, .unset] []))
    refine own_st (fun t k => XS.iload X157.here hx rfl (hb hby at_70) rfl k) ?_
    show own_Run p e below s _ _ _ (T157.setTop (mkF m 72 #[.val (.int i0), .val (.int i1), .val (.int i2), .val (.int i3), .val (.int i4), .val (.int (3 : Int32)), .val (.ref b130), .val (.ref b135), .val (.long (((0 : Int64) + (i1.toInt64)) + (i2.toInt64))), .second, .unset] [(.int (3 : Int32))]))
    refine own_st (fun t k => XS.iconst X157.here hx rfl (hb hby at_72) k) ?_
    show own_Run p e below s _ _ _ (T157.setTop (mkF m 73 #[.val (.int i0), .val (.int i1), .val (.int i2), .val (.int i3), .val (.int i4), .val (.int (3 : Int32)), .val (.ref b130), .val (.ref b135), .val (.long (((0 : Int64) + (i1.toInt64)) + (i2.toInt64))), .second, .unset] [(.int (2 : Int32)), (.int (3 : Int32))]))
    refine own_st (fun t k => XS.icmpNo X157.here hx rfl (hb hby at_73) rfl (tlt (by decide : (2 : Int32) < (3 : Int32))).2.2.2 k) ?_
    show own_Run p e below s _ _ _ (T157.setTop (mkF m 76 #[.val (.int i0), .val (.int i1), .val (.int i2), .val (.int i3), .val (.int i4), .val (.int (3 : Int32)), .val (.ref b130), .val (.ref b135), .val (.long (((0 : Int64) + (i1.toInt64)) + (i2.toInt64))), .second, .unset] []))
    refine own_st (fun t k => XS.aload X157.here hx rfl (hb hby at_76) rfl rfl k) ?_
    show own_Run p e below s _ _ _ (T157.setTop (mkF m 78 #[.val (.int i0), .val (.int i1), .val (.int i2), .val (.int i3), .val (.int i4), .val (.int (3 : Int32)), .val (.ref b130), .val (.ref b135), .val (.long (((0 : Int64) + (i1.toInt64)) + (i2.toInt64))), .second, .unset] [(.ref b130)]))
    refine own_st (fun t k => XS.iconst X157.here hx rfl (hb hby at_78) k) ?_
    show own_Run p e below s _ _ _ (T157.setTop (mkF m 79 #[.val (.int i0), .val (.int i1), .val (.int i2), .val (.int i3), .val (.int i4), .val (.int (3 : Int32)), .val (.ref b130), .val (.ref b135), .val (.long (((0 : Int64) + (i1.toInt64)) + (i2.toInt64))), .second, .unset] [(.int (2 : Int32)), (.ref b130)]))
    refine own_st (fun t k => XS.iloadN X157.here hx rfl (hb hby at_79) rfl k) ?_
    show own_Run p e below s _ _ _ (T157.setTop (mkF m 80 #[.val (.int i0), .val (.int i1), .val (.int i2), .val (.int i3), .val (.int i4), .val (.int (3 : Int32)), .val (.ref b130), .val (.ref b135), .val (.long (((0 : Int64) + (i1.toInt64)) + (i2.toInt64))), .second, .unset] [(.int i3), (.int (2 : Int32)), (.ref b130)]))
    refine own_st (fun t k => XS.i2dS X157.here hx rfl (hb hby at_80) rfl (v := (FP.i2d i3)) (rfl) k) ?_
    show own_Run p e below s _ _ _ (T157.setTop (mkF m 81 #[.val (.int i0), .val (.int i1), .val (.int i2), .val (.int i3), .val (.int i4), .val (.int (3 : Int32)), .val (.ref b130), .val (.ref b135), .val (.long (((0 : Int64) + (i1.toInt64)) + (i2.toInt64))), .second, .unset] [(.double (FP.i2d i3)), (.int (2 : Int32)), (.ref b130)]))
    have V160 := (V152.other W157 (Nat.ne_of_lt (Nat.lt_of_lt_of_le A130.lt (Nat.le_of_eq g135.symm))))
    obtain ⟨cl161, Ar161, q161, S161, N161, H161, G161⟩ := id V160
    have hin161 : ¬ ((2 : Int32) < 0 ∨ cl161.slots.size ≤ ((2 : Int32)).toNatClampNeg) := inb_of S161 ⟨by decide, by decide⟩
    obtain ⟨T162, h162, X162, e162, W162, st162⟩ := stD X157 hx hZ e157 Ar161 (j := (2 : Int32)) hin161 (g := (mkF m 81 #[.val (.int i0), .val (.int i1), .val (.int i2), .val (.int i3), .val (.int i4), .val (.int (3 : Int32)), .val (.ref b130), .val (.ref b135), .val (.long (((0 : Int64) + (i1.toInt64)) + (i2.toInt64))), .second, .unset] [(.double (FP.i2d i3)), (.int (2 : Int32)), (.ref b130)])) rfl rfl (hb hby at_81)
    refine own_st st162 ?_
    have V162 : Arv Z h162 b130 k130 .double (3 : Int32) [(.double (FP.i2d i1)), (.double (FP.i2d i2)), (.double (FP.i2d i3))] (.double (0 : UInt64)) := Arv.set Ar161 q161 S161 N161 H161 G161 rfl W162 2 rfl (Nat.le_of_ble_eq_true rfl)
    have N162 := Fr.snoc X162 N157 ge132
    have K163 : Keep h0 h162 [] := K158.wr W162 (Or.inr sz131)
    have O164 := O159.wr W162 ge132
    show own_Run p e below s _ _ _ (T162.setTop (mkF m 82 #[.val (.int i0), .val (.int i1), .val (.int i2), .val (.int i3), .val (.int i4), .val (.int (3 : Int32)), .val (.ref b130), .val (.ref b135), .val (.long (((0 : Int64) + (i1.toInt64)) + (i2.toInt64))), .second, .unset] []))
    refine own_st (fun t k => XS.aload X162.here hx rfl (hb hby at_82) rfl rfl k) ?_
    show own_Run p e below s _ _ _ (T162.setTop (mkF m 84 #[.val (.int i0), .val (.int i1), .val (.int i2), .val (.int i3), .val (.int i4), .val (.int (3 : Int32)), .val (.ref b130), .val (.ref b135), .val (.long (((0 : Int64) + (i1.toInt64)) + (i2.toInt64))), .second, .unset] [(.ref b135)]))
    refine own_st (fun t k => XS.iconst X162.here hx rfl (hb hby at_84) k) ?_
    show own_Run p e below s _ _ _ (T162.setTop (mkF m 85 #[.val (.int i0), .val (.int i1), .val (.int i2), .val (.int i3), .val (.int i4), .val (.int (3 : Int32)), .val (.ref b130), .val (.ref b135), .val (.long (((0 : Int64) + (i1.toInt64)) + (i2.toInt64))), .second, .unset] [(.int (2 : Int32)), (.ref b135)]))
    refine own_st (fun t k => XS.iconst X162.here hx rfl (hb hby at_85) k) ?_
    show own_Run p e below s _ _ _ (T162.setTop (mkF m 86 #[.val (.int i0), .val (.int i1), .val (.int i2), .val (.int i3), .val (.int i4), .val (.int (3 : Int32)), .val (.ref b130), .val (.ref b135), .val (.long (((0 : Int64) + (i1.toInt64)) + (i2.toInt64))), .second, .unset] [(.int (2 : Int32)), (.int (2 : Int32)), (.ref b135)]))
    have V165 := (V157.other W162 (Ne.symm (Nat.ne_of_lt (Nat.lt_of_lt_of_le A130.lt (Nat.le_of_eq g135.symm)))))
    obtain ⟨cl166, Ar166, q166, S166, N166, H166, G166⟩ := id V165
    have hin166 : ¬ ((2 : Int32) < 0 ∨ cl166.slots.size ≤ ((2 : Int32)).toNatClampNeg) := inb_of S166 ⟨by decide, by decide⟩
    obtain ⟨T167, h167, X167, e167, W167, st167⟩ := stI X162 hx hZ e162 Ar166 (j := (2 : Int32)) hin166 (g := (mkF m 86 #[.val (.int i0), .val (.int i1), .val (.int i2), .val (.int i3), .val (.int i4), .val (.int (3 : Int32)), .val (.ref b130), .val (.ref b135), .val (.long (((0 : Int64) + (i1.toInt64)) + (i2.toInt64))), .second, .unset] [(.int (2 : Int32)), (.int (2 : Int32)), (.ref b135)])) rfl rfl (hb hby at_86)
    refine own_st st167 ?_
    have V167 : Arv Z h167 b135 k135 .int (3 : Int32) [(.int (0 : Int32)), (.int (1 : Int32)), (.int (2 : Int32))] (.int (0 : Int32)) := Arv.set Ar166 q166 S166 N166 H166 G166 rfl W167 2 rfl (Nat.le_of_ble_eq_true rfl)
    have N167 := Fr.snoc X167 N162 ge137
    have K168 : Keep h0 h167 [] := K163.wr W167 (Or.inr sz136)
    have O169 := O164.wr W167 ge137
    show own_Run p e below s _ _ _ (T167.setTop (mkF m 87 #[.val (.int i0), .val (.int i1), .val (.int i2), .val (.int i3), .val (.int i4), .val (.int (3 : Int32)), .val (.ref b130), .val (.ref b135), .val (.long (((0 : Int64) + (i1.toInt64)) + (i2.toInt64))), .second, .unset] []))
    refine own_st (fun t k => XS.lload X167.here hx rfl (hb hby at_87) rfl k) ?_
    show own_Run p e below s _ _ _ (T167.setTop (mkF m 89 #[.val (.int i0), .val (.int i1), .val (.int i2), .val (.int i3), .val (.int i4), .val (.int (3 : Int32)), .val (.ref b130), .val (.ref b135), .val (.long (((0 : Int64) + (i1.toInt64)) + (i2.toInt64))), .second, .unset] [(.long (((0 : Int64) + (i1.toInt64)) + (i2.toInt64)))]))
    refine own_st (fun t k => XS.iloadN X167.here hx rfl (hb hby at_89) rfl k) ?_
    show own_Run p e below s _ _ _ (T167.setTop (mkF m 90 #[.val (.int i0), .val (.int i1), .val (.int i2), .val (.int i3), .val (.int i4), .val (.int (3 : Int32)), .val (.ref b130), .val (.ref b135), .val (.long (((0 : Int64) + (i1.toInt64)) + (i2.toInt64))), .second, .unset] [(.int i3), (.long (((0 : Int64) + (i1.toInt64)) + (i2.toInt64)))]))
    refine own_st (fun t k => XS.i2l X167.here hx rfl (hb hby at_90) rfl k) ?_
    show own_Run p e below s _ _ _ (T167.setTop (mkF m 91 #[.val (.int i0), .val (.int i1), .val (.int i2), .val (.int i3), .val (.int i4), .val (.int (3 : Int32)), .val (.ref b130), .val (.ref b135), .val (.long (((0 : Int64) + (i1.toInt64)) + (i2.toInt64))), .second, .unset] [(.long (i3.toInt64)), (.long (((0 : Int64) + (i1.toInt64)) + (i2.toInt64)))]))
    refine own_st (fun t k => XS.ladd X167.here hx rfl (hb hby at_91) rfl k) ?_
    show own_Run p e below s _ _ _ (T167.setTop (mkF m 92 #[.val (.int i0), .val (.int i1), .val (.int i2), .val (.int i3), .val (.int i4), .val (.int (3 : Int32)), .val (.ref b130), .val (.ref b135), .val (.long (((0 : Int64) + (i1.toInt64)) + (i2.toInt64))), .second, .unset] [(.long ((((0 : Int64) + (i1.toInt64)) + (i2.toInt64)) + (i3.toInt64)))]))
    refine own_st (fun t k => XS.lstore X167.here hx rfl (hb hby at_92) rfl (l' := #[.val (.int i0), .val (.int i1), .val (.int i2), .val (.int i3), .val (.int i4), .val (.int (3 : Int32)), .val (.ref b130), .val (.ref b135), .val (.long ((((0 : Int64) + (i1.toInt64)) + (i2.toInt64)) + (i3.toInt64))), .second, .unset]) rfl k) ?_
    show own_Run p e below s _ _ _ (T167.setTop (mkF m 94 #[.val (.int i0), .val (.int i1), .val (.int i2), .val (.int i3), .val (.int i4), .val (.int (3 : Int32)), .val (.ref b130), .val (.ref b135), .val (.long ((((0 : Int64) + (i1.toInt64)) + (i2.toInt64)) + (i3.toInt64))), .second, .unset] []))
    refine own_st (fun t k => XS.iload X167.here hx rfl (hb hby at_94) rfl k) ?_
    show own_Run p e below s _ _ _ (T167.setTop (mkF m 96 #[.val (.int i0), .val (.int i1), .val (.int i2), .val (.int i3), .val (.int i4), .val (.int (3 : Int32)), .val (.ref b130), .val (.ref b135), .val (.long ((((0 : Int64) + (i1.toInt64)) + (i2.toInt64)) + (i3.toInt64))), .second, .unset] [(.int (3 : Int32))]))
    refine own_st (fun t k => XS.iconst X167.here hx rfl (hb hby at_96) k) ?_
    show own_Run p e below s _ _ _ (T167.setTop (mkF m 97 #[.val (.int i0), .val (.int i1), .val (.int i2), .val (.int i3), .val (.int i4), .val (.int (3 : Int32)), .val (.ref b130), .val (.ref b135), .val (.long ((((0 : Int64) + (i1.toInt64)) + (i2.toInt64)) + (i3.toInt64))), .second, .unset] [(.int (3 : Int32)), (.int (3 : Int32))]))
    refine own_st (fun t k => XS.icmpYes X167.here hx rfl (pc0 := 97) (pc' := 120) rfl (hb hby at_97) rfl (flt (by decide : ¬ ((3 : Int32) < (3 : Int32)))).2.2.2 (by decide) (by decide) k) ?_
    show own_Run p e below s _ _ _ (T167.setTop (mkF m 120 #[.val (.int i0), .val (.int i1), .val (.int i2), .val (.int i3), .val (.int i4), .val (.int (3 : Int32)), .val (.ref b130), .val (.ref b135), .val (.long ((((0 : Int64) + (i1.toInt64)) + (i2.toInt64)) + (i3.toInt64))), .second, .unset] []))
    obtain ⟨T170, h170, X170, e170, E170, A170, D170, -, st170⟩ := newO X167 hx hZ hown (hw _ (List.mem_of_getElem? (i := 3) rfl)) (hw _ (List.mem_of_getElem? (i := 4) rfl)) (hw _ (List.mem_of_getElem? (i := 5) rfl)) e167 (g := (mkF m 120 #[.val (.int i0), .val (.int i1), .val (.int i2), .val (.int i3), .val (.int i4), .val (.int (3 : Int32)), .val (.ref b130), .val (.ref b135), .val (.long ((((0 : Int64) + (i1.toInt64)) + (i2.toInt64)) + (i3.toInt64))), .second, .unset] [])) rfl (hb hby at_120) (by decide) (by decide)
    obtain ⟨b170, g170⟩ : ∃ z, z = h167.size := ⟨_, rfl⟩
    rw [← g170] at A170 D170 st170
    have sz171 : h0.size ≤ b170 := Nat.le_trans K168.1 (Nat.le_of_eq g170.symm)
    have ge172 : n0 ≤ b170 := Nat.le_trans Z0 sz171
    refine own_st st170 ?_
    have K173 : Keep h0 h170 [] := K168.ext E170
    have O174 := O169.ext E170
    show own_Run p e below s _ _ _ (T170.setTop (mkF m 123 #[.val (.int i0), .val (.int i1), .val (.int i2), .val (.int i3), .val (.int i4), .val (.int (3 : Int32)), .val (.ref b130), .val (.ref b135), .val (.long ((((0 : Int64) + (i1.toInt64)) + (i2.toInt64)) + (i3.toInt64))), .second, .unset] [(.ref b170)]))
    refine own_st (fun t k => XS.dup X170.here hx rfl (hb hby at_123) rfl rfl k) ?_
    show own_Run p e below s _ _ _ (T170.setTop (mkF m 124 #[.val (.int i0), .val (.int i1), .val (.int i2), .val (.int i3), .val (.int i4), .val (.int (3 : Int32)), .val (.ref b130), .val (.ref b135), .val (.long ((((0 : Int64) + (i1.toInt64)) + (i2.toInt64)) + (i3.toInt64))), .second, .unset] [(.ref b170), (.ref b170)]))
    refine own_st (fun t k => XS.aload X170.here hx rfl (hb hby at_124) rfl rfl k) ?_
    show own_Run p e below s _ _ _ (T170.setTop (mkF m 126 #[.val (.int i0), .val (.int i1), .val (.int i2), .val (.int i3), .val (.int i4), .val (.int (3 : Int32)), .val (.ref b130), .val (.ref b135), .val (.long ((((0 : Int64) + (i1.toInt64)) + (i2.toInt64)) + (i3.toInt64))), .second, .unset] [(.ref b135), (.ref b170), (.ref b170)]))
    refine own_st (fun t k => XS.aload X170.here hx rfl (hb hby at_126) rfl rfl k) ?_
    show own_Run p e below s _ _ _ (T170.setTop (mkF m 128 #[.val (.int i0), .val (.int i1), .val (.int i2), .val (.int i3), .val (.int i4), .val (.int (3 : Int32)), .val (.ref b130), .val (.ref b135), .val (.long ((((0 : Int64) + (i1.toInt64)) + (i2.toInt64)) + (i3.toInt64))), .second, .unset] [(.ref b130), (.ref b135), (.ref b170), (.ref b170)]))
    refine own_callI X170 hx hZ (y := (⟨"com/example/usurf/usurf/WalkWeights$Weights", "<init>", "([I[D)V"⟩ : MethodName)) rfl hown (hw _ (List.mem_of_getElem? (i := 6) rfl)) (hw _ (List.mem_of_getElem? (i := 7) rfl)) (hw _ (List.mem_of_getElem? (i := 8) rfl)) (hw _ (List.mem_of_getElem? (i := 5) rfl)) (by decide) e170 (a := b170) (argsL := [(.ref b135), (.ref b130)]) (rest := [(.ref b170)]) (W := 1) (own_rm1 l Z a0 hw [] b170 b135 b130 h170 n0 (Nat.le_trans Z0 K173.1) A170 D170 ge172) (by decide) (by decide) (by rw [hml]; rfl) (lenOf own_pd3 rfl) rfl (by exact Nat.le_of_eq rfl) (hb hby at_128) (by decide) (by decide) ?_
    intro T175 v175 L175 X175 hq175
    obtain ⟨rfl, N175q, K175q, Q176, Q177⟩ := hq175
    have K178 : Keep h0 T175.heap [] := K173.trans K175q (allS (Or.inr sz171) all0)
    have O179 := O174.keep K175q (allS ge172 all0)
    have N175 := Fr.app N167 N175q
    show own_Run p e below s _ _ _ (T175.setTop (mkF m 131 #[.val (.int i0), .val (.int i1), .val (.int i2), .val (.int i3), .val (.int i4), .val (.int (3 : Int32)), .val (.ref b130), .val (.ref b135), .val (.long ((((0 : Int64) + (i1.toInt64)) + (i2.toInt64)) + (i3.toInt64))), .second, .unset] [(.ref b170)]))
    refine own_st (fun t k => XS.astore X175.here hx rfl (hb hby at_131) rfl rfl (l' := #[.val (.int i0), .val (.int i1), .val (.int i2), .val (.int i3), .val (.int i4), .val (.int (3 : Int32)), .val (.ref b130), .val (.ref b135), .val (.long ((((0 : Int64) + (i1.toInt64)) + (i2.toInt64)) + (i3.toInt64))), .second, .val (.ref b170)]) rfl k) ?_
    show own_Run p e below s _ _ _ (T175.setTop (mkF m 133 #[.val (.int i0), .val (.int i1), .val (.int i2), .val (.int i3), .val (.int i4), .val (.int (3 : Int32)), .val (.ref b130), .val (.ref b135), .val (.long ((((0 : Int64) + (i1.toInt64)) + (i2.toInt64)) + (i3.toInt64))), .second, .val (.ref b170)] []))
    have rb1 := i1.le_toInt; have ra1 := i1.toInt_lt
    have rb2 := i2.le_toInt; have ra2 := i2.toInt_lt
    have rb3 := i3.le_toInt; have ra3 := i3.toInt_lt
    have z0 := own_Z0
    have z1 := own_zz (y := i1) z0 (by omega)
    have z2 := own_zz (y := i2) z1 (by omega)
    have z3 := own_zz (y := i3) z2 (by omega)
    have t0 : (0 : Int64).toInt = 0 := rfl
    have t1 := own_ls (y := i1) t0 (by omega)
    have t2 := own_ls (y := i2) t1 (by omega)
    have t3 := own_ls (y := i3) t2 (by omega)
    refine own_st (fun t k => XS.aload X175.here hx rfl (hb hby at_133) rfl rfl k) ?_
    show own_Run p e below s _ _ _ (T175.setTop (mkF m 135 #[.val (.int i0), .val (.int i1), .val (.int i2), .val (.int i3), .val (.int i4), .val (.int (3 : Int32)), .val (.ref b130), .val (.ref b135), .val (.long ((((0 : Int64) + (i1.toInt64)) + (i2.toInt64)) + (i3.toInt64))), .second, .val (.ref b170)] [(.ref b170)]))
    have V180 := (((V162.other W167 (Nat.ne_of_lt (Nat.lt_of_lt_of_le A130.lt (Nat.le_of_eq g135.symm)))).ext E170).keep K175q (ninS (Nat.ne_of_lt (Nat.lt_of_lt_of_le (Nat.lt_of_lt_of_le (Nat.lt_of_lt_of_le (Nat.lt_of_lt_of_le (Nat.lt_of_lt_of_le (Nat.lt_of_lt_of_le (Nat.lt_of_lt_of_le (Nat.lt_of_lt_of_le A130.lt E135.1) (Nat.le_of_eq W142.size.symm)) (Nat.le_of_eq W147.size.symm)) (Nat.le_of_eq W152.size.symm)) (Nat.le_of_eq W157.size.symm)) (Nat.le_of_eq W162.size.symm)) (Nat.le_of_eq W167.size.symm)) (Nat.le_of_eq g170.symm))) nin0))
    refine own_callV X175 hx hZ (y := (⟨"com/example/usurf/usurf/WalkWeights$Weights", "sum", "()D"⟩ : MethodName)) (C := "com/example/usurf/usurf/WalkWeights$Weights") hown (hw _ (List.mem_of_getElem? (i := 21) rfl)) (hw _ (List.mem_of_getElem? (i := 22) rfl)) (hw _ (List.mem_of_getElem? (i := 24) rfl)) (hw _ (List.mem_of_getElem? (i := 23) rfl)) (hw _ (List.mem_of_getElem? (i := 25) rfl)) (hw _ (List.mem_of_getElem? (i := 5) rfl)) (by decide) rfl (a := b170) Q176 (argsL := []) (rest := []) (W := 0) (own_rm4pn3 l Z a0 hw [] b170 b130 k130 (FP.i2d i1) (FP.i2d i2) (FP.i2d i3) T175.heap n0 (Nat.le_trans Z0 K178.1) Q177 V180 (z1.nn) (z2.nn) (z3.nn)) (by decide) (by decide) (by rw [hml]; rfl) (lenOf own_pd4 rfl) rfl (by exact Nat.le_of_eq rfl) (hb hby at_135) (by decide) (by decide) ?_
    intro T181 v181 L181 X181 hq181
    obtain ⟨rfl, N181q, hh181⟩ := hq181
    have N181 := Fr.app N175 N181q
    show own_Run p e below s _ _ _ (T181.setTop (mkF m 138 #[.val (.int i0), .val (.int i1), .val (.int i2), .val (.int i3), .val (.int i4), .val (.int (3 : Int32)), .val (.ref b130), .val (.ref b135), .val (.long ((((0 : Int64) + (i1.toInt64)) + (i2.toInt64)) + (i3.toInt64))), .second, .val (.ref b170)] [(.double (FP.dadd (FP.dadd (FP.dadd (0 : UInt64) (FP.i2d i1)) (FP.i2d i2)) (FP.i2d i3)))]))
    refine own_st (fun t k => XS.lload X181.here hx rfl (hb hby at_138) rfl k) ?_
    show own_Run p e below s _ _ _ (T181.setTop (mkF m 140 #[.val (.int i0), .val (.int i1), .val (.int i2), .val (.int i3), .val (.int i4), .val (.int (3 : Int32)), .val (.ref b130), .val (.ref b135), .val (.long ((((0 : Int64) + (i1.toInt64)) + (i2.toInt64)) + (i3.toInt64))), .second, .val (.ref b170)] [(.long ((((0 : Int64) + (i1.toInt64)) + (i2.toInt64)) + (i3.toInt64))), (.double (FP.dadd (FP.dadd (FP.dadd (0 : UInt64) (FP.i2d i1)) (FP.i2d i2)) (FP.i2d i3)))]))
    refine own_st (fun t k => XS.l2dS X181.here hx rfl (hb hby at_140) rfl (v := (FP.l2d ((((0 : Int64) + (i1.toInt64)) + (i2.toInt64)) + (i3.toInt64)))) (rfl) k) ?_
    show own_Run p e below s _ _ _ (T181.setTop (mkF m 141 #[.val (.int i0), .val (.int i1), .val (.int i2), .val (.int i3), .val (.int i4), .val (.int (3 : Int32)), .val (.ref b130), .val (.ref b135), .val (.long ((((0 : Int64) + (i1.toInt64)) + (i2.toInt64)) + (i3.toInt64))), .second, .val (.ref b170)] [(.double (FP.l2d ((((0 : Int64) + (i1.toInt64)) + (i2.toInt64)) + (i3.toInt64)))), (.double (FP.dadd (FP.dadd (FP.dadd (0 : UInt64) (FP.i2d i1)) (FP.i2d i2)) (FP.i2d i3)))]))
    refine own_st (fun t k => XS.dcmpS X181.here hx rfl (hb hby at_141) rfl (v := (0 : Int32)) (z3.cmpE (own_Z.l2d (by rw [t3]; omega)) t3.symm _) k) ?_
    show own_Run p e below s _ _ _ (T181.setTop (mkF m 142 #[.val (.int i0), .val (.int i1), .val (.int i2), .val (.int i3), .val (.int i4), .val (.int (3 : Int32)), .val (.ref b130), .val (.ref b135), .val (.long ((((0 : Int64) + (i1.toInt64)) + (i2.toInt64)) + (i3.toInt64))), .second, .val (.ref b170)] [(.int (0 : Int32))]))
    refine own_st (fun t k => XS.ifNo X181.here hx rfl (hb hby at_142) rfl ((if0 _ _).trans (teq (by decide : (0 : Int32) = (0 : Int32))).2) k) ?_
    show own_Run p e below s _ _ _ (T181.setTop (mkF m 145 #[.val (.int i0), .val (.int i1), .val (.int i2), .val (.int i3), .val (.int i4), .val (.int (3 : Int32)), .val (.ref b130), .val (.ref b135), .val (.long ((((0 : Int64) + (i1.toInt64)) + (i2.toInt64)) + (i3.toInt64))), .second, .val (.ref b170)] []))
    refine own_st (fun t k => XS.iconst X181.here hx rfl (hb hby at_145) k) ?_
    show own_Run p e below s _ _ _ (T181.setTop (mkF m 146 #[.val (.int i0), .val (.int i1), .val (.int i2), .val (.int i3), .val (.int i4), .val (.int (3 : Int32)), .val (.ref b130), .val (.ref b135), .val (.long ((((0 : Int64) + (i1.toInt64)) + (i2.toInt64)) + (i3.toInt64))), .second, .val (.ref b170)] [(.int (1 : Int32))]))
    refine own_st (fun t k => XS.goto X181.here hx rfl (pc0 := 146) (pc' := 150) rfl (hb hby at_146) (by decide) (by decide) k) ?_
    show own_Run p e below s _ _ _ (T181.setTop (mkF m 150 #[.val (.int i0), .val (.int i1), .val (.int i2), .val (.int i3), .val (.int i4), .val (.int (3 : Int32)), .val (.ref b130), .val (.ref b135), .val (.long ((((0 : Int64) + (i1.toInt64)) + (i2.toInt64)) + (i3.toInt64))), .second, .val (.ref b170)] [(.int (1 : Int32))]))
    exact own_ret X181 hx hlk (t := .boolean) hret rfl (Or.inl ⟨rfl, by simp, _, rfl⟩) (hb hby at_150) (by decide) (by decide) ⟨rfl, N181⟩
  · refine own_topI hn ?_
    show own_Run p e below s _ _ _ (s₁.setTop (mkF m 6 #[.val (.int i0), .val (.int i1), .val (.int i2), .val (.int i3), .val (.int i4), .unset, .unset, .unset, .unset, .unset, .unset] [(.int (4 : Int32))]))
    refine own_st (fun t k => XS.istore X0.here hx rfl (hb hby at_6) rfl (l' := #[.val (.int i0), .val (.int i1), .val (.int i2), .val (.int i3), .val (.int i4), .val (.int (4 : Int32)), .unset, .unset, .unset, .unset, .unset]) rfl k) ?_
    show own_Run p e below s _ _ _ (s₁.setTop (mkF m 8 #[.val (.int i0), .val (.int i1), .val (.int i2), .val (.int i3), .val (.int i4), .val (.int (4 : Int32)), .unset, .unset, .unset, .unset, .unset] []))
    refine own_st (fun t k => XS.iload X0.here hx rfl (hb hby at_8) rfl k) ?_
    show own_Run p e below s _ _ _ (s₁.setTop (mkF m 10 #[.val (.int i0), .val (.int i1), .val (.int i2), .val (.int i3), .val (.int i4), .val (.int (4 : Int32)), .unset, .unset, .unset, .unset, .unset] [(.int (4 : Int32))]))
    obtain ⟨T182, h182, k182, X182, e182, E182, A182, st182⟩ := newP X0 hx hZ (hw _ (List.mem_of_getElem? (i := 1) rfl)) e0 (g := (mkF m 10 #[.val (.int i0), .val (.int i1), .val (.int i2), .val (.int i3), .val (.int i4), .val (.int (4 : Int32)), .unset, .unset, .unset, .unset, .unset] [(.int (4 : Int32))])) rfl (hb hby at_10) rfl (by decide) (cap := 4) (by decide) (by decide) (by decide) (by decide)
    obtain ⟨b182, g182⟩ : ∃ z, z = h0.size := ⟨_, rfl⟩
    rw [← g182] at A182 st182
    have sz183 : h0.size ≤ b182 := Nat.le_trans K0.1 (Nat.le_of_eq g182.symm)
    have ge184 : n0 ≤ b182 := Nat.le_trans Z0 sz183
    refine own_st st182 ?_
    have V182 : Arv Z h182 b182 k182 .double (4 : Int32) [(.double (0 : UInt64)), (.double (0 : UInt64)), (.double (0 : UInt64)), (.double (0 : UInt64))] (.double (0 : UInt64)) := (Arv.new A182 (by decide)).pad (pad_rep [] (.double (0 : UInt64)) 4)
    have K185 : Keep h0 h182 [] := K0.ext E182
    have O186 := O0.ext E182
    show own_Run p e below s _ _ _ (T182.setTop (mkF m 12 #[.val (.int i0), .val (.int i1), .val (.int i2), .val (.int i3), .val (.int i4), .val (.int (4 : Int32)), .unset, .unset, .unset, .unset, .unset] [(.ref b182)]))
    refine own_st (fun t k => XS.astore X182.here hx rfl (hb hby at_12) rfl rfl (l' := #[.val (.int i0), .val (.int i1), .val (.int i2), .val (.int i3), .val (.int i4), .val (.int (4 : Int32)), .val (.ref b182), .unset, .unset, .unset, .unset]) rfl k) ?_
    show own_Run p e below s _ _ _ (T182.setTop (mkF m 14 #[.val (.int i0), .val (.int i1), .val (.int i2), .val (.int i3), .val (.int i4), .val (.int (4 : Int32)), .val (.ref b182), .unset, .unset, .unset, .unset] []))
    refine own_st (fun t k => XS.iload X182.here hx rfl (hb hby at_14) rfl k) ?_
    show own_Run p e below s _ _ _ (T182.setTop (mkF m 16 #[.val (.int i0), .val (.int i1), .val (.int i2), .val (.int i3), .val (.int i4), .val (.int (4 : Int32)), .val (.ref b182), .unset, .unset, .unset, .unset] [(.int (4 : Int32))]))
    obtain ⟨T187, h187, k187, X187, e187, E187, A187, st187⟩ := newP X182 hx hZ (hw _ (List.mem_of_getElem? (i := 2) rfl)) e182 (g := (mkF m 16 #[.val (.int i0), .val (.int i1), .val (.int i2), .val (.int i3), .val (.int i4), .val (.int (4 : Int32)), .val (.ref b182), .unset, .unset, .unset, .unset] [(.int (4 : Int32))])) rfl (hb hby at_16) rfl (by decide) (cap := 4) (by decide) (by decide) (by decide) (by decide)
    obtain ⟨b187, g187⟩ : ∃ z, z = h182.size := ⟨_, rfl⟩
    rw [← g187] at A187 st187
    have sz188 : h0.size ≤ b187 := Nat.le_trans K185.1 (Nat.le_of_eq g187.symm)
    have ge189 : n0 ≤ b187 := Nat.le_trans Z0 sz188
    refine own_st st187 ?_
    have V187 : Arv Z h187 b187 k187 .int (4 : Int32) [(.int (0 : Int32)), (.int (0 : Int32)), (.int (0 : Int32)), (.int (0 : Int32))] (.int (0 : Int32)) := (Arv.new A187 (by decide)).pad (pad_rep [] (.int (0 : Int32)) 4)
    have K190 : Keep h0 h187 [] := K185.ext E187
    have O191 := O186.ext E187
    show own_Run p e below s _ _ _ (T187.setTop (mkF m 18 #[.val (.int i0), .val (.int i1), .val (.int i2), .val (.int i3), .val (.int i4), .val (.int (4 : Int32)), .val (.ref b182), .unset, .unset, .unset, .unset] [(.ref b187)]))
    refine own_st (fun t k => XS.astore X187.here hx rfl (hb hby at_18) rfl rfl (l' := #[.val (.int i0), .val (.int i1), .val (.int i2), .val (.int i3), .val (.int i4), .val (.int (4 : Int32)), .val (.ref b182), .val (.ref b187), .unset, .unset, .unset]) rfl k) ?_
    show own_Run p e below s _ _ _ (T187.setTop (mkF m 20 #[.val (.int i0), .val (.int i1), .val (.int i2), .val (.int i3), .val (.int i4), .val (.int (4 : Int32)), .val (.ref b182), .val (.ref b187), .unset, .unset, .unset] []))
    refine own_st (fun t k => XS.lconst X187.here hx rfl (hb hby at_20) k) ?_
    show own_Run p e below s _ _ _ (T187.setTop (mkF m 21 #[.val (.int i0), .val (.int i1), .val (.int i2), .val (.int i3), .val (.int i4), .val (.int (4 : Int32)), .val (.ref b182), .val (.ref b187), .unset, .unset, .unset] [(.long (0 : Int64))]))
    refine own_st (fun t k => XS.lstore X187.here hx rfl (hb hby at_21) rfl (l' := #[.val (.int i0), .val (.int i1), .val (.int i2), .val (.int i3), .val (.int i4), .val (.int (4 : Int32)), .val (.ref b182), .val (.ref b187), .val (.long (0 : Int64)), .second, .unset]) rfl k) ?_
    show own_Run p e below s _ _ _ (T187.setTop (mkF m 23 #[.val (.int i0), .val (.int i1), .val (.int i2), .val (.int i3), .val (.int i4), .val (.int (4 : Int32)), .val (.ref b182), .val (.ref b187), .val (.long (0 : Int64)), .second, .unset] []))
    refine own_st (fun t k => XS.iload X187.here hx rfl (hb hby at_23) rfl k) ?_
    show own_Run p e below s _ _ _ (T187.setTop (mkF m 25 #[.val (.int i0), .val (.int i1), .val (.int i2), .val (.int i3), .val (.int i4), .val (.int (4 : Int32)), .val (.ref b182), .val (.ref b187), .val (.long (0 : Int64)), .second, .unset] [(.int (4 : Int32))]))
    refine own_st (fun t k => XS.ifNo X187.here hx rfl (hb hby at_25) rfl ((if0 _ _).trans (tlt (by decide : (0 : Int32) < (4 : Int32))).2.2.2) k) ?_
    show own_Run p e below s _ _ _ (T187.setTop (mkF m 28 #[.val (.int i0), .val (.int i1), .val (.int i2), .val (.int i3), .val (.int i4), .val (.int (4 : Int32)), .val (.ref b182), .val (.ref b187), .val (.long (0 : Int64)), .second, .unset] []))
    refine own_st (fun t k => XS.aload X187.here hx rfl (hb hby at_28) rfl rfl k) ?_
    show own_Run p e below s _ _ _ (T187.setTop (mkF m 30 #[.val (.int i0), .val (.int i1), .val (.int i2), .val (.int i3), .val (.int i4), .val (.int (4 : Int32)), .val (.ref b182), .val (.ref b187), .val (.long (0 : Int64)), .second, .unset] [(.ref b182)]))
    refine own_st (fun t k => XS.iconst X187.here hx rfl (hb hby at_30) k) ?_
    show own_Run p e below s _ _ _ (T187.setTop (mkF m 31 #[.val (.int i0), .val (.int i1), .val (.int i2), .val (.int i3), .val (.int i4), .val (.int (4 : Int32)), .val (.ref b182), .val (.ref b187), .val (.long (0 : Int64)), .second, .unset] [(.int (0 : Int32)), (.ref b182)]))
    refine own_st (fun t k => XS.iloadN X187.here hx rfl (hb hby at_31) rfl k) ?_
    show own_Run p e below s _ _ _ (T187.setTop (mkF m 32 #[.val (.int i0), .val (.int i1), .val (.int i2), .val (.int i3), .val (.int i4), .val (.int (4 : Int32)), .val (.ref b182), .val (.ref b187), .val (.long (0 : Int64)), .second, .unset] [(.int i1), (.int (0 : Int32)), (.ref b182)]))
    refine own_st (fun t k => XS.i2dS X187.here hx rfl (hb hby at_32) rfl (v := (FP.i2d i1)) (rfl) k) ?_
    show own_Run p e below s _ _ _ (T187.setTop (mkF m 33 #[.val (.int i0), .val (.int i1), .val (.int i2), .val (.int i3), .val (.int i4), .val (.int (4 : Int32)), .val (.ref b182), .val (.ref b187), .val (.long (0 : Int64)), .second, .unset] [(.double (FP.i2d i1)), (.int (0 : Int32)), (.ref b182)]))
    have V192 := (V182.ext E187)
    obtain ⟨cl193, Ar193, q193, S193, N193, H193, G193⟩ := id V192
    have hin193 : ¬ ((0 : Int32) < 0 ∨ cl193.slots.size ≤ ((0 : Int32)).toNatClampNeg) := inb_of S193 ⟨by decide, by decide⟩
    obtain ⟨T194, h194, X194, e194, W194, st194⟩ := stD X187 hx hZ e187 Ar193 (j := (0 : Int32)) hin193 (g := (mkF m 33 #[.val (.int i0), .val (.int i1), .val (.int i2), .val (.int i3), .val (.int i4), .val (.int (4 : Int32)), .val (.ref b182), .val (.ref b187), .val (.long (0 : Int64)), .second, .unset] [(.double (FP.i2d i1)), (.int (0 : Int32)), (.ref b182)])) rfl rfl (hb hby at_33)
    refine own_st st194 ?_
    have V194 : Arv Z h194 b182 k182 .double (4 : Int32) [(.double (FP.i2d i1)), (.double (0 : UInt64)), (.double (0 : UInt64)), (.double (0 : UInt64))] (.double (0 : UInt64)) := Arv.set Ar193 q193 S193 N193 H193 G193 rfl W194 0 rfl (Nat.le_of_ble_eq_true rfl)
    have N194 := Fr.snoc X194 N0 ge184
    have K195 : Keep h0 h194 [] := K190.wr W194 (Or.inr sz183)
    have O196 := O191.wr W194 ge184
    show own_Run p e below s _ _ _ (T194.setTop (mkF m 34 #[.val (.int i0), .val (.int i1), .val (.int i2), .val (.int i3), .val (.int i4), .val (.int (4 : Int32)), .val (.ref b182), .val (.ref b187), .val (.long (0 : Int64)), .second, .unset] []))
    refine own_st (fun t k => XS.aload X194.here hx rfl (hb hby at_34) rfl rfl k) ?_
    show own_Run p e below s _ _ _ (T194.setTop (mkF m 36 #[.val (.int i0), .val (.int i1), .val (.int i2), .val (.int i3), .val (.int i4), .val (.int (4 : Int32)), .val (.ref b182), .val (.ref b187), .val (.long (0 : Int64)), .second, .unset] [(.ref b187)]))
    refine own_st (fun t k => XS.iconst X194.here hx rfl (hb hby at_36) k) ?_
    show own_Run p e below s _ _ _ (T194.setTop (mkF m 37 #[.val (.int i0), .val (.int i1), .val (.int i2), .val (.int i3), .val (.int i4), .val (.int (4 : Int32)), .val (.ref b182), .val (.ref b187), .val (.long (0 : Int64)), .second, .unset] [(.int (0 : Int32)), (.ref b187)]))
    refine own_st (fun t k => XS.iconst X194.here hx rfl (hb hby at_37) k) ?_
    show own_Run p e below s _ _ _ (T194.setTop (mkF m 38 #[.val (.int i0), .val (.int i1), .val (.int i2), .val (.int i3), .val (.int i4), .val (.int (4 : Int32)), .val (.ref b182), .val (.ref b187), .val (.long (0 : Int64)), .second, .unset] [(.int (0 : Int32)), (.int (0 : Int32)), (.ref b187)]))
    have V197 := (V187.other W194 (Ne.symm (Nat.ne_of_lt (Nat.lt_of_lt_of_le A182.lt (Nat.le_of_eq g187.symm)))))
    obtain ⟨cl198, Ar198, q198, S198, N198, H198, G198⟩ := id V197
    have hin198 : ¬ ((0 : Int32) < 0 ∨ cl198.slots.size ≤ ((0 : Int32)).toNatClampNeg) := inb_of S198 ⟨by decide, by decide⟩
    obtain ⟨T199, h199, X199, e199, W199, st199⟩ := stI X194 hx hZ e194 Ar198 (j := (0 : Int32)) hin198 (g := (mkF m 38 #[.val (.int i0), .val (.int i1), .val (.int i2), .val (.int i3), .val (.int i4), .val (.int (4 : Int32)), .val (.ref b182), .val (.ref b187), .val (.long (0 : Int64)), .second, .unset] [(.int (0 : Int32)), (.int (0 : Int32)), (.ref b187)])) rfl rfl (hb hby at_38)
    refine own_st st199 ?_
    have V199 : Arv Z h199 b187 k187 .int (4 : Int32) [(.int (0 : Int32)), (.int (0 : Int32)), (.int (0 : Int32)), (.int (0 : Int32))] (.int (0 : Int32)) := Arv.set Ar198 q198 S198 N198 H198 G198 rfl W199 0 rfl (Nat.le_of_ble_eq_true rfl)
    have N199 := Fr.snoc X199 N194 ge189
    have K200 : Keep h0 h199 [] := K195.wr W199 (Or.inr sz188)
    have O201 := O196.wr W199 ge189
    show own_Run p e below s _ _ _ (T199.setTop (mkF m 39 #[.val (.int i0), .val (.int i1), .val (.int i2), .val (.int i3), .val (.int i4), .val (.int (4 : Int32)), .val (.ref b182), .val (.ref b187), .val (.long (0 : Int64)), .second, .unset] []))
    refine own_st (fun t k => XS.lload X199.here hx rfl (hb hby at_39) rfl k) ?_
    show own_Run p e below s _ _ _ (T199.setTop (mkF m 41 #[.val (.int i0), .val (.int i1), .val (.int i2), .val (.int i3), .val (.int i4), .val (.int (4 : Int32)), .val (.ref b182), .val (.ref b187), .val (.long (0 : Int64)), .second, .unset] [(.long (0 : Int64))]))
    refine own_st (fun t k => XS.iloadN X199.here hx rfl (hb hby at_41) rfl k) ?_
    show own_Run p e below s _ _ _ (T199.setTop (mkF m 42 #[.val (.int i0), .val (.int i1), .val (.int i2), .val (.int i3), .val (.int i4), .val (.int (4 : Int32)), .val (.ref b182), .val (.ref b187), .val (.long (0 : Int64)), .second, .unset] [(.int i1), (.long (0 : Int64))]))
    refine own_st (fun t k => XS.i2l X199.here hx rfl (hb hby at_42) rfl k) ?_
    show own_Run p e below s _ _ _ (T199.setTop (mkF m 43 #[.val (.int i0), .val (.int i1), .val (.int i2), .val (.int i3), .val (.int i4), .val (.int (4 : Int32)), .val (.ref b182), .val (.ref b187), .val (.long (0 : Int64)), .second, .unset] [(.long (i1.toInt64)), (.long (0 : Int64))]))
    refine own_st (fun t k => XS.ladd X199.here hx rfl (hb hby at_43) rfl k) ?_
    show own_Run p e below s _ _ _ (T199.setTop (mkF m 44 #[.val (.int i0), .val (.int i1), .val (.int i2), .val (.int i3), .val (.int i4), .val (.int (4 : Int32)), .val (.ref b182), .val (.ref b187), .val (.long (0 : Int64)), .second, .unset] [(.long ((0 : Int64) + (i1.toInt64)))]))
    refine own_st (fun t k => XS.lstore X199.here hx rfl (hb hby at_44) rfl (l' := #[.val (.int i0), .val (.int i1), .val (.int i2), .val (.int i3), .val (.int i4), .val (.int (4 : Int32)), .val (.ref b182), .val (.ref b187), .val (.long ((0 : Int64) + (i1.toInt64))), .second, .unset]) rfl k) ?_
    show own_Run p e below s _ _ _ (T199.setTop (mkF m 46 #[.val (.int i0), .val (.int i1), .val (.int i2), .val (.int i3), .val (.int i4), .val (.int (4 : Int32)), .val (.ref b182), .val (.ref b187), .val (.long ((0 : Int64) + (i1.toInt64))), .second, .unset] []))
    refine own_st (fun t k => XS.iload X199.here hx rfl (hb hby at_46) rfl k) ?_
    show own_Run p e below s _ _ _ (T199.setTop (mkF m 48 #[.val (.int i0), .val (.int i1), .val (.int i2), .val (.int i3), .val (.int i4), .val (.int (4 : Int32)), .val (.ref b182), .val (.ref b187), .val (.long ((0 : Int64) + (i1.toInt64))), .second, .unset] [(.int (4 : Int32))]))
    refine own_st (fun t k => XS.iconst X199.here hx rfl (hb hby at_48) k) ?_
    show own_Run p e below s _ _ _ (T199.setTop (mkF m 49 #[.val (.int i0), .val (.int i1), .val (.int i2), .val (.int i3), .val (.int i4), .val (.int (4 : Int32)), .val (.ref b182), .val (.ref b187), .val (.long ((0 : Int64) + (i1.toInt64))), .second, .unset] [(.int (1 : Int32)), (.int (4 : Int32))]))
    refine own_st (fun t k => XS.icmpNo X199.here hx rfl (hb hby at_49) rfl (tlt (by decide : (1 : Int32) < (4 : Int32))).2.2.2 k) ?_
    show own_Run p e below s _ _ _ (T199.setTop (mkF m 52 #[.val (.int i0), .val (.int i1), .val (.int i2), .val (.int i3), .val (.int i4), .val (.int (4 : Int32)), .val (.ref b182), .val (.ref b187), .val (.long ((0 : Int64) + (i1.toInt64))), .second, .unset] []))
    refine own_st (fun t k => XS.aload X199.here hx rfl (hb hby at_52) rfl rfl k) ?_
    show own_Run p e below s _ _ _ (T199.setTop (mkF m 54 #[.val (.int i0), .val (.int i1), .val (.int i2), .val (.int i3), .val (.int i4), .val (.int (4 : Int32)), .val (.ref b182), .val (.ref b187), .val (.long ((0 : Int64) + (i1.toInt64))), .second, .unset] [(.ref b182)]))
    refine own_st (fun t k => XS.iconst X199.here hx rfl (hb hby at_54) k) ?_
    show own_Run p e below s _ _ _ (T199.setTop (mkF m 55 #[.val (.int i0), .val (.int i1), .val (.int i2), .val (.int i3), .val (.int i4), .val (.int (4 : Int32)), .val (.ref b182), .val (.ref b187), .val (.long ((0 : Int64) + (i1.toInt64))), .second, .unset] [(.int (1 : Int32)), (.ref b182)]))
    refine own_st (fun t k => XS.iloadN X199.here hx rfl (hb hby at_55) rfl k) ?_
    show own_Run p e below s _ _ _ (T199.setTop (mkF m 56 #[.val (.int i0), .val (.int i1), .val (.int i2), .val (.int i3), .val (.int i4), .val (.int (4 : Int32)), .val (.ref b182), .val (.ref b187), .val (.long ((0 : Int64) + (i1.toInt64))), .second, .unset] [(.int i2), (.int (1 : Int32)), (.ref b182)]))
    refine own_st (fun t k => XS.i2dS X199.here hx rfl (hb hby at_56) rfl (v := (FP.i2d i2)) (rfl) k) ?_
    show own_Run p e below s _ _ _ (T199.setTop (mkF m 57 #[.val (.int i0), .val (.int i1), .val (.int i2), .val (.int i3), .val (.int i4), .val (.int (4 : Int32)), .val (.ref b182), .val (.ref b187), .val (.long ((0 : Int64) + (i1.toInt64))), .second, .unset] [(.double (FP.i2d i2)), (.int (1 : Int32)), (.ref b182)]))
    have V202 := (V194.other W199 (Nat.ne_of_lt (Nat.lt_of_lt_of_le A182.lt (Nat.le_of_eq g187.symm))))
    obtain ⟨cl203, Ar203, q203, S203, N203, H203, G203⟩ := id V202
    have hin203 : ¬ ((1 : Int32) < 0 ∨ cl203.slots.size ≤ ((1 : Int32)).toNatClampNeg) := inb_of S203 ⟨by decide, by decide⟩
    obtain ⟨T204, h204, X204, e204, W204, st204⟩ := stD X199 hx hZ e199 Ar203 (j := (1 : Int32)) hin203 (g := (mkF m 57 #[.val (.int i0), .val (.int i1), .val (.int i2), .val (.int i3), .val (.int i4), .val (.int (4 : Int32)), .val (.ref b182), .val (.ref b187), .val (.long ((0 : Int64) + (i1.toInt64))), .second, .unset] [(.double (FP.i2d i2)), (.int (1 : Int32)), (.ref b182)])) rfl rfl (hb hby at_57)
    refine own_st st204 ?_
    have V204 : Arv Z h204 b182 k182 .double (4 : Int32) [(.double (FP.i2d i1)), (.double (FP.i2d i2)), (.double (0 : UInt64)), (.double (0 : UInt64))] (.double (0 : UInt64)) := Arv.set Ar203 q203 S203 N203 H203 G203 rfl W204 1 rfl (Nat.le_of_ble_eq_true rfl)
    have N204 := Fr.snoc X204 N199 ge184
    have K205 : Keep h0 h204 [] := K200.wr W204 (Or.inr sz183)
    have O206 := O201.wr W204 ge184
    show own_Run p e below s _ _ _ (T204.setTop (mkF m 58 #[.val (.int i0), .val (.int i1), .val (.int i2), .val (.int i3), .val (.int i4), .val (.int (4 : Int32)), .val (.ref b182), .val (.ref b187), .val (.long ((0 : Int64) + (i1.toInt64))), .second, .unset] []))
    refine own_st (fun t k => XS.aload X204.here hx rfl (hb hby at_58) rfl rfl k) ?_
    show own_Run p e below s _ _ _ (T204.setTop (mkF m 60 #[.val (.int i0), .val (.int i1), .val (.int i2), .val (.int i3), .val (.int i4), .val (.int (4 : Int32)), .val (.ref b182), .val (.ref b187), .val (.long ((0 : Int64) + (i1.toInt64))), .second, .unset] [(.ref b187)]))
    refine own_st (fun t k => XS.iconst X204.here hx rfl (hb hby at_60) k) ?_
    show own_Run p e below s _ _ _ (T204.setTop (mkF m 61 #[.val (.int i0), .val (.int i1), .val (.int i2), .val (.int i3), .val (.int i4), .val (.int (4 : Int32)), .val (.ref b182), .val (.ref b187), .val (.long ((0 : Int64) + (i1.toInt64))), .second, .unset] [(.int (1 : Int32)), (.ref b187)]))
    refine own_st (fun t k => XS.iconst X204.here hx rfl (hb hby at_61) k) ?_
    show own_Run p e below s _ _ _ (T204.setTop (mkF m 62 #[.val (.int i0), .val (.int i1), .val (.int i2), .val (.int i3), .val (.int i4), .val (.int (4 : Int32)), .val (.ref b182), .val (.ref b187), .val (.long ((0 : Int64) + (i1.toInt64))), .second, .unset] [(.int (1 : Int32)), (.int (1 : Int32)), (.ref b187)]))
    have V207 := (V199.other W204 (Ne.symm (Nat.ne_of_lt (Nat.lt_of_lt_of_le A182.lt (Nat.le_of_eq g187.symm)))))
    obtain ⟨cl208, Ar208, q208, S208, N208, H208, G208⟩ := id V207
    have hin208 : ¬ ((1 : Int32) < 0 ∨ cl208.slots.size ≤ ((1 : Int32)).toNatClampNeg) := inb_of S208 ⟨by decide, by decide⟩
    obtain ⟨T209, h209, X209, e209, W209, st209⟩ := stI X204 hx hZ e204 Ar208 (j := (1 : Int32)) hin208 (g := (mkF m 62 #[.val (.int i0), .val (.int i1), .val (.int i2), .val (.int i3), .val (.int i4), .val (.int (4 : Int32)), .val (.ref b182), .val (.ref b187), .val (.long ((0 : Int64) + (i1.toInt64))), .second, .unset] [(.int (1 : Int32)), (.int (1 : Int32)), (.ref b187)])) rfl rfl (hb hby at_62)
    refine own_st st209 ?_
    have V209 : Arv Z h209 b187 k187 .int (4 : Int32) [(.int (0 : Int32)), (.int (1 : Int32)), (.int (0 : Int32)), (.int (0 : Int32))] (.int (0 : Int32)) := Arv.set Ar208 q208 S208 N208 H208 G208 rfl W209 1 rfl (Nat.le_of_ble_eq_true rfl)
    have N209 := Fr.snoc X209 N204 ge189
    have K210 : Keep h0 h209 [] := K205.wr W209 (Or.inr sz188)
    have O211 := O206.wr W209 ge189
    show own_Run p e below s _ _ _ (T209.setTop (mkF m 63 #[.val (.int i0), .val (.int i1), .val (.int i2), .val (.int i3), .val (.int i4), .val (.int (4 : Int32)), .val (.ref b182), .val (.ref b187), .val (.long ((0 : Int64) + (i1.toInt64))), .second, .unset] []))
    refine own_st (fun t k => XS.lload X209.here hx rfl (hb hby at_63) rfl k) ?_
    show own_Run p e below s _ _ _ (T209.setTop (mkF m 65 #[.val (.int i0), .val (.int i1), .val (.int i2), .val (.int i3), .val (.int i4), .val (.int (4 : Int32)), .val (.ref b182), .val (.ref b187), .val (.long ((0 : Int64) + (i1.toInt64))), .second, .unset] [(.long ((0 : Int64) + (i1.toInt64)))]))
    refine own_st (fun t k => XS.iloadN X209.here hx rfl (hb hby at_65) rfl k) ?_
    show own_Run p e below s _ _ _ (T209.setTop (mkF m 66 #[.val (.int i0), .val (.int i1), .val (.int i2), .val (.int i3), .val (.int i4), .val (.int (4 : Int32)), .val (.ref b182), .val (.ref b187), .val (.long ((0 : Int64) + (i1.toInt64))), .second, .unset] [(.int i2), (.long ((0 : Int64) + (i1.toInt64)))]))
    refine own_st (fun t k => XS.i2l X209.here hx rfl (hb hby at_66) rfl k) ?_
    show own_Run p e below s _ _ _ (T209.setTop (mkF m 67 #[.val (.int i0), .val (.int i1), .val (.int i2), .val (.int i3), .val (.int i4), .val (.int (4 : Int32)), .val (.ref b182), .val (.ref b187), .val (.long ((0 : Int64) + (i1.toInt64))), .second, .unset] [(.long (i2.toInt64)), (.long ((0 : Int64) + (i1.toInt64)))]))
    refine own_st (fun t k => XS.ladd X209.here hx rfl (hb hby at_67) rfl k) ?_
    show own_Run p e below s _ _ _ (T209.setTop (mkF m 68 #[.val (.int i0), .val (.int i1), .val (.int i2), .val (.int i3), .val (.int i4), .val (.int (4 : Int32)), .val (.ref b182), .val (.ref b187), .val (.long ((0 : Int64) + (i1.toInt64))), .second, .unset] [(.long (((0 : Int64) + (i1.toInt64)) + (i2.toInt64)))]))
    refine own_st (fun t k => XS.lstore X209.here hx rfl (hb hby at_68) rfl (l' := #[.val (.int i0), .val (.int i1), .val (.int i2), .val (.int i3), .val (.int i4), .val (.int (4 : Int32)), .val (.ref b182), .val (.ref b187), .val (.long (((0 : Int64) + (i1.toInt64)) + (i2.toInt64))), .second, .unset]) rfl k) ?_
    show own_Run p e below s _ _ _ (T209.setTop (mkF m 70 #[.val (.int i0), .val (.int i1), .val (.int i2), .val (.int i3), .val (.int i4), .val (.int (4 : Int32)), .val (.ref b182), .val (.ref b187), .val (.long (((0 : Int64) + (i1.toInt64)) + (i2.toInt64))), .second, .unset] []))
    refine own_st (fun t k => XS.iload X209.here hx rfl (hb hby at_70) rfl k) ?_
    show own_Run p e below s _ _ _ (T209.setTop (mkF m 72 #[.val (.int i0), .val (.int i1), .val (.int i2), .val (.int i3), .val (.int i4), .val (.int (4 : Int32)), .val (.ref b182), .val (.ref b187), .val (.long (((0 : Int64) + (i1.toInt64)) + (i2.toInt64))), .second, .unset] [(.int (4 : Int32))]))
    refine own_st (fun t k => XS.iconst X209.here hx rfl (hb hby at_72) k) ?_
    show own_Run p e below s _ _ _ (T209.setTop (mkF m 73 #[.val (.int i0), .val (.int i1), .val (.int i2), .val (.int i3), .val (.int i4), .val (.int (4 : Int32)), .val (.ref b182), .val (.ref b187), .val (.long (((0 : Int64) + (i1.toInt64)) + (i2.toInt64))), .second, .unset] [(.int (2 : Int32)), (.int (4 : Int32))]))
    refine own_st (fun t k => XS.icmpNo X209.here hx rfl (hb hby at_73) rfl (tlt (by decide : (2 : Int32) < (4 : Int32))).2.2.2 k) ?_
    show own_Run p e below s _ _ _ (T209.setTop (mkF m 76 #[.val (.int i0), .val (.int i1), .val (.int i2), .val (.int i3), .val (.int i4), .val (.int (4 : Int32)), .val (.ref b182), .val (.ref b187), .val (.long (((0 : Int64) + (i1.toInt64)) + (i2.toInt64))), .second, .unset] []))
    refine own_st (fun t k => XS.aload X209.here hx rfl (hb hby at_76) rfl rfl k) ?_
    show own_Run p e below s _ _ _ (T209.setTop (mkF m 78 #[.val (.int i0), .val (.int i1), .val (.int i2), .val (.int i3), .val (.int i4), .val (.int (4 : Int32)), .val (.ref b182), .val (.ref b187), .val (.long (((0 : Int64) + (i1.toInt64)) + (i2.toInt64))), .second, .unset] [(.ref b182)]))
    refine own_st (fun t k => XS.iconst X209.here hx rfl (hb hby at_78) k) ?_
    show own_Run p e below s _ _ _ (T209.setTop (mkF m 79 #[.val (.int i0), .val (.int i1), .val (.int i2), .val (.int i3), .val (.int i4), .val (.int (4 : Int32)), .val (.ref b182), .val (.ref b187), .val (.long (((0 : Int64) + (i1.toInt64)) + (i2.toInt64))), .second, .unset] [(.int (2 : Int32)), (.ref b182)]))
    refine own_st (fun t k => XS.iloadN X209.here hx rfl (hb hby at_79) rfl k) ?_
    show own_Run p e below s _ _ _ (T209.setTop (mkF m 80 #[.val (.int i0), .val (.int i1), .val (.int i2), .val (.int i3), .val (.int i4), .val (.int (4 : Int32)), .val (.ref b182), .val (.ref b187), .val (.long (((0 : Int64) + (i1.toInt64)) + (i2.toInt64))), .second, .unset] [(.int i3), (.int (2 : Int32)), (.ref b182)]))
    refine own_st (fun t k => XS.i2dS X209.here hx rfl (hb hby at_80) rfl (v := (FP.i2d i3)) (rfl) k) ?_
    show own_Run p e below s _ _ _ (T209.setTop (mkF m 81 #[.val (.int i0), .val (.int i1), .val (.int i2), .val (.int i3), .val (.int i4), .val (.int (4 : Int32)), .val (.ref b182), .val (.ref b187), .val (.long (((0 : Int64) + (i1.toInt64)) + (i2.toInt64))), .second, .unset] [(.double (FP.i2d i3)), (.int (2 : Int32)), (.ref b182)]))
    have V212 := (V204.other W209 (Nat.ne_of_lt (Nat.lt_of_lt_of_le A182.lt (Nat.le_of_eq g187.symm))))
    obtain ⟨cl213, Ar213, q213, S213, N213, H213, G213⟩ := id V212
    have hin213 : ¬ ((2 : Int32) < 0 ∨ cl213.slots.size ≤ ((2 : Int32)).toNatClampNeg) := inb_of S213 ⟨by decide, by decide⟩
    obtain ⟨T214, h214, X214, e214, W214, st214⟩ := stD X209 hx hZ e209 Ar213 (j := (2 : Int32)) hin213 (g := (mkF m 81 #[.val (.int i0), .val (.int i1), .val (.int i2), .val (.int i3), .val (.int i4), .val (.int (4 : Int32)), .val (.ref b182), .val (.ref b187), .val (.long (((0 : Int64) + (i1.toInt64)) + (i2.toInt64))), .second, .unset] [(.double (FP.i2d i3)), (.int (2 : Int32)), (.ref b182)])) rfl rfl (hb hby at_81)
    refine own_st st214 ?_
    have V214 : Arv Z h214 b182 k182 .double (4 : Int32) [(.double (FP.i2d i1)), (.double (FP.i2d i2)), (.double (FP.i2d i3)), (.double (0 : UInt64))] (.double (0 : UInt64)) := Arv.set Ar213 q213 S213 N213 H213 G213 rfl W214 2 rfl (Nat.le_of_ble_eq_true rfl)
    have N214 := Fr.snoc X214 N209 ge184
    have K215 : Keep h0 h214 [] := K210.wr W214 (Or.inr sz183)
    have O216 := O211.wr W214 ge184
    show own_Run p e below s _ _ _ (T214.setTop (mkF m 82 #[.val (.int i0), .val (.int i1), .val (.int i2), .val (.int i3), .val (.int i4), .val (.int (4 : Int32)), .val (.ref b182), .val (.ref b187), .val (.long (((0 : Int64) + (i1.toInt64)) + (i2.toInt64))), .second, .unset] []))
    refine own_st (fun t k => XS.aload X214.here hx rfl (hb hby at_82) rfl rfl k) ?_
    show own_Run p e below s _ _ _ (T214.setTop (mkF m 84 #[.val (.int i0), .val (.int i1), .val (.int i2), .val (.int i3), .val (.int i4), .val (.int (4 : Int32)), .val (.ref b182), .val (.ref b187), .val (.long (((0 : Int64) + (i1.toInt64)) + (i2.toInt64))), .second, .unset] [(.ref b187)]))
    refine own_st (fun t k => XS.iconst X214.here hx rfl (hb hby at_84) k) ?_
    show own_Run p e below s _ _ _ (T214.setTop (mkF m 85 #[.val (.int i0), .val (.int i1), .val (.int i2), .val (.int i3), .val (.int i4), .val (.int (4 : Int32)), .val (.ref b182), .val (.ref b187), .val (.long (((0 : Int64) + (i1.toInt64)) + (i2.toInt64))), .second, .unset] [(.int (2 : Int32)), (.ref b187)]))
    refine own_st (fun t k => XS.iconst X214.here hx rfl (hb hby at_85) k) ?_
    show own_Run p e below s _ _ _ (T214.setTop (mkF m 86 #[.val (.int i0), .val (.int i1), .val (.int i2), .val (.int i3), .val (.int i4), .val (.int (4 : Int32)), .val (.ref b182), .val (.ref b187), .val (.long (((0 : Int64) + (i1.toInt64)) + (i2.toInt64))), .second, .unset] [(.int (2 : Int32)), (.int (2 : Int32)), (.ref b187)]))
    have V217 := (V209.other W214 (Ne.symm (Nat.ne_of_lt (Nat.lt_of_lt_of_le A182.lt (Nat.le_of_eq g187.symm)))))
    obtain ⟨cl218, Ar218, q218, S218, N218, H218, G218⟩ := id V217
    have hin218 : ¬ ((2 : Int32) < 0 ∨ cl218.slots.size ≤ ((2 : Int32)).toNatClampNeg) := inb_of S218 ⟨by decide, by decide⟩
    obtain ⟨T219, h219, X219, e219, W219, st219⟩ := stI X214 hx hZ e214 Ar218 (j := (2 : Int32)) hin218 (g := (mkF m 86 #[.val (.int i0), .val (.int i1), .val (.int i2), .val (.int i3), .val (.int i4), .val (.int (4 : Int32)), .val (.ref b182), .val (.ref b187), .val (.long (((0 : Int64) + (i1.toInt64)) + (i2.toInt64))), .second, .unset] [(.int (2 : Int32)), (.int (2 : Int32)), (.ref b187)])) rfl rfl (hb hby at_86)
    refine own_st st219 ?_
    have V219 : Arv Z h219 b187 k187 .int (4 : Int32) [(.int (0 : Int32)), (.int (1 : Int32)), (.int (2 : Int32)), (.int (0 : Int32))] (.int (0 : Int32)) := Arv.set Ar218 q218 S218 N218 H218 G218 rfl W219 2 rfl (Nat.le_of_ble_eq_true rfl)
    have N219 := Fr.snoc X219 N214 ge189
    have K220 : Keep h0 h219 [] := K215.wr W219 (Or.inr sz188)
    have O221 := O216.wr W219 ge189
    show own_Run p e below s _ _ _ (T219.setTop (mkF m 87 #[.val (.int i0), .val (.int i1), .val (.int i2), .val (.int i3), .val (.int i4), .val (.int (4 : Int32)), .val (.ref b182), .val (.ref b187), .val (.long (((0 : Int64) + (i1.toInt64)) + (i2.toInt64))), .second, .unset] []))
    refine own_st (fun t k => XS.lload X219.here hx rfl (hb hby at_87) rfl k) ?_
    show own_Run p e below s _ _ _ (T219.setTop (mkF m 89 #[.val (.int i0), .val (.int i1), .val (.int i2), .val (.int i3), .val (.int i4), .val (.int (4 : Int32)), .val (.ref b182), .val (.ref b187), .val (.long (((0 : Int64) + (i1.toInt64)) + (i2.toInt64))), .second, .unset] [(.long (((0 : Int64) + (i1.toInt64)) + (i2.toInt64)))]))
    refine own_st (fun t k => XS.iloadN X219.here hx rfl (hb hby at_89) rfl k) ?_
    show own_Run p e below s _ _ _ (T219.setTop (mkF m 90 #[.val (.int i0), .val (.int i1), .val (.int i2), .val (.int i3), .val (.int i4), .val (.int (4 : Int32)), .val (.ref b182), .val (.ref b187), .val (.long (((0 : Int64) + (i1.toInt64)) + (i2.toInt64))), .second, .unset] [(.int i3), (.long (((0 : Int64) + (i1.toInt64)) + (i2.toInt64)))]))
    refine own_st (fun t k => XS.i2l X219.here hx rfl (hb hby at_90) rfl k) ?_
    show own_Run p e below s _ _ _ (T219.setTop (mkF m 91 #[.val (.int i0), .val (.int i1), .val (.int i2), .val (.int i3), .val (.int i4), .val (.int (4 : Int32)), .val (.ref b182), .val (.ref b187), .val (.long (((0 : Int64) + (i1.toInt64)) + (i2.toInt64))), .second, .unset] [(.long (i3.toInt64)), (.long (((0 : Int64) + (i1.toInt64)) + (i2.toInt64)))]))
    refine own_st (fun t k => XS.ladd X219.here hx rfl (hb hby at_91) rfl k) ?_
    show own_Run p e below s _ _ _ (T219.setTop (mkF m 92 #[.val (.int i0), .val (.int i1), .val (.int i2), .val (.int i3), .val (.int i4), .val (.int (4 : Int32)), .val (.ref b182), .val (.ref b187), .val (.long (((0 : Int64) + (i1.toInt64)) + (i2.toInt64))), .second, .unset] [(.long ((((0 : Int64) + (i1.toInt64)) + (i2.toInt64)) + (i3.toInt64)))]))
    refine own_st (fun t k => XS.lstore X219.here hx rfl (hb hby at_92) rfl (l' := #[.val (.int i0), .val (.int i1), .val (.int i2), .val (.int i3), .val (.int i4), .val (.int (4 : Int32)), .val (.ref b182), .val (.ref b187), .val (.long ((((0 : Int64) + (i1.toInt64)) + (i2.toInt64)) + (i3.toInt64))), .second, .unset]) rfl k) ?_
    show own_Run p e below s _ _ _ (T219.setTop (mkF m 94 #[.val (.int i0), .val (.int i1), .val (.int i2), .val (.int i3), .val (.int i4), .val (.int (4 : Int32)), .val (.ref b182), .val (.ref b187), .val (.long ((((0 : Int64) + (i1.toInt64)) + (i2.toInt64)) + (i3.toInt64))), .second, .unset] []))
    refine own_st (fun t k => XS.iload X219.here hx rfl (hb hby at_94) rfl k) ?_
    show own_Run p e below s _ _ _ (T219.setTop (mkF m 96 #[.val (.int i0), .val (.int i1), .val (.int i2), .val (.int i3), .val (.int i4), .val (.int (4 : Int32)), .val (.ref b182), .val (.ref b187), .val (.long ((((0 : Int64) + (i1.toInt64)) + (i2.toInt64)) + (i3.toInt64))), .second, .unset] [(.int (4 : Int32))]))
    refine own_st (fun t k => XS.iconst X219.here hx rfl (hb hby at_96) k) ?_
    show own_Run p e below s _ _ _ (T219.setTop (mkF m 97 #[.val (.int i0), .val (.int i1), .val (.int i2), .val (.int i3), .val (.int i4), .val (.int (4 : Int32)), .val (.ref b182), .val (.ref b187), .val (.long ((((0 : Int64) + (i1.toInt64)) + (i2.toInt64)) + (i3.toInt64))), .second, .unset] [(.int (3 : Int32)), (.int (4 : Int32))]))
    refine own_st (fun t k => XS.icmpNo X219.here hx rfl (hb hby at_97) rfl (tlt (by decide : (3 : Int32) < (4 : Int32))).2.2.2 k) ?_
    show own_Run p e below s _ _ _ (T219.setTop (mkF m 100 #[.val (.int i0), .val (.int i1), .val (.int i2), .val (.int i3), .val (.int i4), .val (.int (4 : Int32)), .val (.ref b182), .val (.ref b187), .val (.long ((((0 : Int64) + (i1.toInt64)) + (i2.toInt64)) + (i3.toInt64))), .second, .unset] []))
    refine own_st (fun t k => XS.aload X219.here hx rfl (hb hby at_100) rfl rfl k) ?_
    show own_Run p e below s _ _ _ (T219.setTop (mkF m 102 #[.val (.int i0), .val (.int i1), .val (.int i2), .val (.int i3), .val (.int i4), .val (.int (4 : Int32)), .val (.ref b182), .val (.ref b187), .val (.long ((((0 : Int64) + (i1.toInt64)) + (i2.toInt64)) + (i3.toInt64))), .second, .unset] [(.ref b182)]))
    refine own_st (fun t k => XS.iconst X219.here hx rfl (hb hby at_102) k) ?_
    show own_Run p e below s _ _ _ (T219.setTop (mkF m 103 #[.val (.int i0), .val (.int i1), .val (.int i2), .val (.int i3), .val (.int i4), .val (.int (4 : Int32)), .val (.ref b182), .val (.ref b187), .val (.long ((((0 : Int64) + (i1.toInt64)) + (i2.toInt64)) + (i3.toInt64))), .second, .unset] [(.int (3 : Int32)), (.ref b182)]))
    refine own_st (fun t k => XS.iload X219.here hx rfl (hb hby at_103) rfl k) ?_
    show own_Run p e below s _ _ _ (T219.setTop (mkF m 105 #[.val (.int i0), .val (.int i1), .val (.int i2), .val (.int i3), .val (.int i4), .val (.int (4 : Int32)), .val (.ref b182), .val (.ref b187), .val (.long ((((0 : Int64) + (i1.toInt64)) + (i2.toInt64)) + (i3.toInt64))), .second, .unset] [(.int i4), (.int (3 : Int32)), (.ref b182)]))
    refine own_st (fun t k => XS.i2dS X219.here hx rfl (hb hby at_105) rfl (v := (FP.i2d i4)) (rfl) k) ?_
    show own_Run p e below s _ _ _ (T219.setTop (mkF m 106 #[.val (.int i0), .val (.int i1), .val (.int i2), .val (.int i3), .val (.int i4), .val (.int (4 : Int32)), .val (.ref b182), .val (.ref b187), .val (.long ((((0 : Int64) + (i1.toInt64)) + (i2.toInt64)) + (i3.toInt64))), .second, .unset] [(.double (FP.i2d i4)), (.int (3 : Int32)), (.ref b182)]))
    have V222 := (V214.other W219 (Nat.ne_of_lt (Nat.lt_of_lt_of_le A182.lt (Nat.le_of_eq g187.symm))))
    obtain ⟨cl223, Ar223, q223, S223, N223, H223, G223⟩ := id V222
    have hin223 : ¬ ((3 : Int32) < 0 ∨ cl223.slots.size ≤ ((3 : Int32)).toNatClampNeg) := inb_of S223 ⟨by decide, by decide⟩
    obtain ⟨T224, h224, X224, e224, W224, st224⟩ := stD X219 hx hZ e219 Ar223 (j := (3 : Int32)) hin223 (g := (mkF m 106 #[.val (.int i0), .val (.int i1), .val (.int i2), .val (.int i3), .val (.int i4), .val (.int (4 : Int32)), .val (.ref b182), .val (.ref b187), .val (.long ((((0 : Int64) + (i1.toInt64)) + (i2.toInt64)) + (i3.toInt64))), .second, .unset] [(.double (FP.i2d i4)), (.int (3 : Int32)), (.ref b182)])) rfl rfl (hb hby at_106)
    refine own_st st224 ?_
    have V224 : Arv Z h224 b182 k182 .double (4 : Int32) [(.double (FP.i2d i1)), (.double (FP.i2d i2)), (.double (FP.i2d i3)), (.double (FP.i2d i4))] (.double (0 : UInt64)) := Arv.set Ar223 q223 S223 N223 H223 G223 rfl W224 3 rfl (Nat.le_of_ble_eq_true rfl)
    have N224 := Fr.snoc X224 N219 ge184
    have K225 : Keep h0 h224 [] := K220.wr W224 (Or.inr sz183)
    have O226 := O221.wr W224 ge184
    show own_Run p e below s _ _ _ (T224.setTop (mkF m 107 #[.val (.int i0), .val (.int i1), .val (.int i2), .val (.int i3), .val (.int i4), .val (.int (4 : Int32)), .val (.ref b182), .val (.ref b187), .val (.long ((((0 : Int64) + (i1.toInt64)) + (i2.toInt64)) + (i3.toInt64))), .second, .unset] []))
    refine own_st (fun t k => XS.aload X224.here hx rfl (hb hby at_107) rfl rfl k) ?_
    show own_Run p e below s _ _ _ (T224.setTop (mkF m 109 #[.val (.int i0), .val (.int i1), .val (.int i2), .val (.int i3), .val (.int i4), .val (.int (4 : Int32)), .val (.ref b182), .val (.ref b187), .val (.long ((((0 : Int64) + (i1.toInt64)) + (i2.toInt64)) + (i3.toInt64))), .second, .unset] [(.ref b187)]))
    refine own_st (fun t k => XS.iconst X224.here hx rfl (hb hby at_109) k) ?_
    show own_Run p e below s _ _ _ (T224.setTop (mkF m 110 #[.val (.int i0), .val (.int i1), .val (.int i2), .val (.int i3), .val (.int i4), .val (.int (4 : Int32)), .val (.ref b182), .val (.ref b187), .val (.long ((((0 : Int64) + (i1.toInt64)) + (i2.toInt64)) + (i3.toInt64))), .second, .unset] [(.int (3 : Int32)), (.ref b187)]))
    refine own_st (fun t k => XS.iconst X224.here hx rfl (hb hby at_110) k) ?_
    show own_Run p e below s _ _ _ (T224.setTop (mkF m 111 #[.val (.int i0), .val (.int i1), .val (.int i2), .val (.int i3), .val (.int i4), .val (.int (4 : Int32)), .val (.ref b182), .val (.ref b187), .val (.long ((((0 : Int64) + (i1.toInt64)) + (i2.toInt64)) + (i3.toInt64))), .second, .unset] [(.int (3 : Int32)), (.int (3 : Int32)), (.ref b187)]))
    have V227 := (V219.other W224 (Ne.symm (Nat.ne_of_lt (Nat.lt_of_lt_of_le A182.lt (Nat.le_of_eq g187.symm)))))
    obtain ⟨cl228, Ar228, q228, S228, N228, H228, G228⟩ := id V227
    have hin228 : ¬ ((3 : Int32) < 0 ∨ cl228.slots.size ≤ ((3 : Int32)).toNatClampNeg) := inb_of S228 ⟨by decide, by decide⟩
    obtain ⟨T229, h229, X229, e229, W229, st229⟩ := stI X224 hx hZ e224 Ar228 (j := (3 : Int32)) hin228 (g := (mkF m 111 #[.val (.int i0), .val (.int i1), .val (.int i2), .val (.int i3), .val (.int i4), .val (.int (4 : Int32)), .val (.ref b182), .val (.ref b187), .val (.long ((((0 : Int64) + (i1.toInt64)) + (i2.toInt64)) + (i3.toInt64))), .second, .unset] [(.int (3 : Int32)), (.int (3 : Int32)), (.ref b187)])) rfl rfl (hb hby at_111)
    refine own_st st229 ?_
    have V229 : Arv Z h229 b187 k187 .int (4 : Int32) [(.int (0 : Int32)), (.int (1 : Int32)), (.int (2 : Int32)), (.int (3 : Int32))] (.int (0 : Int32)) := Arv.set Ar228 q228 S228 N228 H228 G228 rfl W229 3 rfl (Nat.le_of_ble_eq_true rfl)
    have N229 := Fr.snoc X229 N224 ge189
    have K230 : Keep h0 h229 [] := K225.wr W229 (Or.inr sz188)
    have O231 := O226.wr W229 ge189
    show own_Run p e below s _ _ _ (T229.setTop (mkF m 112 #[.val (.int i0), .val (.int i1), .val (.int i2), .val (.int i3), .val (.int i4), .val (.int (4 : Int32)), .val (.ref b182), .val (.ref b187), .val (.long ((((0 : Int64) + (i1.toInt64)) + (i2.toInt64)) + (i3.toInt64))), .second, .unset] []))
    refine own_st (fun t k => XS.lload X229.here hx rfl (hb hby at_112) rfl k) ?_
    show own_Run p e below s _ _ _ (T229.setTop (mkF m 114 #[.val (.int i0), .val (.int i1), .val (.int i2), .val (.int i3), .val (.int i4), .val (.int (4 : Int32)), .val (.ref b182), .val (.ref b187), .val (.long ((((0 : Int64) + (i1.toInt64)) + (i2.toInt64)) + (i3.toInt64))), .second, .unset] [(.long ((((0 : Int64) + (i1.toInt64)) + (i2.toInt64)) + (i3.toInt64)))]))
    refine own_st (fun t k => XS.iload X229.here hx rfl (hb hby at_114) rfl k) ?_
    show own_Run p e below s _ _ _ (T229.setTop (mkF m 116 #[.val (.int i0), .val (.int i1), .val (.int i2), .val (.int i3), .val (.int i4), .val (.int (4 : Int32)), .val (.ref b182), .val (.ref b187), .val (.long ((((0 : Int64) + (i1.toInt64)) + (i2.toInt64)) + (i3.toInt64))), .second, .unset] [(.int i4), (.long ((((0 : Int64) + (i1.toInt64)) + (i2.toInt64)) + (i3.toInt64)))]))
    refine own_st (fun t k => XS.i2l X229.here hx rfl (hb hby at_116) rfl k) ?_
    show own_Run p e below s _ _ _ (T229.setTop (mkF m 117 #[.val (.int i0), .val (.int i1), .val (.int i2), .val (.int i3), .val (.int i4), .val (.int (4 : Int32)), .val (.ref b182), .val (.ref b187), .val (.long ((((0 : Int64) + (i1.toInt64)) + (i2.toInt64)) + (i3.toInt64))), .second, .unset] [(.long (i4.toInt64)), (.long ((((0 : Int64) + (i1.toInt64)) + (i2.toInt64)) + (i3.toInt64)))]))
    refine own_st (fun t k => XS.ladd X229.here hx rfl (hb hby at_117) rfl k) ?_
    show own_Run p e below s _ _ _ (T229.setTop (mkF m 118 #[.val (.int i0), .val (.int i1), .val (.int i2), .val (.int i3), .val (.int i4), .val (.int (4 : Int32)), .val (.ref b182), .val (.ref b187), .val (.long ((((0 : Int64) + (i1.toInt64)) + (i2.toInt64)) + (i3.toInt64))), .second, .unset] [(.long (((((0 : Int64) + (i1.toInt64)) + (i2.toInt64)) + (i3.toInt64)) + (i4.toInt64)))]))
    refine own_st (fun t k => XS.lstore X229.here hx rfl (hb hby at_118) rfl (l' := #[.val (.int i0), .val (.int i1), .val (.int i2), .val (.int i3), .val (.int i4), .val (.int (4 : Int32)), .val (.ref b182), .val (.ref b187), .val (.long (((((0 : Int64) + (i1.toInt64)) + (i2.toInt64)) + (i3.toInt64)) + (i4.toInt64))), .second, .unset]) rfl k) ?_
    show own_Run p e below s _ _ _ (T229.setTop (mkF m 120 #[.val (.int i0), .val (.int i1), .val (.int i2), .val (.int i3), .val (.int i4), .val (.int (4 : Int32)), .val (.ref b182), .val (.ref b187), .val (.long (((((0 : Int64) + (i1.toInt64)) + (i2.toInt64)) + (i3.toInt64)) + (i4.toInt64))), .second, .unset] []))
    obtain ⟨T232, h232, X232, e232, E232, A232, D232, -, st232⟩ := newO X229 hx hZ hown (hw _ (List.mem_of_getElem? (i := 3) rfl)) (hw _ (List.mem_of_getElem? (i := 4) rfl)) (hw _ (List.mem_of_getElem? (i := 5) rfl)) e229 (g := (mkF m 120 #[.val (.int i0), .val (.int i1), .val (.int i2), .val (.int i3), .val (.int i4), .val (.int (4 : Int32)), .val (.ref b182), .val (.ref b187), .val (.long (((((0 : Int64) + (i1.toInt64)) + (i2.toInt64)) + (i3.toInt64)) + (i4.toInt64))), .second, .unset] [])) rfl (hb hby at_120) (by decide) (by decide)
    obtain ⟨b232, g232⟩ : ∃ z, z = h229.size := ⟨_, rfl⟩
    rw [← g232] at A232 D232 st232
    have sz233 : h0.size ≤ b232 := Nat.le_trans K230.1 (Nat.le_of_eq g232.symm)
    have ge234 : n0 ≤ b232 := Nat.le_trans Z0 sz233
    refine own_st st232 ?_
    have K235 : Keep h0 h232 [] := K230.ext E232
    have O236 := O231.ext E232
    show own_Run p e below s _ _ _ (T232.setTop (mkF m 123 #[.val (.int i0), .val (.int i1), .val (.int i2), .val (.int i3), .val (.int i4), .val (.int (4 : Int32)), .val (.ref b182), .val (.ref b187), .val (.long (((((0 : Int64) + (i1.toInt64)) + (i2.toInt64)) + (i3.toInt64)) + (i4.toInt64))), .second, .unset] [(.ref b232)]))
    refine own_st (fun t k => XS.dup X232.here hx rfl (hb hby at_123) rfl rfl k) ?_
    show own_Run p e below s _ _ _ (T232.setTop (mkF m 124 #[.val (.int i0), .val (.int i1), .val (.int i2), .val (.int i3), .val (.int i4), .val (.int (4 : Int32)), .val (.ref b182), .val (.ref b187), .val (.long (((((0 : Int64) + (i1.toInt64)) + (i2.toInt64)) + (i3.toInt64)) + (i4.toInt64))), .second, .unset] [(.ref b232), (.ref b232)]))
    refine own_st (fun t k => XS.aload X232.here hx rfl (hb hby at_124) rfl rfl k) ?_
    show own_Run p e below s _ _ _ (T232.setTop (mkF m 126 #[.val (.int i0), .val (.int i1), .val (.int i2), .val (.int i3), .val (.int i4), .val (.int (4 : Int32)), .val (.ref b182), .val (.ref b187), .val (.long (((((0 : Int64) + (i1.toInt64)) + (i2.toInt64)) + (i3.toInt64)) + (i4.toInt64))), .second, .unset] [(.ref b187), (.ref b232), (.ref b232)]))
    refine own_st (fun t k => XS.aload X232.here hx rfl (hb hby at_126) rfl rfl k) ?_
    show own_Run p e below s _ _ _ (T232.setTop (mkF m 128 #[.val (.int i0), .val (.int i1), .val (.int i2), .val (.int i3), .val (.int i4), .val (.int (4 : Int32)), .val (.ref b182), .val (.ref b187), .val (.long (((((0 : Int64) + (i1.toInt64)) + (i2.toInt64)) + (i3.toInt64)) + (i4.toInt64))), .second, .unset] [(.ref b182), (.ref b187), (.ref b232), (.ref b232)]))
    refine own_callI X232 hx hZ (y := (⟨"com/example/usurf/usurf/WalkWeights$Weights", "<init>", "([I[D)V"⟩ : MethodName)) rfl hown (hw _ (List.mem_of_getElem? (i := 6) rfl)) (hw _ (List.mem_of_getElem? (i := 7) rfl)) (hw _ (List.mem_of_getElem? (i := 8) rfl)) (hw _ (List.mem_of_getElem? (i := 5) rfl)) (by decide) e232 (a := b232) (argsL := [(.ref b187), (.ref b182)]) (rest := [(.ref b232)]) (W := 1) (own_rm1 l Z a0 hw [] b232 b187 b182 h232 n0 (Nat.le_trans Z0 K235.1) A232 D232 ge234) (by decide) (by decide) (by rw [hml]; rfl) (lenOf own_pd3 rfl) rfl (by exact Nat.le_of_eq rfl) (hb hby at_128) (by decide) (by decide) ?_
    intro T237 v237 L237 X237 hq237
    obtain ⟨rfl, N237q, K237q, Q238, Q239⟩ := hq237
    have K240 : Keep h0 T237.heap [] := K235.trans K237q (allS (Or.inr sz233) all0)
    have O241 := O236.keep K237q (allS ge234 all0)
    have N237 := Fr.app N229 N237q
    show own_Run p e below s _ _ _ (T237.setTop (mkF m 131 #[.val (.int i0), .val (.int i1), .val (.int i2), .val (.int i3), .val (.int i4), .val (.int (4 : Int32)), .val (.ref b182), .val (.ref b187), .val (.long (((((0 : Int64) + (i1.toInt64)) + (i2.toInt64)) + (i3.toInt64)) + (i4.toInt64))), .second, .unset] [(.ref b232)]))
    refine own_st (fun t k => XS.astore X237.here hx rfl (hb hby at_131) rfl rfl (l' := #[.val (.int i0), .val (.int i1), .val (.int i2), .val (.int i3), .val (.int i4), .val (.int (4 : Int32)), .val (.ref b182), .val (.ref b187), .val (.long (((((0 : Int64) + (i1.toInt64)) + (i2.toInt64)) + (i3.toInt64)) + (i4.toInt64))), .second, .val (.ref b232)]) rfl k) ?_
    show own_Run p e below s _ _ _ (T237.setTop (mkF m 133 #[.val (.int i0), .val (.int i1), .val (.int i2), .val (.int i3), .val (.int i4), .val (.int (4 : Int32)), .val (.ref b182), .val (.ref b187), .val (.long (((((0 : Int64) + (i1.toInt64)) + (i2.toInt64)) + (i3.toInt64)) + (i4.toInt64))), .second, .val (.ref b232)] []))
    have rb1 := i1.le_toInt; have ra1 := i1.toInt_lt
    have rb2 := i2.le_toInt; have ra2 := i2.toInt_lt
    have rb3 := i3.le_toInt; have ra3 := i3.toInt_lt
    have rb4 := i4.le_toInt; have ra4 := i4.toInt_lt
    have z0 := own_Z0
    have z1 := own_zz (y := i1) z0 (by omega)
    have z2 := own_zz (y := i2) z1 (by omega)
    have z3 := own_zz (y := i3) z2 (by omega)
    have z4 := own_zz (y := i4) z3 (by omega)
    have t0 : (0 : Int64).toInt = 0 := rfl
    have t1 := own_ls (y := i1) t0 (by omega)
    have t2 := own_ls (y := i2) t1 (by omega)
    have t3 := own_ls (y := i3) t2 (by omega)
    have t4 := own_ls (y := i4) t3 (by omega)
    refine own_st (fun t k => XS.aload X237.here hx rfl (hb hby at_133) rfl rfl k) ?_
    show own_Run p e below s _ _ _ (T237.setTop (mkF m 135 #[.val (.int i0), .val (.int i1), .val (.int i2), .val (.int i3), .val (.int i4), .val (.int (4 : Int32)), .val (.ref b182), .val (.ref b187), .val (.long (((((0 : Int64) + (i1.toInt64)) + (i2.toInt64)) + (i3.toInt64)) + (i4.toInt64))), .second, .val (.ref b232)] [(.ref b232)]))
    have V242 := (((V224.other W229 (Nat.ne_of_lt (Nat.lt_of_lt_of_le A182.lt (Nat.le_of_eq g187.symm)))).ext E232).keep K237q (ninS (Nat.ne_of_lt (Nat.lt_of_lt_of_le (Nat.lt_of_lt_of_le (Nat.lt_of_lt_of_le (Nat.lt_of_lt_of_le (Nat.lt_of_lt_of_le (Nat.lt_of_lt_of_le (Nat.lt_of_lt_of_le (Nat.lt_of_lt_of_le (Nat.lt_of_lt_of_le (Nat.lt_of_lt_of_le A182.lt E187.1) (Nat.le_of_eq W194.size.symm)) (Nat.le_of_eq W199.size.symm)) (Nat.le_of_eq W204.size.symm)) (Nat.le_of_eq W209.size.symm)) (Nat.le_of_eq W214.size.symm)) (Nat.le_of_eq W219.size.symm)) (Nat.le_of_eq W224.size.symm)) (Nat.le_of_eq W229.size.symm)) (Nat.le_of_eq g232.symm))) nin0))
    refine own_callV X237 hx hZ (y := (⟨"com/example/usurf/usurf/WalkWeights$Weights", "sum", "()D"⟩ : MethodName)) (C := "com/example/usurf/usurf/WalkWeights$Weights") hown (hw _ (List.mem_of_getElem? (i := 21) rfl)) (hw _ (List.mem_of_getElem? (i := 22) rfl)) (hw _ (List.mem_of_getElem? (i := 24) rfl)) (hw _ (List.mem_of_getElem? (i := 23) rfl)) (hw _ (List.mem_of_getElem? (i := 25) rfl)) (hw _ (List.mem_of_getElem? (i := 5) rfl)) (by decide) rfl (a := b232) Q238 (argsL := []) (rest := []) (W := 0) (own_rm4pn4 l Z a0 hw [] b232 b182 k182 (FP.i2d i1) (FP.i2d i2) (FP.i2d i3) (FP.i2d i4) T237.heap n0 (Nat.le_trans Z0 K240.1) Q239 V242 (z1.nn) (z2.nn) (z3.nn) (z4.nn)) (by decide) (by decide) (by rw [hml]; rfl) (lenOf own_pd4 rfl) rfl (by exact Nat.le_of_eq rfl) (hb hby at_135) (by decide) (by decide) ?_
    intro T243 v243 L243 X243 hq243
    obtain ⟨rfl, N243q, hh243⟩ := hq243
    have N243 := Fr.app N237 N243q
    show own_Run p e below s _ _ _ (T243.setTop (mkF m 138 #[.val (.int i0), .val (.int i1), .val (.int i2), .val (.int i3), .val (.int i4), .val (.int (4 : Int32)), .val (.ref b182), .val (.ref b187), .val (.long (((((0 : Int64) + (i1.toInt64)) + (i2.toInt64)) + (i3.toInt64)) + (i4.toInt64))), .second, .val (.ref b232)] [(.double (FP.dadd (FP.dadd (FP.dadd (FP.dadd (0 : UInt64) (FP.i2d i1)) (FP.i2d i2)) (FP.i2d i3)) (FP.i2d i4)))]))
    refine own_st (fun t k => XS.lload X243.here hx rfl (hb hby at_138) rfl k) ?_
    show own_Run p e below s _ _ _ (T243.setTop (mkF m 140 #[.val (.int i0), .val (.int i1), .val (.int i2), .val (.int i3), .val (.int i4), .val (.int (4 : Int32)), .val (.ref b182), .val (.ref b187), .val (.long (((((0 : Int64) + (i1.toInt64)) + (i2.toInt64)) + (i3.toInt64)) + (i4.toInt64))), .second, .val (.ref b232)] [(.long (((((0 : Int64) + (i1.toInt64)) + (i2.toInt64)) + (i3.toInt64)) + (i4.toInt64))), (.double (FP.dadd (FP.dadd (FP.dadd (FP.dadd (0 : UInt64) (FP.i2d i1)) (FP.i2d i2)) (FP.i2d i3)) (FP.i2d i4)))]))
    refine own_st (fun t k => XS.l2dS X243.here hx rfl (hb hby at_140) rfl (v := (FP.l2d (((((0 : Int64) + (i1.toInt64)) + (i2.toInt64)) + (i3.toInt64)) + (i4.toInt64)))) (rfl) k) ?_
    show own_Run p e below s _ _ _ (T243.setTop (mkF m 141 #[.val (.int i0), .val (.int i1), .val (.int i2), .val (.int i3), .val (.int i4), .val (.int (4 : Int32)), .val (.ref b182), .val (.ref b187), .val (.long (((((0 : Int64) + (i1.toInt64)) + (i2.toInt64)) + (i3.toInt64)) + (i4.toInt64))), .second, .val (.ref b232)] [(.double (FP.l2d (((((0 : Int64) + (i1.toInt64)) + (i2.toInt64)) + (i3.toInt64)) + (i4.toInt64)))), (.double (FP.dadd (FP.dadd (FP.dadd (FP.dadd (0 : UInt64) (FP.i2d i1)) (FP.i2d i2)) (FP.i2d i3)) (FP.i2d i4)))]))
    refine own_st (fun t k => XS.dcmpS X243.here hx rfl (hb hby at_141) rfl (v := (0 : Int32)) (z4.cmpE (own_Z.l2d (by rw [t4]; omega)) t4.symm _) k) ?_
    show own_Run p e below s _ _ _ (T243.setTop (mkF m 142 #[.val (.int i0), .val (.int i1), .val (.int i2), .val (.int i3), .val (.int i4), .val (.int (4 : Int32)), .val (.ref b182), .val (.ref b187), .val (.long (((((0 : Int64) + (i1.toInt64)) + (i2.toInt64)) + (i3.toInt64)) + (i4.toInt64))), .second, .val (.ref b232)] [(.int (0 : Int32))]))
    refine own_st (fun t k => XS.ifNo X243.here hx rfl (hb hby at_142) rfl ((if0 _ _).trans (teq (by decide : (0 : Int32) = (0 : Int32))).2) k) ?_
    show own_Run p e below s _ _ _ (T243.setTop (mkF m 145 #[.val (.int i0), .val (.int i1), .val (.int i2), .val (.int i3), .val (.int i4), .val (.int (4 : Int32)), .val (.ref b182), .val (.ref b187), .val (.long (((((0 : Int64) + (i1.toInt64)) + (i2.toInt64)) + (i3.toInt64)) + (i4.toInt64))), .second, .val (.ref b232)] []))
    refine own_st (fun t k => XS.iconst X243.here hx rfl (hb hby at_145) k) ?_
    show own_Run p e below s _ _ _ (T243.setTop (mkF m 146 #[.val (.int i0), .val (.int i1), .val (.int i2), .val (.int i3), .val (.int i4), .val (.int (4 : Int32)), .val (.ref b182), .val (.ref b187), .val (.long (((((0 : Int64) + (i1.toInt64)) + (i2.toInt64)) + (i3.toInt64)) + (i4.toInt64))), .second, .val (.ref b232)] [(.int (1 : Int32))]))
    refine own_st (fun t k => XS.goto X243.here hx rfl (pc0 := 146) (pc' := 150) rfl (hb hby at_146) (by decide) (by decide) k) ?_
    show own_Run p e below s _ _ _ (T243.setTop (mkF m 150 #[.val (.int i0), .val (.int i1), .val (.int i2), .val (.int i3), .val (.int i4), .val (.int (4 : Int32)), .val (.ref b182), .val (.ref b187), .val (.long (((((0 : Int64) + (i1.toInt64)) + (i2.toInt64)) + (i3.toInt64)) + (i4.toInt64))), .second, .val (.ref b232)] [(.int (1 : Int32))]))
    exact own_ret X243 hx hlk (t := .boolean) hret rfl (Or.inl ⟨rfl, by simp, _, rfl⟩) (hb hby at_150) (by decide) (by decide) ⟨rfl, N243⟩
set_option maxRecDepth 65536 in
set_option maxHeartbeats 40000000 in
theorem own_comes_1 {Post : Tables → Env → Array Value → State → Outcome → State → Prop} (hpost : ∀ tb e args s v u, (limb_1_1.after args s (.returned v) u = true ∧ limb_1_2.after args s (.returned v) u = true ∧ True) → FrameEnd s (.returned v) u (Jvm.fieldLocs frame_1_writes args s ++ Jvm.arrayLocs frame_1_arrays args s ++ Jvm.staticLocs frame_1_statics s) 16 128 → Post tb e args s (.returned v) u) :
    ArmFor flags0 classFile x code maxLocals ret World_1 tables_1 room_1 Calls_1 rest_1 Pre_1 Post := by
  intro l hfl _ _ p e ha hc hk s m args below hf hA hF happ hP
  obtain ⟨hcalls, hrest, hpre⟩ := hP
  obtain ⟨-, -, -, hnamed, -, -, -, hat⟩ := (Spec.applies_iff hf).mp happ
  obtain ⟨hg, hn⟩ := and_e (Cond.before_iff.mp (show (Jvm.Cond.and given_1 narrow_1).before args s = true from hpre))
  obtain ⟨gv1, gv2⟩ := and_e hg
  obtain ⟨gv3, gv4⟩ := and_e gv2
  obtain ⟨gv5, gv6⟩ := and_e gv4
  obtain ⟨gv7, gv8⟩ := and_e gv6
  obtain ⟨gv9, gv10⟩ := and_e gv8
  obtain ⟨w0, w1, w2, w3, w4, rfl⟩ : ∃ w0 w1 w2 w3 w4 : Value, args = #[w0, w1, w2, w3, w4] := by
    have hs : args.size = 5 := by simpa [Cond.value, given_1] using gv1
    obtain ⟨L⟩ := args
    match L, hs with
    | [w0, w1, w2, w3, w4], _ => exact ⟨w0, w1, w2, w3, w4, rfl⟩
  have hw := fun d (hd : d ∈ tables_1) => atoms_spec (ws := Jvm.Cond.code x code maxLocals ret :: tables_1) hat d (List.mem_cons_of_mem _ hd)
  have hfit : Fit s := fun {y c} hc i hi => by
    obtain ⟨ha, rfl⟩ := Array.getElem?_eq_some_iff.mp hc
    have q := List.all_eq_true.mp ((Array.all_eq_true_iff_forall_mem.mp hF) _ (Array.getElem_mem ha)) i (List.mem_range.mpr hi)
    simpa [Array.getElem?_eq_getElem hi] using q
  obtain ⟨i0, ei0⟩ := is_v gv3
  obtain rfl : w0 = (.int i0) := Option.some.inj ei0
  obtain ⟨i1, ei1⟩ := is_v gv5
  obtain rfl : w1 = (.int i1) := Option.some.inj ei1
  obtain ⟨i2, ei2⟩ := is_v gv7
  obtain rfl : w2 = (.int i2) := Option.some.inj ei2
  obtain ⟨i3, ei3⟩ := is_v gv9
  obtain rfl : w3 = (.int i3) := Option.some.inj ei3
  obtain ⟨i4, ei4⟩ := is_v gv10
  obtain rfl : w4 = (.int i4) := Option.some.inj ei4
  obtain ⟨n, o, h1, h2, h3, _, L, rfl, ⟨rfl, N⟩, hq⟩ := own_rm0 l s _ hw tables_1 i0 i1 i2 i3 i4 s.heap s.heap.size (Nat.le_refl _) (Old.start s)  p e ha hc hk s m _ below hf ((Spec.applies_iff_loose hf).mp happ).1 ⟨rfl, State.Warmed39.refl s, rfl⟩ trivial
  refine ⟨n, _, h1, h2, h3, hpost _ _ _ _ _ _ ⟨Cond.after_iff.mpr rfl, Cond.after_iff.mpr (eq_i res_at (Term.int_eval (1)) rfl), trivial⟩ ⟨hq.1, hq.2.1, (hq.2.2.sift fun y hy => Or.inr (N y hy)).mono (by decide) (by decide)⟩⟩
theorem main_1_1 : Claimed_1_1 := own_comes_1 fun _ _ _ _ _ _ h hF => ⟨h.1, hF⟩
theorem main_1_2 : Claimed_1_2 := own_comes_1 fun _ _ _ _ _ _ h hF => ⟨h.2.1, hF⟩
end Jvm.Pilot.@@N@@
namespace Jvm.Pilot.@@N@@
open Jvm Jvm.ClassFile Sem Op Lib Jvm.Free Jvm.Stand Jvm.Pilot.@@N@@.Jvm.D
/-! MADE BY PROGRAM (witnessworld.py) out of the Statement's table words and the real class files: 12 classes; the members and pool entries that the words name. The judged class is class 1, her method 1. -/
namespace start1
open Jvm.ClassFile
def u (s : String) : CpInfo := .utf8 (stringToUtf16 s)
/-- a pool by its gaps: so many unusable entries, then the entry; so many at the end -/
def gap : Nat → List CpInfo → List CpInfo
  | 0, r => r
  | n + 1, r => .unusable :: gap n r
def poolList (es : List (Nat × CpInfo)) (last : Nat) : List CpInfo := es.foldr (fun e r => gap e.1 (e.2 :: r)) (gap last [])
def pool (es : List (Nat × CpInfo)) (last : Nat) : Array CpInfo := ⟨poolList es last⟩
def fileOf (pool : Array CpInfo) (this : Nat) (attrs : Array Attribute := #[]) (ms : Array MethodInfo := #[]) (fl : Nat := 33) (sup : Nat := 0) (ifs : Array Nat := #[]) (fds : Array FieldInfo := #[]) : ClassFile where
  minorVersion := 0
  majorVersion := 65
  constantPool := pool
  accessFlags := fl
  thisClass := this
  superClass := sup
  interfaces := ifs
  fields := fds
  methods := ms
  attributes := attrs
def plain (name : String) (sup : Option ClassId) : Class where
  name := name
  kind := .ordinary
  loader := none
  accessFlags := 33
  super := sup
  interfaces := #[]
  cf := none
  fields := #[]
  methods := #[]
  instanceTypes := #[]
  staticTypes := #[]
  resolved := #[]
  callSites := []
  init := .initialized
  statics := none
  mirror := none

def pool0 : Array CpInfo := pool [(5, u "<init>"), (0, u "()V"), (1, .class_ 10), (1, u "java/lang/Object")] 113

def k0c0 : Code := { maxStack := 0, maxLocals := 1, code := object_method_1_code, exceptionTable := #[], attributes := #[] }
def k0m0 : Method := { name := "<init>", desc := "()V", sig := { parameters := [], returnType := none }, accessFlags := 1, code := some k0c0 }
/-- java/lang/Object -/
def k0 : Class := { plain "java/lang/Object" none with
  accessFlags := 33
  interfaces := #[]
  cf := some (fileOf pool0 8 #[] #[{ accessFlags := 1, nameIndex := 5, descriptorIndex := 6, attributes := #[] }] 33 0 #[] #[])
  fields := #[]
  methods := #[k0m0]
  instanceTypes := #[]
  staticTypes := #[]
  resolved := Array.replicate 124 none
  statics := none }

def pool1 : Array CpInfo := pool [(2, .class_ 4), (1, u "java/lang/Object"), (0, u "<init>"), (0, u "()V"), (0, .integer 2147483647), (0, .class_ 9), (0, u "com/example/usurf/usurf/WalkWeights$Weights"), (0, .methodref 8 11), (0, .nameAndType 5 12), (0, u "([I[D)V"), (0, .methodref 8 14), (0, .nameAndType 15 16), (0, u "sum"), (0, u "()D"), (0, .class_ 18), (0, u "com/example/usurf/usurf/WeightsSumPinLaw"), (2, u "law"), (0, u "(IIIII)Z")] 11

def k1m0 : Method := { name := "<init>", desc := "()V", sig := { parameters := [], returnType := none }, accessFlags := 2, code := none }
def k1c1 : Code := { maxStack := 4, maxLocals := 11, code := code, exceptionTable := #[], attributes := #[] }
def k1m1 : Method := { name := "law", desc := "(IIIII)Z", sig := { parameters := [.int, .int, .int, .int, .int], returnType := some .boolean }, accessFlags := 9, code := some k1c1 }
/-- com/example/usurf/usurf/WeightsSumPinLaw -/
def k1 : Class := { plain "com/example/usurf/usurf/WeightsSumPinLaw" (some 0) with
  accessFlags := 49
  interfaces := #[]
  cf := some (fileOf pool1 17 #[] #[{ accessFlags := 2, nameIndex := 5, descriptorIndex := 6, attributes := #[] }, { accessFlags := 9, nameIndex := 21, descriptorIndex := 22, attributes := #[] }] 49 2 #[] #[])
  fields := #[]
  methods := #[k1m0, k1m1]
  instanceTypes := #[]
  staticTypes := #[]
  resolved := Array.replicate 34 none
  statics := none }

def pool2 : Array CpInfo := pool [(1, .methodref 2 3), (0, .class_ 4), (0, .nameAndType 5 6), (0, u "java/lang/Object"), (0, u "<init>"), (0, u "()V"), (0, .class_ 8), (0, u "java/lang/Record")] 13

def k2c0 : Code := { maxStack := 1, maxLocals := 1, code := jdk_30_method_1_code, exceptionTable := #[], attributes := #[] }
def k2m0 : Method := { name := "<init>", desc := "()V", sig := { parameters := [], returnType := none }, accessFlags := 4, code := some k2c0 }
/-- java/lang/Record -/
def k2 : Class := { plain "java/lang/Record" (some 0) with
  accessFlags := 1057
  interfaces := #[]
  cf := some (fileOf pool2 7 #[] #[{ accessFlags := 4, nameIndex := 5, descriptorIndex := 6, attributes := #[] }] 1057 2 #[] #[])
  fields := #[]
  methods := #[k2m0]
  instanceTypes := #[]
  staticTypes := #[]
  resolved := Array.replicate 22 none
  statics := none }

def pool3 : Array CpInfo := pool [(1, .methodref 2 3), (0, .class_ 4), (0, .nameAndType 5 6), (0, u "java/lang/Record"), (0, u "<init>"), (0, u "()V"), (0, .fieldref 8 9), (0, .class_ 10), (0, .nameAndType 11 12), (0, u "com/example/usurf/usurf/WalkWeights$Weights"), (0, u "nodes"), (0, u "[I"), (0, .fieldref 8 14), (0, .nameAndType 15 16), (0, u "values"), (0, u "[D"), (18, u "([I[D)V"), (8, u "sum"), (0, u "()D"), (8, .class_ 55), (0, u "com/example/usurf/usurf/WalkWeights")] 20

def k3c0 : Code := { maxStack := 2, maxLocals := 3, code := prog_39_method_1_code, exceptionTable := #[], attributes := #[] }
def k3m0 : Method := { name := "<init>", desc := "([I[D)V", sig := { parameters := [(.array .int), (.array .double)], returnType := none }, accessFlags := 0, code := some k3c0 }
def k3c1 : Code := { maxStack := 4, maxLocals := 8, code := prog_39_method_4_code, exceptionTable := #[], attributes := #[] }
def k3m1 : Method := { name := "sum", desc := "()D", sig := { parameters := [], returnType := some .double }, accessFlags := 0, code := some k3c1 }
/-- com/example/usurf/usurf/WalkWeights$Weights -/
def k3 : Class := { plain "com/example/usurf/usurf/WalkWeights$Weights" (some 2) with
  accessFlags := 48
  interfaces := #[]
  cf := some (fileOf pool3 8 #[.nestHost 54] #[{ accessFlags := 0, nameIndex := 5, descriptorIndex := 35, attributes := #[] }, { accessFlags := 0, nameIndex := 44, descriptorIndex := 45, attributes := #[] }] 48 2 #[] #[{ accessFlags := 18, nameIndex := 11, descriptorIndex := 12, attributes := #[] }, { accessFlags := 18, nameIndex := 15, descriptorIndex := 16, attributes := #[] }])
  fields := #[{ name := "nodes", type := (.array .int), accessFlags := 18, slot := 0, constantValue := 0 }, { name := "values", type := (.array .double), accessFlags := 18, slot := 1, constantValue := 0 }]
  methods := #[k3m0, k3m1]
  instanceTypes := #[(.array .int), (.array .double)]
  staticTypes := #[]
  resolved := Array.replicate 76 none
  statics := none }

def pool4 : Array CpInfo := pool [(1, u "java/lang/Cloneable"), (0, .class_ 1), (0, u "java/lang/Object"), (0, .class_ 3)] 3

/-- java/lang/Cloneable -/
def k4 : Class := { plain "java/lang/Cloneable" (some 0) with
  accessFlags := 1537
  interfaces := #[]
  cf := some (fileOf pool4 2 #[] #[] 1537 4 #[] #[])
  fields := #[]
  methods := #[]
  instanceTypes := #[]
  staticTypes := #[]
  resolved := Array.replicate 8 none
  statics := none }

def pool5 : Array CpInfo := pool [(1, u "java/io/Serializable"), (0, .class_ 1), (0, u "java/lang/Object"), (0, .class_ 3)] 3

/-- java/io/Serializable -/
def k5 : Class := { plain "java/io/Serializable" (some 0) with
  accessFlags := 1537
  interfaces := #[]
  cf := some (fileOf pool5 2 #[] #[] 1537 4 #[] #[])
  fields := #[]
  methods := #[]
  instanceTypes := #[]
  staticTypes := #[]
  resolved := Array.replicate 8 none
  statics := none }

/-- the primitive byte -/
def k6 : Class := { plain "byte" none with kind := .primitive 'B', accessFlags := 0x411 }
/-- [B -/
def k7 : Class := { plain "[B" (some 0) with kind := .array 6 .byte, interfaces := #[4, 5], accessFlags := 1041 }

/-- the primitive double -/
def k8 : Class := { plain "double" none with kind := .primitive 'D', accessFlags := 0x411 }
/-- [D -/
def k9 : Class := { plain "[D" (some 0) with kind := .array 8 .double, interfaces := #[4, 5], accessFlags := 1041 }

/-- the primitive int -/
def k10 : Class := { plain "int" none with kind := .primitive 'I', accessFlags := 0x411 }
/-- [I -/
def k11 : Class := { plain "[I" (some 0) with kind := .array 10 .int, interfaces := #[4, 5], accessFlags := 1041 }

def heap : Heap := #[]
def classes : Array Class := #[k0, k1, k2, k3, k4, k5, k6, k7, k8, k9, k10, k11]
def interned : List (Array UInt16 × Addr) := []
def slotsUsed : Nat := 0
def theMethod : MethodId := ⟨1, 1⟩
def args0 : Array Value := #[.int 3, .int 5, .int 3, .int 2, .int 4]
def aboutOver (below : List Frame) : State where
  vm := { classes := classes, interned := interned.toArray }
  heap := heap
  slotsUsed := slotsUsed
  threads := #[{ frames := .invoking theMethod args0 :: below }]
def below0 : List Frame := [.native { method := ⟨0, 0⟩, args := #[] }]
def about1 : State := aboutOver below0
def p0 : Program := .bare "" "" ""
def e0 : Env := launch0.env 0 0 0
theorem w_frames : about1.frames = Frame.invoking theMethod args0 :: below0 := rfl
set_option maxRecDepth 65536 in
theorem w_args : argsFit about1.vm theMethod args0 = true := by decide +kernel
set_option maxRecDepth 65536 in
theorem w_heap : heapFits about1 = true := by decide +kernel
set_option maxRecDepth 65536 in
theorem w_runnable : about1.curStatus? = some .runnable := by decide +kernel
set_option maxRecDepth 65536 in
theorem w_alone : about1.alone = true := by decide +kernel
set_option maxRecDepth 65536 in
theorem w_named : about1.methodNamed? x = some theMethod := by decide +kernel
set_option maxRecDepth 65536 in
theorem w_hears : about1.hears theMethod below0 = true := by decide +kernel
set_option maxRecDepth 65536 in
theorem w_ripe : about1.ripe theMethod args0 below0 = true := by decide +kernel
theorem w_running : about1.status = .running := rfl
set_option maxRecDepth 65536 in
theorem w_room : about1.hasRoom e0.platform room_1 = true :=
  launch0.hasRoom_least _ room_1 (by decide +kernel) (by decide +kernel) (by decide +kernel) (by decide +kernel) (by decide +kernel) (by decide +kernel)
theorem allAtoms_all (ts : List Jvm.Cond) (a : Array Jvm.Value) (st : Jvm.State) : (allAtoms ts).before a st = ts.all (fun c => c.before a st) := by
  induction ts with
  | nil => rfl
  | cons c t ih =>
    show (Jvm.Cond.and c (allAtoms t)).before a st = _
    rw [Jvm.Cond.before_and, ih, List.all_cons]
def words1 : List Jvm.Cond := Jvm.Cond.code x code maxLocals ret :: tables_1
/-- a 'code' word, met by the world's own term for the bytes: nothing is compared byte by byte -/
theorem code_word {y : MethodName} {bytes : ByteArray} {mx : Nat} {rt : Option FieldType} {a : Array Value} {s : State} {m : MethodId} {meth : Method} {c : Code} (h1 : s.methodNamed? y = some m) (h2 : s.vm.method? m = some meth) (h3 : meth.code = some c) (h4 : c.code = bytes)
    (h5 : (c.maxLocals == mx && c.exceptionTable.isEmpty && decide (c.maxStack ≤ mostOperands) && decide (meth.sig.returnType = rt) && !meth.locks && decide (parseMethodDescriptor y.desc = some meth.sig)) = true) : (Jvm.Cond.code y bytes mx rt).before a s = true := by
  simp only [Bool.and_eq_true, beq_iff_eq, Bool.not_eq_true', decide_eq_true_eq] at h5
  obtain ⟨⟨⟨⟨⟨g1, g2⟩, g3⟩, g4⟩, g5⟩, g6⟩ := h5
  simp [Cond.before, Cond.holds, Cond.value, h1, h2, h3, h4, g1, g2, g3, g4, g5, g6]
def isCode : Jvm.Cond → Bool
  | .code _ _ _ _ => true
  | _ => false
theorem all_split {L : List Jvm.Cond} {P : Jvm.Cond → Bool} (h1 : L.all (fun c => isCode c || P c) = true) (h2 : ∀ c ∈ L.filter isCode, P c = true) : L.all P = true := by
  refine List.all_eq_true.mpr fun c hc => ?_
  have h := List.all_eq_true.mp h1 c hc
  rcases Bool.eq_false_or_eq_true (isCode c) with hi | hi
  · exact h2 c (List.mem_filter.mpr ⟨hc, hi⟩)
  · simpa [hi] using h
set_option maxRecDepth 65536 in
theorem w_c0 : (Jvm.Cond.code x code maxLocals ret).before args0 about1 = true := code_word (m := ⟨1, 1⟩) (meth := k1m1) (c := k1c1) (by decide +kernel) rfl rfl rfl (by decide +kernel)
set_option maxRecDepth 65536 in
theorem w_c1 : (Jvm.Cond.code ({ cls := "com/example/usurf/usurf/WalkWeights$Weights", name := "<init>", desc := "([I[D)V" } : Jvm.MethodName) prog_39_method_1_code (3 : Nat) (Option.none : Option Jvm.ClassFile.FieldType)).before args0 about1 = true := code_word (m := ⟨3, 0⟩) (meth := k3m0) (c := k3c0) (by decide +kernel) rfl rfl rfl (by decide +kernel)
set_option maxRecDepth 65536 in
theorem w_c2 : (Jvm.Cond.code ({ cls := "java/lang/Record", name := "<init>", desc := "()V" } : Jvm.MethodName) jdk_30_method_1_code (1 : Nat) (Option.none : Option Jvm.ClassFile.FieldType)).before args0 about1 = true := code_word (m := ⟨2, 0⟩) (meth := k2m0) (c := k2c0) (by decide +kernel) rfl rfl rfl (by decide +kernel)
set_option maxRecDepth 65536 in
theorem w_c3 : (Jvm.Cond.code ({ cls := "java/lang/Object", name := "<init>", desc := "()V" } : Jvm.MethodName) object_method_1_code (1 : Nat) (Option.none : Option Jvm.ClassFile.FieldType)).before args0 about1 = true := code_word (m := ⟨0, 0⟩) (meth := k0m0) (c := k0c0) (by decide +kernel) rfl rfl rfl (by decide +kernel)
set_option maxRecDepth 65536 in
theorem w_c4 : (Jvm.Cond.code ({ cls := "com/example/usurf/usurf/WalkWeights$Weights", name := "sum", desc := "()D" } : Jvm.MethodName) prog_39_method_4_code (8 : Nat) (Option.some Jvm.ClassFile.FieldType.double)).before args0 about1 = true := code_word (m := ⟨3, 1⟩) (meth := k3m1) (c := k3c1) (by decide +kernel) rfl rfl rfl (by decide +kernel)
def codes1 : List Jvm.Cond := [Jvm.Cond.code x code maxLocals ret, Jvm.Cond.code ({ cls := "com/example/usurf/usurf/WalkWeights$Weights", name := "<init>", desc := "([I[D)V" } : Jvm.MethodName) prog_39_method_1_code (3 : Nat) (Option.none : Option Jvm.ClassFile.FieldType), Jvm.Cond.code ({ cls := "java/lang/Record", name := "<init>", desc := "()V" } : Jvm.MethodName) jdk_30_method_1_code (1 : Nat) (Option.none : Option Jvm.ClassFile.FieldType), Jvm.Cond.code ({ cls := "java/lang/Object", name := "<init>", desc := "()V" } : Jvm.MethodName) object_method_1_code (1 : Nat) (Option.none : Option Jvm.ClassFile.FieldType), Jvm.Cond.code ({ cls := "com/example/usurf/usurf/WalkWeights$Weights", name := "sum", desc := "()D" } : Jvm.MethodName) prog_39_method_4_code (8 : Nat) (Option.some Jvm.ClassFile.FieldType.double)]
set_option maxRecDepth 65536 in
theorem codes_eq : words1.filter isCode = codes1 := rfl
theorem w_codes : ∀ c ∈ words1.filter isCode, c.before args0 about1 = true := by
  rw [codes_eq]
  intro c hc
  simp only [codes1, List.mem_cons, List.not_mem_nil, or_false] at hc
  rcases hc with rfl | rfl | rfl | rfl | rfl
  · exact w_c0
  · exact w_c1
  · exact w_c2
  · exact w_c3
  · exact w_c4
set_option maxRecDepth 65536 in
theorem w_t1 : (words1.take 24).all (fun c => isCode c || c.before args0 about1) = true := by decide +kernel
set_option maxRecDepth 65536 in
theorem w_t2 : (words1.drop 24).all (fun c => isCode c || c.before args0 about1) = true := by decide +kernel
theorem w_tables : (allAtoms (Jvm.Cond.code x code maxLocals ret :: tables_1)).before args0 about1 = true := by
  rw [allAtoms_all]
  show words1.all (fun c => c.before args0 about1) = true
  refine all_split ?_ w_codes
  rw [← List.take_append_drop 24 words1, List.all_append, w_t1, w_t2]
  rfl
set_option maxRecDepth 65536 in
theorem w_case : (Jvm.Cond.and given_1 narrow_1).before args0 about1 = true := by decide +kernel
theorem w_applies : (headSpec (Jvm.Cond.code x code maxLocals ret :: tables_1) room_1).applies x e0.platform about1 = true :=
  (Spec.applies_iff w_frames).mpr ⟨w_running, w_runnable, w_alone, w_named, w_hears, w_ripe, w_room, w_tables⟩
theorem atStart : AtStart classFile x code maxLocals ret World_1 tables_1 room_1 Calls_1 rest_1 Pre_1 launch0 p0 e0 about1 theMethod args0 below0 :=
  ⟨lists_1, trivial, launch0.admits_env _ _ _, launch0.least_env, fairChoices_fair.cas, fairChoices_fair.clock, w_frames, w_args, w_heap, w_applies, trivial, trivial, w_case⟩
end start1
theorem witness_1 : WitnessClaimed_1 := ⟨start1.p0, start1.e0, start1.about1, start1.theMethod, start1.args0, start1.below0, start1.atStart⟩
end Jvm.Pilot.@@N@@
