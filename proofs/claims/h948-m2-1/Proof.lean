import JvmDerived
import JvmDerived.Pilot.@@N@@Statement
import JvmDerived.Pilot.@@N@@Code
set_option linter.unusedVariables false
set_option linter.unusedSimpArgs false
namespace Jvm.Pilot.@@N@@
open Jvm Jvm.ClassFile Sem Op Lib Jvm.Free Jvm.Stand Jvm.LawKit Jvm.RoadKit Bundle Jvm.Pilot.@@N@@.Jvm.D
def own_Run (p : Program) (e : Env) (below : List Frame) (s : State) (Q : Option Value → Heap → List Loc → Prop) (ck sk : Nat) (U : State) : Prop :=
  ∃ s₂ o, Steps p.tables e below U s₂ ∧ s₂.status = .running ∧ Ended s₂ below o ∧ ∃ v L, o = .returned v ∧ Q v s₂.heap L ∧ FrameEnd s o s₂ L ck sk
section OwnLayer
variable {p : Program} {l : Launch} {e : Env} {R : Room} {s : State} {m : MethodId} {args : Array Value} {below : List Frame} {meth : Method} {c : Code} {T : State} {locs : List Loc} {cells slots : Nat} {Z : State} {a0 : Array Value} {h : Heap} {Q : Option Value → Heap → List Loc → Prop} {ck sk : Nat}
theorem own_st {U U' : State} (hh : ∀ t, Steps p.tables e below U' t → Steps p.tables e below U t) (K : own_Run p e below s Q ck sk U') : own_Run p e below s Q ck sk U := by
  obtain ⟨s2, o, h1, r⟩ := K
  exact ⟨s2, o, hh _ h1, r⟩
theorem own_topI {pc : Nat} {Ls : Array Slot} {st : List Value} {v v' : Int32} (hv : v = v') (K : own_Run p e below s Q ck sk (T.setTop (mkF m pc Ls (.int v' :: st)))) : own_Run p e below s Q ck sk (T.setTop (mkF m pc Ls (.int v :: st))) := hv ▸ K
theorem own_topJ {pc : Nat} {Ls : Array Slot} {st : List Value} {v v' : Int64} (hv : v = v') (K : own_Run p e below s Q ck sk (T.setTop (mkF m pc Ls (.long v' :: st)))) : own_Run p e below s Q ck sk (T.setTop (mkF m pc Ls (.long v :: st))) := hv ▸ K
theorem own_topD {pc : Nat} {Ls : Array Slot} {st : List Value} {v v' : UInt64} (hv : v = v') (K : own_Run p e below s Q ck sk (T.setTop (mkF m pc Ls (.double v' :: st)))) : own_Run p e below s Q ck sk (T.setTop (mkF m pc Ls (.double v :: st))) := hv ▸ K
theorem own_ret (X : Stand p l e R s m args below meth c T locs cells slots) (hx : p.tables.exec = Jvm.exec) (hlk : meth.locks = false) {pc : Nat} {Ls : Array Slot} {w : Value} {t : FieldType} {i : Instr} {rest : List Value} (hret : meth.sig.returnType = some t) (hn : narrow t w = w)
    (hi : (i = .ireturn ∧ (t = .int ∨ t = .boolean ∨ t = .byte ∨ t = .char ∨ t = .short) ∧ ∃ z, w = .int z) ∨ (i = .lreturn ∧ t = .long ∧ ∃ z, w = .long z) ∨ (i = .dreturn ∧ t = .double ∧ ∃ z, w = .double z) ∨ (i = .freturn ∧ t = .float ∧ ∃ z, w = .float z) ∨ (i = .areturn ∧ t.isReference = true ∧ w.isRef = true))
    (hd : decode c.code pc = .ok (i, 1)) (hc : cells ≤ ck) (hs : slots ≤ sk) (hq : Q (some w) T.heap locs) : own_Run p e below s Q ck sk (T.setTop (mkF m pc Ls (w :: rest))) := by
  obtain ⟨fs, hr, hrun, hended, hW, hsame⟩ := X.leave (v := some w) (fun q => by rw [hret] at q; cases q) hlk
  exact ⟨_, _, retOut X hx hret hn hi hd hr, hrun, hended, _, _, rfl, hq, ⟨_, rfl⟩, hW, hsame.mono hc hs⟩
theorem own_retV (X : Stand p l e R s m args below meth c T locs cells slots) (hx : p.tables.exec = Jvm.exec) (hlk : meth.locks = false) {pc : Nat} {Ls : Array Slot} (hret : meth.sig.returnType = none)
    (hd : decode c.code pc = .ok (.return_, 1)) (hc : cells ≤ ck) (hs : slots ≤ sk) (hq : Q none T.heap locs) : own_Run p e below s Q ck sk (T.setTop (mkF m pc Ls [])) := by
  obtain ⟨fs, hr, hrun, hended, hW, hsame⟩ := X.leave (v := none) (fun _ => rfl) hlk
  exact ⟨_, _, X.returnOut hx hret hd hr, hrun, hended, _, _, rfl, hq, ⟨_, rfl⟩, hW, hsame.mono hc hs⟩
theorem own_body {y : MethodName} {bytes : ByteArray} {maxL : Nat} {ret : Option FieldType} {ws : List Jvm.Cond} {rm : Room} {as' : Array Value} {h0 : Heap} (hpl : plainFor y = true)
    (hbody : ∀ (p : Program) (e : Env) (s : State) (m : MethodId) (below : List Frame) (meth : Method) (c : Code) (s₁ : State), p.tables.exec = Jvm.exec → c.code = bytes → c.maxLocals = maxL → Z.Warmed39 s.vm → s.vm.findClass y.cls = some m.cls → meth.name = y.name → meth.sig.returnType = ret → meth.locks = false → Stand p l e rm s m as' below meth c s₁ [] 0 0 → s₁.heap = h0 → own_Run p e below s Q rm.cells rm.slots (s₁.setTop (entryFrame m as' maxL))) :
    MetFree l y (head1 (Jvm.Cond.code y bytes maxL ret :: ws) rm) (fun a U => a = as' ∧ Z.Warmed39 U.vm ∧ U.heap = h0) (fun _ _ _ _ _ => True) (fun _ U o U' => ∃ v L, o = .returned v ∧ Q v U'.heap L ∧ FrameEnd U o U' L rm.cells rm.slots) := by
  refine MetFree.of_bodySF hpl hisR ?_
  intro p e s m args below meth c s₁ Bd hml0 hP hK
  obtain ⟨rfl, hZ, hh⟩ := hP
  exact hbody p e s m below meth c s₁ Bd.exec Bd.bytes hml0 hZ (findClass_of_methodNamed Bd.named) (name_of_methodNamed Bd.named Bd.method).1 Bd.returns Bd.notSynchronized (Stand.of_body Bd) (by rw [← hh, Bd.state]; rfl)
theorem own_callI (X : Stand p l e R s m args below meth c T locs cells slots) (hx : p.tables.exec = Jvm.exec) (hZ : Z.Warmed39 s.vm) {own : String} {idx : Nat} {y : MethodName} (hy1 : y.name = "<init>") (hown : s.vm.findClass own = some m.cls) (w1 : (Jvm.Cond.methodLink own idx y).before a0 Z = true) (w2 : (Jvm.Cond.instanceMethod y).before a0 Z = true)
    {bytes : ByteArray} {maxL : Nat} (w3 : (Jvm.Cond.code y bytes maxL none).before a0 Z = true) (wz : (Jvm.Cond.initialized y.cls).before a0 Z = true) (hy : y.cls ≠ "java/lang/invoke/MethodHandle" ∧ y.cls ≠ "java/lang/invoke/VarHandle") (eT : T.heap = h) {rm : Room} {Qc : Option Value → Heap → List Loc → Prop} {a : Addr} {argsL rest : List Value}
    (hM : MetFree l y (head1 [Jvm.Cond.code y bytes maxL none] rm) (fun b U => b = (Value.ref a :: argsL).toArray ∧ Z.Warmed39 U.vm ∧ U.heap = h) (fun _ _ _ _ _ => True) (fun _ U o U' => ∃ v L, o = .returned v ∧ Qc v U'.heap L ∧ FrameEnd U o U' L rm.cells rm.slots))
    {W : Nat} (hf : rm.frames + 1 ≤ R.frames) (hl : W + (maxL + 11) + rm.locals ≤ R.locals) {pc : Nat} {Ls : Array Slot} {st : List Value} (hsize : Ls.size = c.maxLocals) (hlen : ∀ sig, parseMethodDescriptor y.desc = some sig → argsL.length = sig.parameters.length) (hst : st = argsL.reverse ++ .ref a :: rest) (hW : (rest.map fun v => v.category).sum ≤ W) (hd : decode c.code pc = .ok (.invokespecial idx, 3)) (hc : cells + rm.cells ≤ R.cells) (hs : slots + rm.slots ≤ R.slots)
    (K : ∀ (T' : State) (v : Option Value) (L : List Loc), Stand p l e R s m args below meth c T' (locs ++ L) (cells + rm.cells) (slots + rm.slots) → Qc v T'.heap L → own_Run p e below s Q ck sk (T'.setTop (mkF m (pc + 3) Ls (v.toList ++ rest)))) :
    own_Run p e below s Q ck sk (T.setTop (mkF m pc Ls st)) := by
  obtain ⟨v, _, ⟨T', L', k', n'⟩, -, X', ⟨Lc, hQ, hl', hk', hn'⟩, st'⟩ := X.specialBack hx (y := y) hy1 hown (mvT hZ w1) (mvT hZ w2) (mvT hZ w3) hy (backOf (W := W) hM hZ w3 wz hf hl) (g := mkF m pc Ls st) rfl hsize (Steps.refl _) (a := a) (argsL := argsL) (rest := rest) hlen hst (by show 2 * 0 + _ ≤ _; omega) hd (fun _ _ => ⟨rfl, eT, hc, hs⟩)
  dsimp only [Pt.U, Pt.locs, Pt.cells, Pt.slots] at X' hl' hk' hn' st' hQ
  subst hl' hk' hn'
  exact own_st (fun t k => st'.trans k) (K T' v Lc X' hQ)
theorem own_callV (X : Stand p l e R s m args below meth c T locs cells slots) (hx : p.tables.exec = Jvm.exec) (hZ : Z.Warmed39 s.vm) {own C : String} {idx : Nat} {y : MethodName} (hown : s.vm.findClass own = some m.cls) (w1 : (Jvm.Cond.methodLink own idx y).before a0 Z = true) (w2 : (Jvm.Cond.declares y).before a0 Z = true) (w3 : (Jvm.Cond.selects C y y).before a0 Z = true) (w4 : (Jvm.Cond.instanceMethod y).before a0 Z = true)
    {bytes : ByteArray} {maxL : Nat} {ret : Option FieldType} (w5 : (Jvm.Cond.code y bytes maxL ret).before a0 Z = true) (wz : (Jvm.Cond.initialized y.cls).before a0 Z = true) (hy : y.cls ≠ "java/lang/invoke/MethodHandle" ∧ y.cls ≠ "java/lang/invoke/VarHandle") (eT : T.heap = h) {a : Addr} (E : Exa Z h a C) {rm : Room} {Qc : Option Value → Heap → List Loc → Prop} {argsL rest : List Value}
    (hM : MetFree l y (head1 [Jvm.Cond.code y bytes maxL ret] rm) (fun b U => b = (Value.ref a :: argsL).toArray ∧ Z.Warmed39 U.vm ∧ U.heap = h) (fun _ _ _ _ _ => True) (fun _ U o U' => ∃ v L, o = .returned v ∧ Qc v U'.heap L ∧ FrameEnd U o U' L rm.cells rm.slots))
    {W : Nat} (hf : rm.frames + 1 ≤ R.frames) (hl : W + (maxL + 11) + rm.locals ≤ R.locals) {pc : Nat} {Ls : Array Slot} {st : List Value} (hsize : Ls.size = c.maxLocals) (hlen : ∀ sig, parseMethodDescriptor y.desc = some sig → argsL.length = sig.parameters.length) (hst : st = argsL.reverse ++ .ref a :: rest) (hW : (rest.map fun v => v.category).sum ≤ W) (hd : decode c.code pc = .ok (.invokevirtual idx, 3)) (hc : cells + rm.cells ≤ R.cells) (hs : slots + rm.slots ≤ R.slots)
    (K : ∀ (T' : State) (v : Option Value) (L : List Loc), Stand p l e R s m args below meth c T' (locs ++ L) (cells + rm.cells) (slots + rm.slots) → Qc v T'.heap L → own_Run p e below s Q ck sk (T'.setTop (mkF m (pc + 3) Ls (v.toList ++ rest)))) :
    own_Run p e below s Q ck sk (T.setTop (mkF m pc Ls st)) := by
  obtain ⟨cq, kq, qa, qb, qc⟩ := isOf hZ eT E
  obtain ⟨v, _, ⟨T', L', k', n'⟩, -, X', ⟨Lc, hQ, hl', hk', hn'⟩, st'⟩ := X.virtualBack hx (y := y) (z := y) hown (mvT hZ w1) (mvT hZ w2) (notFace_of_selects (args := #[]) (mvT hZ w3)) (mvT hZ w3) (mvT hZ w4) hy (backOf (W := W) hM hZ w5 wz hf hl) qa qc (g := mkF m pc Ls st) rfl hsize (Steps.refl _) (argsL := argsL) (rest := rest) hlen hst (by show 2 * 0 + _ ≤ _; omega) hd (fun _ _ => ⟨rfl, eT, hc, hs⟩)
  dsimp only [Pt.U, Pt.locs, Pt.cells, Pt.slots] at X' hl' hk' hn' st' hQ
  subst hl' hk' hn'
  exact own_st (fun t k => st'.trans k) (K T' v Lc X' hQ)
theorem own_callS (X : Stand p l e R s m args below meth c T locs cells slots) (hx : p.tables.exec = Jvm.exec) (hZ : Z.Warmed39 s.vm) {own : String} {idx : Nat} {y : MethodName} (hown : s.vm.findClass own = some m.cls) (w1 : (Jvm.Cond.methodLink own idx y).before a0 Z = true) (w2 : (Jvm.Cond.static y).before a0 Z = true)
    {bytes : ByteArray} {maxL : Nat} {ret : Option FieldType} (w5 : (Jvm.Cond.code y bytes maxL ret).before a0 Z = true) (wz : (Jvm.Cond.initialized y.cls).before a0 Z = true) (hy : y.cls ≠ "java/lang/invoke/MethodHandle" ∧ y.cls ≠ "java/lang/invoke/VarHandle") (eT : T.heap = h) {rm : Room} {Qc : Option Value → Heap → List Loc → Prop} {argsL rest : List Value}
    (hM : MetFree l y (head1 [Jvm.Cond.code y bytes maxL ret] rm) (fun b U => b = argsL.toArray ∧ Z.Warmed39 U.vm ∧ U.heap = h) (fun _ _ _ _ _ => True) (fun _ U o U' => ∃ v L, o = .returned v ∧ Qc v U'.heap L ∧ FrameEnd U o U' L rm.cells rm.slots))
    {W : Nat} (hf : rm.frames + 1 ≤ R.frames) (hl : W + (maxL + 11) + rm.locals ≤ R.locals) {pc : Nat} {Ls : Array Slot} {st : List Value} (hsize : Ls.size = c.maxLocals) (hlen : ∀ sig, parseMethodDescriptor y.desc = some sig → argsL.length = sig.parameters.length) (hst : st = argsL.reverse ++ rest) (hW : (rest.map fun v => v.category).sum ≤ W) (hd : decode c.code pc = .ok (.invokestatic idx, 3)) (hc : cells + rm.cells ≤ R.cells) (hs : slots + rm.slots ≤ R.slots)
    (K : ∀ (T' : State) (v : Option Value) (L : List Loc), Stand p l e R s m args below meth c T' (locs ++ L) (cells + rm.cells) (slots + rm.slots) → Qc v T'.heap L → own_Run p e below s Q ck sk (T'.setTop (mkF m (pc + 3) Ls (v.toList ++ rest)))) :
    own_Run p e below s Q ck sk (T.setTop (mkF m pc Ls st)) := by
  obtain ⟨v, _, ⟨T', L', k', n'⟩, -, X', ⟨Lc, hQ, hl', hk', hn'⟩, st'⟩ := Jvm.LawKit.callS X hx (y := y) hown (mvT hZ w1) (mvT hZ w2) (mvT hZ wz) (mvT hZ w5) hy (backOf (W := W) hM hZ w5 wz hf hl) (g := mkF m pc Ls st) rfl hsize (argsL := argsL) (rest := rest) hlen hst (by show 2 * 0 + _ ≤ _; omega) hd (fun _ _ => ⟨rfl, eT, hc, hs⟩)
  dsimp only [Pt.U, Pt.locs, Pt.cells, Pt.slots] at X' hl' hk' hn' st' hQ
  subst hl' hk' hn'
  exact own_st st' (K T' v Lc X' hQ)
end OwnLayer
section OwnNums
open Jvm.FP Jvm.Free.Fl
theorem own_b53 (x : Int32) : B53 x.toInt64 := by
  have := x.le_toInt; have := x.toInt_lt
  unfold B53; rw [Int32.toInt_toInt64]; omega
theorem own_i64lt (x y : Int32) : x.toInt64 < y.toInt64 ↔ x < y := by
  rw [Int64.lt_iff_toInt_lt, Int32.lt_iff_toInt_lt, Int32.toInt_toInt64, Int32.toInt_toInt64]
theorem own_i64eq (x y : Int32) : x.toInt64 = y.toInt64 ↔ x = y := by
  rw [← Int64.toInt_inj, ← Int32.toInt_inj, Int32.toInt_toInt64, Int32.toInt_toInt64]
theorem own_dcmp_lt (x y : Int32) (o : CmpOp) : cmpValue (FP.dcmp (FP.i2d x) (FP.i2d y)) o < 0 ↔ x < y := by
  rw [i2d_w, i2d_w, dcmpV_w (own_b53 x) (own_b53 y), lw_lt, own_i64lt]
theorem own_dcmp_gt (x y : Int32) (o : CmpOp) : 0 < cmpValue (FP.dcmp (FP.i2d x) (FP.i2d y)) o ↔ y < x := by
  rw [i2d_w, i2d_w, dcmpV_w (own_b53 x) (own_b53 y), lw_gt, own_i64lt]
theorem own_dcmp_eq (x y : Int32) (o : CmpOp) : cmpValue (FP.dcmp (FP.i2d x) (FP.i2d y)) o = 0 ↔ x = y := by
  rw [i2d_w, i2d_w, dcmpV_w (own_b53 x) (own_b53 y), lw_eq, own_i64eq]
theorem own_sub_lt (x y : Int32) : lcmpW (x.toInt64 - y.toInt64) 0 < 0 ↔ x < y := by
  have h := sub64 (own_b53 x) (own_b53 y)
  rw [lw_lt, Int64.lt_iff_toInt_lt, Int32.lt_iff_toInt_lt, h, Int32.toInt_toInt64, Int32.toInt_toInt64]
  have : (0 : Int64).toInt = 0 := rfl
  omega
end OwnNums
section OwnWords
theorem own_eqint {args : Array Value} {first s : State} {o : Option Outcome} {idx : List Nat} {t : Term} {k : Int32} (h : (Jvm.Cond.eq t (.int k)).value args first o s idx = some true) : t.eval args first o idx s = some (.int k) := by
  simp only [Cond.value, Term.eval] at h
  cases ht : t.eval args first o idx s with
  | none => simp [ht] at h
  | some x => cases x <;> simp [ht] at h ⊢; exact h
end OwnWords
section OwnInts
theorem own_prod {a b : Int} {A B : Nat} (ha : a.natAbs ≤ A) (hb : b.natAbs ≤ B) : (a * b).natAbs ≤ A * B := by
  rw [Int.natAbs_mul]; exact Nat.mul_le_mul ha hb
theorem own_shr (x : Int32) : (x >>> ((11 : Int32) &&& 31)).toInt.natAbs ≤ 1048576 := by
  rw [c_ishr x 11 11 (by decide)]
  have := x.le_toInt; have := x.toInt_lt
  show (x.toInt / (2048 : Nat)).natAbs ≤ _
  omega
end OwnInts
section OwnFl
open Jvm.FP Jvm.Free.Fl
abbrev own_zv (a : UInt64) : Int := Core.zval Core.b64 (Core.val64 a)
abbrev own_zm (a : UInt64) : Nat := Core.zmag Core.b64 (Core.val64 a)
theorem own_one : (Core.one64 : Nat) = 2 ^ 1074 := rfl
theorem own_finnn {a : UInt64} (h : Core.DFin a) : NoNaN64 a := (fin64_core.mpr h).noNaN
theorem own_finne {a : UInt64} (h : Core.DFin a) : Core.val64 a ≠ .nan := h.ne_nan
theorem own_addle {a b V : UInt64} (ha : Core.DFin a) (hb : Core.DFin b) (hV : Core.val64 V ≠ .nan) (h : own_zv a + own_zv b ≤ own_zv V) : own_zv (FP.dadd a b) ≤ own_zv V := by
  show Core.zval Core.b64 (Core.val64 (Core.dadd a b)) ≤ _
  rw [Core.val64_dadd]
  exact Core.sum_le Core.good_b64 ha hb (Core.val64_fits a) (Core.val64_fits b) (Core.val64_fits V) hV h
theorem own_addge {a b V : UInt64} (ha : Core.DFin a) (hb : Core.DFin b) (hV : Core.val64 V ≠ .nan) (h : own_zv V ≤ own_zv a + own_zv b) : own_zv V ≤ own_zv (FP.dadd a b) := by
  show _ ≤ Core.zval Core.b64 (Core.val64 (Core.dadd a b))
  rw [Core.val64_dadd]
  exact Core.sum_ge Core.good_b64 ha hb (Core.val64_fits a) (Core.val64_fits b) (Core.val64_fits V) hV h
theorem own_negfin {b : UInt64} (hb : Core.DFin b) : ∃ s c q, Core.negate (Core.val64 b) = .fin s c q := by
  obtain ⟨s, c, q, h⟩ := hb
  exact ⟨!s, c, q, by rw [h]; rfl⟩
theorem own_suble {a b V : UInt64} (ha : Core.DFin a) (hb : Core.DFin b) (hV : Core.val64 V ≠ .nan) (h : own_zv a - own_zv b ≤ own_zv V) : own_zv (FP.dsub a b) ≤ own_zv V := by
  show Core.zval Core.b64 (Core.val64 (Core.dsub a b)) ≤ _
  rw [Core.val64_dsub]
  exact Core.sum_le Core.good_b64 ha (own_negfin hb) (Core.val64_fits a) (Core.negate_fits (Core.val64_fits b)) (Core.val64_fits V) hV (by rw [Core.zval_negate]; exact h)
theorem own_subge {a b V : UInt64} (ha : Core.DFin a) (hb : Core.DFin b) (hV : Core.val64 V ≠ .nan) (h : own_zv V ≤ own_zv a - own_zv b) : own_zv V ≤ own_zv (FP.dsub a b) := by
  show _ ≤ Core.zval Core.b64 (Core.val64 (Core.dsub a b))
  rw [Core.val64_dsub]
  exact Core.sum_ge Core.good_b64 ha (own_negfin hb) (Core.val64_fits a) (Core.negate_fits (Core.val64_fits b)) (Core.val64_fits V) hV (by rw [Core.zval_negate]; exact h)
theorem own_pow2q : (2 ^ (Core.b64.qmin - 2 * Core.b64.qmin).toNat : Nat) = Core.one64 := by
  rw [show Core.b64.qmin - 2 * Core.b64.qmin = -Core.b64.qmin by omega]; exact Core.pow_qmin64
theorem own_mulle {a b V : UInt64} (ha : Core.DFin a) (hb : Core.DFin b) (hV : Core.val64 V ≠ .nan) (h : own_zv a * own_zv b ≤ own_zv V * (Core.one64 : Int)) : own_zv (FP.dmul a b) ≤ own_zv V := by
  obtain ⟨s, c, q, ea⟩ := ha
  obtain ⟨t, d, r, eb⟩ := hb
  have fa := Core.val64_fits a
  have fb := Core.val64_fits b
  rw [ea] at fa; rw [eb] at fb
  obtain ⟨h1, h2, h3⟩ := Core.product_units fa fb
  show Core.zval Core.b64 (Core.val64 (Core.dmul a b)) ≤ _
  rw [Core.val64_dmul, ea, eb, h1]
  refine Core.zval_round_le Core.good_b64 (Core.val64_fits V) hV (e0 := 2 * Core.b64.qmin) (by decide) h2 ?_
  rw [h3, Core.signed_xor, own_pow2q]
  simp only [own_zv, ea, eb] at h
  exact h
theorem own_mulge {a b V : UInt64} (ha : Core.DFin a) (hb : Core.DFin b) (hV : Core.val64 V ≠ .nan) (h : own_zv V * (Core.one64 : Int) ≤ own_zv a * own_zv b) : own_zv V ≤ own_zv (FP.dmul a b) := by
  obtain ⟨s, c, q, ea⟩ := ha
  obtain ⟨t, d, r, eb⟩ := hb
  have fa := Core.val64_fits a
  have fb := Core.val64_fits b
  rw [ea] at fa; rw [eb] at fb
  obtain ⟨h1, h2, h3⟩ := Core.product_units fa fb
  show _ ≤ Core.zval Core.b64 (Core.val64 (Core.dmul a b))
  rw [Core.val64_dmul, ea, eb, h1]
  refine Core.zval_round_ge Core.good_b64 (Core.val64_fits V) hV (e0 := 2 * Core.b64.qmin) (by decide) h2 ?_
  rw [h3, Core.signed_xor, own_pow2q]
  simp only [own_zv, ea, eb] at h
  exact h
theorem own_divdat {a b : UInt64} (ha : Core.DFin a) (hb : Core.DFin b) (hz : own_zm b ≠ 0) : ∃ (s t : Bool) (c d : Nat) (q r : Int), Core.val64 a = .fin s c q ∧ Core.val64 b = .fin t d r ∧ 0 < d ∧ Core.b64.qmin ≤ q ∧ Core.b64.qmin ≤ r ∧ Core.val64 (FP.ddiv a b) = Core.roundRatio Core.b64 (s != t) c d (q - r) := by
  obtain ⟨s, c, q, ea⟩ := ha
  obtain ⟨t, d, r, eb⟩ := hb
  have fa := Core.val64_fits a
  have fb := Core.val64_fits b
  rw [ea] at fa; rw [eb] at fb
  have hd : d ≠ 0 := fun q => hz (by unfold own_zm; rw [eb, q]; show Core.inUnits 0 _ _ = 0; unfold Core.inUnits; exact Nat.zero_mul _)
  refine ⟨s, t, c, d, q, r, ea, eb, Nat.pos_of_ne_zero hd, fa.2.1, fb.2.1, ?_⟩
  show Core.val64 (Core.ddiv a b) = _
  rw [Core.val64_ddiv, ea, eb]
  show (if d = 0 then _ else _) = _
  rw [if_neg hd]
theorem own_divunits {c d : Nat} {q r : Int} (hq : Core.b64.qmin ≤ q) (hr : Core.b64.qmin ≤ r) : 2 * Core.b64.qmin - r ≤ Core.b64.qmin ∧ 2 * Core.b64.qmin - r ≤ q - r ∧ Core.inUnits c (q - r) (2 * Core.b64.qmin - r) = Core.inUnits c q Core.b64.qmin * Core.one64 ∧ ∀ m : Nat, m * 2 ^ (Core.b64.qmin - (2 * Core.b64.qmin - r)).toNat * d = m * Core.inUnits d r Core.b64.qmin := by
  have hqm : Core.b64.qmin = -1074 := Core.qmin_b64
  refine ⟨by omega, by omega, ?_, fun m => ?_⟩
  · unfold Core.inUnits
    rw [show (q - r - (2 * Core.b64.qmin - r)).toNat = (q - Core.b64.qmin).toNat + (-Core.b64.qmin).toNat by omega, Nat.pow_add, Core.pow_qmin64, Nat.mul_assoc]
  · unfold Core.inUnits
    rw [show (Core.b64.qmin - (2 * Core.b64.qmin - r)).toNat = (r - Core.b64.qmin).toNat by omega, Nat.mul_assoc, Nat.mul_comm d]
theorem own_divle {a b V : UInt64} (ha : Core.DFin a) (hb : Core.DFin b) (hz : own_zm b ≠ 0) (hV : Core.val64 V ≠ .nan) (h : own_zm a * Core.one64 ≤ own_zm V * own_zm b) : own_zm (FP.ddiv a b) ≤ own_zm V := by
  obtain ⟨s, t, c, d, q, r, ea, eb, hd, hq, hr, e⟩ := own_divdat ha hb hz
  obtain ⟨u1, u2, u3, u4⟩ := own_divunits (c := c) (d := d) hq hr
  unfold own_zm
  rw [e]
  refine Core.zmag_roundRatio_le Core.good_b64 hd (Core.val64_fits V) hV u1 u2 ?_
  rw [u3, u4]
  simp only [own_zm, ea, eb] at h
  exact h
theorem own_divge {a b V : UInt64} (ha : Core.DFin a) (hb : Core.DFin b) (hz : own_zm b ≠ 0) (h : own_zm V * own_zm b ≤ own_zm a * Core.one64) : own_zm V ≤ own_zm (FP.ddiv a b) := by
  obtain ⟨s, t, c, d, q, r, ea, eb, hd, hq, hr, e⟩ := own_divdat ha hb hz
  obtain ⟨u1, u2, u3, u4⟩ := own_divunits (c := c) (d := d) hq hr
  unfold own_zm
  rw [e]
  refine Core.zmag_roundRatio_ge Core.good_b64 hd (Core.val64_fits V) u1 u2 ?_
  rw [u3, u4]
  simp only [own_zm, ea, eb] at h
  exact h
theorem own_divsgn {a b : UInt64} (ha : Core.DFin a) (hb : Core.DFin b) (hz : own_zm b ≠ 0) : Core.sgn (Core.val64 (FP.ddiv a b)) = (Core.sgn (Core.val64 a) != Core.sgn (Core.val64 b)) ∧ Core.val64 (FP.ddiv a b) ≠ .nan := by
  obtain ⟨s, t, c, d, q, r, ea, eb, hd, hq, hr, e⟩ := own_divdat ha hb hz
  rw [e, ea, eb]
  exact ⟨Core.sgn_roundRatio _ _ _ _ _, Core.roundRatio_ne_nan _ _ _ _ _⟩
theorem own_fintop {a : UInt64} (hn : Core.val64 a ≠ .nan) (h : own_zm a < Core.b64.tails * 2 ^ (Core.b64.exps - 2)) : Core.DFin a := by
  cases e : Core.val64 a with
  | nan => exact absurd e hn
  | inf s => rw [own_zm, e] at h; exact absurd h (Nat.lt_irrefl _)
  | fin s c q => exact ⟨s, c, q, e⟩
theorem own_finle {a V : UInt64} (hn : Core.val64 a ≠ .nan) (hV : Core.DFin V) (h : own_zm a ≤ own_zm V) : Core.DFin a := own_fintop hn (Nat.lt_of_le_of_lt h hV.zval_lt)
theorem own_zmabs (a : UInt64) : (own_zv a).natAbs = own_zm a := Core.natAbs_signed _ _
theorem own_addne {a b : UInt64} (ha : Core.DFin a) (hb : Core.DFin b) : Core.val64 (FP.dadd a b) ≠ .nan := (Core.notNaN_iff _).mp (Core.dadd_out ha.notNaN hb)
theorem own_subne {a b : UInt64} (ha : Core.DFin a) (hb : Core.DFin b) : Core.val64 (FP.dsub a b) ≠ .nan := (Core.notNaN_iff _).mp (Core.dsub_out ha.notNaN hb)
theorem own_mulne {a b : UInt64} (ha : Core.DFin a) (hb : Core.DFin b) : Core.val64 (FP.dmul a b) ≠ .nan := (Core.notNaN_iff _).mp (Core.dmul_out ha hb)
theorem own_nnof {a : UInt64} (h : Core.val64 a ≠ .nan) : NoNaN64 a := val64_no.mpr h
/-- the double a is i times two to the power (j - 1074) -/
def own_Z (j : Nat) (i : Int) (a : UInt64) : Prop := Core.DFin a ∧ own_zv a = i * ((2 ^ j : Nat) : Int)
theorem own_rep (n : Int) (j : Nat) (hn : n.natAbs < 2 ^ 53) (hj : j ≤ 2045) : ∃ V, own_Z j n V := by
  have hqm : Core.b64.qmin = -1074 := Core.qmin_b64
  have hqx : Core.b64.qmax = 971 := by decide
  obtain ⟨c', q', h1, h2⟩ := Core.round_exact Core.good_b64 (decide (n < 0)) (c := n.natAbs) (q := Core.b64.qmin + j) hn (by omega) (by omega)
  have hv : Core.val64 (Core.of64 (Core.round Core.b64 (.fin (decide (n < 0)) n.natAbs (Core.b64.qmin + j)))) = .fin (decide (n < 0)) c' q' := by
    rw [Core.val64_of64 (Core.round_fits Core.good_b64 _), h1]
  refine ⟨_, ⟨_, _, _, hv⟩, ?_⟩
  unfold own_zv
  rw [hv]
  show Core.signed (decide (n < 0)) (Core.inUnits c' q' Core.b64.qmin) = _
  rw [h2]
  unfold Core.inUnits
  rw [show (Core.b64.qmin + (j : Int) - Core.b64.qmin).toNat = j by omega, Core.signed_mul]
  congr 1
  unfold Core.signed
  by_cases h : n < 0 <;> simp [h] <;> omega
theorem own_Z.nn {j : Nat} {i : Int} {a : UInt64} (h : own_Z j i a) : NoNaN64 a := own_finnn h.1
theorem own_Z.eqv {j : Nat} {i : Int} {a V : UInt64} (hV : own_Z j i V) (hn : Core.val64 a ≠ .nan) (h1 : own_zv a ≤ own_zv V) (h2 : own_zv V ≤ own_zv a) : own_Z j i a := by
  have e : own_zv a = own_zv V := Int.le_antisymm h1 h2
  refine ⟨own_finle hn hV.1 ?_, e.trans hV.2⟩
  rw [← own_zmabs, ← own_zmabs, e]; exact Nat.le_refl _
theorem own_Z.add {j : Nat} {i k : Int} {a b : UInt64} (ha : own_Z j i a) (hb : own_Z j k b) (hn : (i + k).natAbs < 2 ^ 53) (hj : j ≤ 2045 := by decide) : own_Z j (i + k) (FP.dadd a b) := by
  obtain ⟨V, hV⟩ := own_rep (i + k) j hn hj
  have e : own_zv a + own_zv b = own_zv V := by rw [ha.2, hb.2, hV.2, Int.add_mul]
  exact hV.eqv (own_addne ha.1 hb.1) (own_addle ha.1 hb.1 (own_finne hV.1) (Int.le_of_eq e)) (own_addge ha.1 hb.1 (own_finne hV.1) (Int.le_of_eq e.symm))
theorem own_Z.sub {j : Nat} {i k : Int} {a b : UInt64} (ha : own_Z j i a) (hb : own_Z j k b) (hn : (i - k).natAbs < 2 ^ 53) (hj : j ≤ 2045 := by decide) : own_Z j (i - k) (FP.dsub a b) := by
  obtain ⟨V, hV⟩ := own_rep (i - k) j hn hj
  have e : own_zv a - own_zv b = own_zv V := by rw [ha.2, hb.2, hV.2, Int.sub_mul]
  exact hV.eqv (own_subne ha.1 hb.1) (own_suble ha.1 hb.1 (own_finne hV.1) (Int.le_of_eq e)) (own_subge ha.1 hb.1 (own_finne hV.1) (Int.le_of_eq e.symm))
theorem own_Z.mul {j j' J : Nat} {i k : Int} {a b : UInt64} (ha : own_Z j i a) (hb : own_Z j' k b) (hn : (i * k).natAbs < 2 ^ 53) (hJ : J + 1074 = j + j' := by decide) (hj : J ≤ 2045 := by decide) : own_Z J (i * k) (FP.dmul a b) := by
  obtain ⟨V, hV⟩ := own_rep (i * k) J hn hj
  have e : own_zv a * own_zv b = own_zv V * (Core.one64 : Int) := by
    rw [ha.2, hb.2, hV.2, own_one, Int.mul_assoc (i * k), ← Int.natCast_mul, ← Nat.pow_add, hJ, Nat.pow_add, Int.natCast_mul]
    simp only [Int.mul_assoc, Int.mul_left_comm, Int.mul_comm]
  exact hV.eqv (own_mulne ha.1 hb.1) (own_mulle ha.1 hb.1 (own_finne hV.1) (Int.le_of_eq e)) (own_mulge ha.1 hb.1 (own_finne hV.1) (Int.le_of_eq e.symm))
theorem own_zmZ {j : Nat} {i : Int} {a : UInt64} (h : own_Z j i a) : own_zm a = i.natAbs * 2 ^ j := by
  rw [← own_zmabs, h.2, Int.natAbs_mul, Int.natAbs_natCast]
theorem own_Z.div {j j' J : Nat} {i m : Int} {a b : UInt64} (ha : own_Z j (i * m) a) (hb : own_Z j' m b) (hm : m ≠ 0) (hn : i.natAbs < 2 ^ 53) (hJ : J + j' = j + 1074 := by decide) (hj : J ≤ 2045 := by decide) : own_Z J i (FP.ddiv a b) := by
  obtain ⟨V, hV⟩ := own_rep i J hn hj
  have hb0 : own_zm b ≠ 0 := by
    rw [own_zmZ hb]
    exact Nat.mul_ne_zero (by omega) (Nat.ne_of_gt (Nat.two_pow_pos _))
  have e : own_zm a * Core.one64 = own_zm V * own_zm b := by
    rw [own_zmZ ha, own_zmZ hb, own_zmZ hV, own_one, Int.natAbs_mul, Nat.mul_assoc, ← Nat.pow_add, ← hJ, Nat.pow_add]
    simp only [Nat.mul_assoc, Nat.mul_left_comm, Nat.mul_comm]
  obtain ⟨hs, hne⟩ := own_divsgn ha.1 hb.1 hb0
  have em : own_zm (FP.ddiv a b) = own_zm V := Nat.le_antisymm (own_divle ha.1 hb.1 hb0 (own_finne hV.1) (Nat.le_of_eq e)) (own_divge ha.1 hb.1 hb0 (Nat.le_of_eq e.symm))
  refine ⟨own_finle hne hV.1 (Nat.le_of_eq em), ?_⟩
  have ev : own_zv (FP.ddiv a b) * own_zv b = own_zv a * (Core.one64 : Int) := by
    show Core.signed _ _ * Core.signed _ _ = Core.signed _ _ * _
    rw [← Core.signed_xor, hs, ← Core.signed_mul]
    have e2 : Core.zmag Core.b64 (Core.val64 (FP.ddiv a b)) * Core.zmag Core.b64 (Core.val64 b) = Core.zmag Core.b64 (Core.val64 a) * Core.one64 := by
      rw [show Core.zmag Core.b64 (Core.val64 (FP.ddiv a b)) = own_zm V from em]; exact e.symm
    rw [e2]
    cases Core.sgn (Core.val64 a) <;> cases Core.sgn (Core.val64 b) <;> rfl
  rw [ha.2, hb.2, own_one] at ev
  have hp : ((2 ^ j' : Nat) : Int) ≠ 0 := by have := Nat.two_pow_pos j'; omega
  refine Int.eq_of_mul_eq_mul_right (Int.mul_ne_zero hm hp) (ev.trans ?_)
  rw [Int.mul_assoc (i * m), ← Int.natCast_mul, ← Nat.pow_add, ← hJ, Nat.pow_add, Int.natCast_mul]
  simp only [Int.mul_assoc, Int.mul_left_comm, Int.mul_comm]
theorem own_Z.neg {j : Nat} {i : Int} {a : UInt64} (h : own_Z j i a) : own_Z j (-i) (FP.dneg a) := by
  refine ⟨?_, ?_⟩
  · obtain ⟨s, c, q, e⟩ := own_negfin h.1
    exact ⟨s, c, q, by rw [FP.val64_dneg]; exact e⟩
  · unfold own_zv
    rw [FP.val64_dneg, Core.zval_negate]
    have := h.2; unfold own_zv at this; rw [this, Int.neg_mul]
theorem own_Z.of_int {i : Int} {a : UInt64} (h : Core.DInt i a) : own_Z 1074 i a := by
  refine ⟨?_, Core.DInt_zval h⟩
  unfold Core.DInt at h
  cases e : Core.val64 a with
  | nan => rw [e] at h; exact h.elim
  | inf s => rw [e] at h; exact h.elim
  | fin s c q => exact ⟨s, c, q, e⟩
theorem own_Z.i2d (x : Int32) : own_Z 1074 x.toInt (FP.i2d x) := own_Z.of_int (Core.i2d_int x)
theorem own_Z.l2d {x : Int64} (h : x.toInt.natAbs ≤ 2 ^ 53) : own_Z 1074 x.toInt (FP.l2d x) := own_Z.of_int (Core.l2d_int h)
theorem own_Z.shift {j k : Nat} {i : Int} {a : UInt64} (h : own_Z (j + k) i a) : own_Z j (i * ((2 ^ k : Nat) : Int)) a := by
  refine ⟨h.1, h.2.trans ?_⟩
  rw [Nat.add_comm, Nat.pow_add, Int.natCast_mul, Int.mul_assoc]
theorem own_Z.cmp {j : Nat} {i k : Int} {a b : UInt64} (ha : own_Z j i a) (hb : own_Z j k b) : FP.dcmp a b = some (compare i k) := by
  have h := Core.dcmp_zval (own_finne ha.1) (own_finne hb.1)
  have h1 := ha.2; have h2 := hb.2
  unfold own_zv at h1 h2
  rw [h1, h2, Core.compare_mul_pos _ _ _ (by have := Nat.two_pow_pos j; omega)] at h
  exact h
theorem own_Z.cmpE {j : Nat} {i k : Int} {a b : UInt64} (ha : own_Z j i a) (hb : own_Z j k b) (h : i = k) (o : CmpOp) : cmpValue (FP.dcmp a b) o = 0 := by
  rw [ha.cmp hb, (Core.compare_eq_iff _ _).mpr h]; cases o <;> rfl
theorem own_Z.cmpL {j : Nat} {i k : Int} {a b : UInt64} (ha : own_Z j i a) (hb : own_Z j k b) (h : i < k) (o : CmpOp) : cmpValue (FP.dcmp a b) o = -1 := by
  rw [ha.cmp hb, (Core.compare_lt_iff _ _).mpr h]; cases o <;> rfl
theorem own_Z.cmpG {j : Nat} {i k : Int} {a b : UInt64} (ha : own_Z j i a) (hb : own_Z j k b) (h : k < i) (o : CmpOp) : cmpValue (FP.dcmp a b) o = 1 := by
  rw [ha.cmp hb, (Core.compare_gt_iff _ _).mpr h]; cases o <;> rfl
theorem own_Z.eq {j : Nat} {i k : Int} {a : UInt64} (ha : own_Z j i a) (h : i = k) : own_Z j k a := h ▸ ha
theorem own_mulb {a b : Int} {A B : Nat} (ha : a.natAbs ≤ A) (hb : b.natAbs ≤ B) : (a * b).natAbs ≤ A * B := by
  rw [Int.natAbs_mul]; exact Nat.mul_le_mul ha hb
theorem own_Z0 : own_Z 1074 0 0 := by
  refine ⟨⟨false, 0, Core.b64.qmin, by decide +kernel⟩, by decide +kernel⟩
theorem own_Z1 : own_Z 1074 1 4607182418800017408 := own_Z.of_int Core.dint_one
end OwnFl
section OwnFl2
open Jvm.FP Jvm.Free.Fl
theorem own_Z.sgn {j : Nat} {i : Int} {a : UInt64} (h : own_Z j i a) (hi : i ≠ 0) : Core.sgn (Core.val64 a) = decide (i < 0) := by
  have hz := h.2
  have hp := Nat.two_pow_pos j
  have hm : 0 < own_zm a := by rw [own_zmZ h]; exact Nat.mul_pos (by omega) hp
  have hs : decide (Core.signed (Core.sgn (Core.val64 a)) (own_zm a) < 0) = Core.sgn (Core.val64 a) := Core.signed_lt_zero _ hm
  rw [← hs]
  have : Core.signed (Core.sgn (Core.val64 a)) (own_zm a) = i * ((2 ^ j : Nat) : Int) := hz
  rw [this]
  congr 1
  refine propext ⟨fun q => ?_, fun q => ?_⟩
  · exact Int.lt_of_not_ge fun r => absurd (Int.mul_nonneg r (Int.natCast_nonneg (2 ^ j))) (by omega)
  · exact Int.mul_neg_of_neg_of_pos q (by omega)
theorem own_divcongr {a b a' b' : UInt64} (ha : Core.DFin a) (hb : Core.DFin b) (ha' : Core.DFin a') (hb' : Core.DFin b') (hz : own_zm b ≠ 0) (hz' : own_zm b' ≠ 0)
    (hs : (Core.sgn (Core.val64 a) != Core.sgn (Core.val64 b)) = (Core.sgn (Core.val64 a') != Core.sgn (Core.val64 b'))) (h : own_zm a * own_zm b' = own_zm a' * own_zm b) : FP.ddiv a b = FP.ddiv a' b' := by
  obtain ⟨s, t, c, d, q, r, ea, eb, hd, hq, hr, e⟩ := own_divdat ha hb hz
  obtain ⟨s', t', c', d', q', r', ea', eb', hd', hq', hr', e'⟩ := own_divdat ha' hb' hz'
  have hn := (own_divsgn ha hb hz).2
  refine Core.val64_inj hn ?_
  show Core.val64 (FP.ddiv a b) = Core.val64 (FP.ddiv a' b')
  rw [e, e']
  simp only [ea, eb, ea', eb'] at hs
  have hs2 : (s != t) = (s' != t') := hs
  rw [hs2]
  refine Core.roundRatio_congr hd hd' ?_
  have h2 : Core.inUnits c q Core.b64.qmin * Core.inUnits d' r' Core.b64.qmin = Core.inUnits c' q' Core.b64.qmin * Core.inUnits d r Core.b64.qmin := by
    have := h; simp only [own_zm, ea, eb, ea', eb'] at this; exact this
  unfold Core.inUnits at h2
  have h3 : c * d' * 2 ^ ((q - Core.b64.qmin).toNat + (r' - Core.b64.qmin).toNat) = c' * d * 2 ^ ((q' - Core.b64.qmin).toNat + (r - Core.b64.qmin).toNat) := by
    rw [Nat.pow_add, Nat.pow_add]
    simp only [Nat.mul_assoc, Nat.mul_left_comm, Nat.mul_comm] at h2 ⊢
    exact h2
  rcases Int.le_total (q' + r) (q + r') with hle | hle
  · rw [show (q' - r' - (q - r)).toNat = 0 by omega, Nat.pow_zero, Nat.mul_one]
    have h4 : 2 ^ ((q - Core.b64.qmin).toNat + (r' - Core.b64.qmin).toNat) = 2 ^ (q - r - (q' - r')).toNat * 2 ^ ((q' - Core.b64.qmin).toNat + (r - Core.b64.qmin).toNat) := by rw [← Nat.pow_add]; congr 1; omega
    rw [h4, ← Nat.mul_assoc] at h3
    exact Nat.eq_of_mul_eq_mul_right (Nat.two_pow_pos _) h3
  · rw [show (q - r - (q' - r')).toNat = 0 by omega, Nat.pow_zero, Nat.mul_one]
    have h4 : 2 ^ ((q' - Core.b64.qmin).toNat + (r - Core.b64.qmin).toNat) = 2 ^ (q' - r' - (q - r)).toNat * 2 ^ ((q - Core.b64.qmin).toNat + (r' - Core.b64.qmin).toNat) := by rw [← Nat.pow_add]; congr 1; omega
    rw [h4, ← Nat.mul_assoc] at h3
    exact Nat.eq_of_mul_eq_mul_right (Nat.two_pow_pos _) h3
theorem own_Z.zm {j : Nat} {i : Int} {a : UInt64} (h : own_Z j i a) (hi : i ≠ 0) : own_zm a ≠ 0 := by
  rw [own_zmZ h]; exact Nat.mul_ne_zero (by omega) (Nat.ne_of_gt (Nat.two_pow_pos _))
theorem own_Z.divnn {j k : Nat} {i m : Int} {a b : UInt64} (ha : own_Z j i a) (hb : own_Z k m b) (hm : m ≠ 0) : NoNaN64 (FP.ddiv a b) := own_nnof (own_divsgn ha.1 hb.1 (hb.zm hm)).2
/-- two quotients of one worth: the same double -/
theorem own_Z.divsame {j k j' k' : Nat} {i m i' m' : Int} {a b a' b' : UInt64} (ha : own_Z j i a) (hb : own_Z k m b) (ha' : own_Z j' i' a') (hb' : own_Z k' m' b') (pi : 0 < i) (pm : 0 < m) (pi' : 0 < i') (pm' : 0 < m')
    (h : i.natAbs * 2 ^ j * (m'.natAbs * 2 ^ k') = i'.natAbs * 2 ^ j' * (m.natAbs * 2 ^ k)) : FP.ddiv a b = FP.ddiv a' b' := by
  refine own_divcongr ha.1 hb.1 ha'.1 hb'.1 (hb.zm (by omega)) (hb'.zm (by omega)) ?_ ?_
  · rw [ha.sgn (by omega), hb.sgn (by omega), ha'.sgn (by omega), hb'.sgn (by omega)]
    rw [decide_eq_false (by omega : ¬ i < 0), decide_eq_false (by omega : ¬ m < 0), decide_eq_false (by omega : ¬ i' < 0), decide_eq_false (by omega : ¬ m' < 0)]
  · rw [own_zmZ ha, own_zmZ hb, own_zmZ ha', own_zmZ hb']; exact h
end OwnFl2
section OwnSpam
open Jvm.FP Jvm.Free.Fl
theorem own_m10 (x : Int32) : 0 ≤ (x &&& (1023 : Int32)).toInt ∧ (x &&& (1023 : Int32)).toInt ≤ 1023 := by
  rw [c_mask x 1023 10 (by decide) (by decide)]; omega
theorem own_m11 (x : Int32) : 1 ≤ ((x &&& (1023 : Int32)) + (1 : Int32)).toInt ∧ ((x &&& (1023 : Int32)) + (1 : Int32)).toInt ≤ 1024 := by
  have h := own_m10 x
  have e := c_iadd (x &&& (1023 : Int32)) 1
  have := rng32 ((x &&& (1023 : Int32)) + (1 : Int32))
  have : (1 : Int32).toInt = 1 := rfl
  omega
theorem own_spam {ci pi mi : Int32} (r1 : 0 ≤ ci.toInt ∧ ci.toInt ≤ 1023) (r2 : 0 ≤ pi.toInt ∧ pi.toInt ≤ 1023) (r3 : 1 ≤ mi.toInt ∧ mi.toInt ≤ 1024) :
    NoNaN64 (FP.ddiv (FP.i2d ci) 4652218415073722368) ∧ NoNaN64 (FP.ddiv (FP.i2d pi) 4652218415073722368) ∧ NoNaN64 (FP.ddiv (FP.i2d mi) 4652218415073722368) ∧
    NoNaN64 (FP.dmul (FP.ddiv (FP.i2d ci) 4652218415073722368) (FP.ddiv (FP.i2d pi) 4652218415073722368)) ∧ NoNaN64 (FP.ddiv (FP.dmul (FP.ddiv (FP.i2d ci) 4652218415073722368) (FP.ddiv (FP.i2d pi) 4652218415073722368)) (FP.ddiv (FP.i2d mi) 4652218415073722368)) ∧
    NoNaN64 (FP.ddiv (FP.i2d (ci * pi)) (FP.i2d ((1024 : Int32) * mi))) ∧
    ∀ o, cmpValue (FP.dcmp (FP.ddiv (FP.dmul (FP.ddiv (FP.i2d ci) 4652218415073722368) (FP.ddiv (FP.i2d pi) 4652218415073722368)) (FP.ddiv (FP.i2d mi) 4652218415073722368)) (FP.ddiv (FP.i2d (ci * pi)) (FP.i2d ((1024 : Int32) * mi)))) o = 0 := by
  have zk : own_Z 1084 1 4652218415073722368 := by refine ⟨⟨false, 4503599627370496, -42, by decide +kernel⟩, by decide +kernel⟩
  have A : own_Z 1064 ci.toInt (FP.ddiv (FP.i2d ci) 4652218415073722368) := own_Z.div (own_Z.eq (own_Z.i2d ci) (Int.mul_one _).symm) zk (by decide) (by omega)
  have B : own_Z 1064 pi.toInt (FP.ddiv (FP.i2d pi) 4652218415073722368) := own_Z.div (own_Z.eq (own_Z.i2d pi) (Int.mul_one _).symm) zk (by decide) (by omega)
  have C : own_Z 1064 mi.toInt (FP.ddiv (FP.i2d mi) 4652218415073722368) := own_Z.div (own_Z.eq (own_Z.i2d mi) (Int.mul_one _).symm) zk (by decide) (by omega)
  have hp : (ci.toInt * pi.toInt).natAbs ≤ 1023 * 1023 := own_prod (by omega) (by omega)
  have hq : 0 ≤ ci.toInt * pi.toInt := Int.mul_nonneg r1.1 r2.1
  have D : own_Z 1054 (ci.toInt * pi.toInt) _ := A.mul B (by omega)
  have e1 : (ci * pi).toInt = ci.toInt * pi.toInt := by
    have e := c_imul ci pi
    have := rng32 (ci * pi)
    omega
  have e2 : ((1024 : Int32) * mi).toInt = 1024 * mi.toInt := by
    have e := c_imul 1024 mi
    have := rng32 ((1024 : Int32) * mi)
    have : (1024 : Int32).toInt = 1024 := rfl
    rw [this] at e
    omega
  have F := own_Z.i2d (ci * pi)
  have G := own_Z.i2d ((1024 : Int32) * mi)
  rw [e1] at F; rw [e2] at G
  have n1 := D.divnn C (by omega)
  have n2 := F.divnn G (by omega)
  refine ⟨A.nn, B.nn, C.nn, D.nn, n1, n2, fun o => ?_⟩
  by_cases h0 : ci.toInt * pi.toInt = 0
  · have D0 := own_Z.eq D (h0.trans (Int.zero_mul mi.toInt).symm)
    have F0 := own_Z.eq F (h0.trans (Int.zero_mul (1024 * mi.toInt)).symm)
    exact own_Z.cmpE (own_Z.div (J := 1064) D0 C (by omega) (by decide)) (own_Z.shift (k := 10) (own_Z.div (J := 1074) F0 G (by omega) (by decide))) rfl o
  · refine dcmpV_eq (D.divsame C F G (by omega) (by omega) (by omega) (by omega) ?_) n1 o
    have : (1024 * mi.toInt).natAbs = 2 ^ 10 * mi.toInt.natAbs := by rw [Int.natAbs_mul]; rfl
    rw [this]
    generalize (ci.toInt * pi.toInt).natAbs = P
    generalize mi.toInt.natAbs = M
    rw [show (2 : Nat) ^ 1074 = 2 ^ 1064 * 2 ^ 10 by rw [← Nat.pow_add], show (2 : Nat) ^ 1064 = 2 ^ 1054 * 2 ^ 10 by rw [← Nat.pow_add]]
    generalize (2 : Nat) ^ 1054 = T
    generalize (2 : Nat) ^ 10 = U
    simp only [Nat.mul_assoc, Nat.mul_left_comm, Nat.mul_comm]
end OwnSpam
theorem own_d1_0 : decode prog_21_method_1_code 0 = .ok (.aload_n 0, 1) := by decide +kernel
theorem own_d1_1 : decode prog_21_method_1_code 1 = .ok (.invokespecial 1, 3) := by decide +kernel
theorem own_d1_4 : decode prog_21_method_1_code 4 = .ok (.aload_n 0, 1) := by decide +kernel
theorem own_d1_5 : decode prog_21_method_1_code 5 = .ok (.iload_n 1, 1) := by decide +kernel
theorem own_d1_6 : decode prog_21_method_1_code 6 = .ok (.putfield 7, 3) := by decide +kernel
theorem own_d1_9 : decode prog_21_method_1_code 9 = .ok (.aload_n 0, 1) := by decide +kernel
theorem own_d1_10 : decode prog_21_method_1_code 10 = .ok (.dload_n 2, 1) := by decide +kernel
theorem own_d1_11 : decode prog_21_method_1_code 11 = .ok (.putfield 13, 3) := by decide +kernel
theorem own_d1_14 : decode prog_21_method_1_code 14 = .ok (.aload_n 0, 1) := by decide +kernel
theorem own_d1_15 : decode prog_21_method_1_code 15 = .ok (.dload 4, 2) := by decide +kernel
theorem own_d1_17 : decode prog_21_method_1_code 17 = .ok (.putfield 17, 3) := by decide +kernel
theorem own_d1_20 : decode prog_21_method_1_code 20 = .ok (.aload_n 0, 1) := by decide +kernel
theorem own_d1_21 : decode prog_21_method_1_code 21 = .ok (.iload 6, 2) := by decide +kernel
theorem own_d1_23 : decode prog_21_method_1_code 23 = .ok (.putfield 20, 3) := by decide +kernel
theorem own_d1_26 : decode prog_21_method_1_code 26 = .ok (.aload_n 0, 1) := by decide +kernel
theorem own_d1_27 : decode prog_21_method_1_code 27 = .ok (.iload 7, 2) := by decide +kernel
theorem own_d1_29 : decode prog_21_method_1_code 29 = .ok (.putfield 23, 3) := by decide +kernel
theorem own_d1_32 : decode prog_21_method_1_code 32 = .ok (.aload_n 0, 1) := by decide +kernel
theorem own_d1_33 : decode prog_21_method_1_code 33 = .ok (.dload 8, 2) := by decide +kernel
theorem own_d1_35 : decode prog_21_method_1_code 35 = .ok (.putfield 27, 3) := by decide +kernel
theorem own_d1_38 : decode prog_21_method_1_code 38 = .ok (.aload_n 0, 1) := by decide +kernel
theorem own_d1_39 : decode prog_21_method_1_code 39 = .ok (.aload 10, 2) := by decide +kernel
theorem own_d1_41 : decode prog_21_method_1_code 41 = .ok (.putfield 30, 3) := by decide +kernel
theorem own_d1_44 : decode prog_21_method_1_code 44 = .ok (.aload_n 0, 1) := by decide +kernel
theorem own_d1_45 : decode prog_21_method_1_code 45 = .ok (.aload 11, 2) := by decide +kernel
theorem own_d1_47 : decode prog_21_method_1_code 47 = .ok (.putfield 34, 3) := by decide +kernel
theorem own_d1_50 : decode prog_21_method_1_code 50 = .ok (.aload_n 0, 1) := by decide +kernel
theorem own_d1_51 : decode prog_21_method_1_code 51 = .ok (.aload 12, 2) := by decide +kernel
theorem own_d1_53 : decode prog_21_method_1_code 53 = .ok (.putfield 38, 3) := by decide +kernel
theorem own_d1_56 : decode prog_21_method_1_code 56 = .ok (.aload_n 0, 1) := by decide +kernel
theorem own_d1_57 : decode prog_21_method_1_code 57 = .ok (.iload 13, 2) := by decide +kernel
theorem own_d1_59 : decode prog_21_method_1_code 59 = .ok (.putfield 41, 3) := by decide +kernel
theorem own_d1_62 : decode prog_21_method_1_code 62 = .ok (.aload_n 0, 1) := by decide +kernel
theorem own_d1_63 : decode prog_21_method_1_code 63 = .ok (.dload 14, 2) := by decide +kernel
theorem own_d1_65 : decode prog_21_method_1_code 65 = .ok (.putfield 44, 3) := by decide +kernel
theorem own_d1_68 : decode prog_21_method_1_code 68 = .ok (.return_, 1) := by decide +kernel
set_option maxHeartbeats 4000000 in
theorem own_ef1 (m : MethodId) (x0 : Addr) (x1 : Int32) (x2 : UInt64) (x3 : UInt64) (x4 : Int32) (x5 : Int32) (x6 : UInt64) (x7 : Addr) (x8 : Addr) (x9 : Addr) (x10 : Int32) (x11 : UInt64) : entryFrame m #[(.ref x0), (.int x1), (.double x2), (.double x3), (.int x4), (.int x5), (.double x6), (.ref x7), (.ref x8), (.ref x9), (.int x10), (.double x11)] 16 = mkF m 0 #[.val (.ref x0), .val (.int x1), .val (.double x2), .second, .val (.double x3), .second, .val (.int x4), .val (.int x5), .val (.double x6), .second, .val (.ref x7), .val (.ref x8), .val (.ref x9), .val (.int x10), .val (.double x11), .second] [] := by first | (simp [entryFrame, mkF, argsToLocals, Value.category]; done) | rfl
theorem own_pn0 : plainName "com/example/usurf/usurf/PageFarm" = true := by first | (simp [plainName, overriddenIn]; done) | decide +kernel
def own_Q1 (Z : State) (a0 : Array Value) (a0_ : Addr) (i1 : Int32) (d2 : UInt64) (d3 : UInt64) (i4 : Int32) (d6 : UInt64) (o7 : Addr) (o8 : Addr) (o9 : Addr) (i10 : Int32) (d11 : UInt64) (h0 : Heap) (n0 : Nat) (v : Option Value) (h : Heap) (L : List Loc) : Prop := v = none ∧ Fr n0 L ∧ Keep h0 h [a0_] ∧ Exa Z h a0_ "com/example/usurf/usurf/PageFarm" ∧ Fld Z h a0_ "com/example/usurf/usurf/PageFarm" "pagerank" "D" (.double d2) ∧ Fld Z h a0_ "com/example/usurf/usurf/PageFarm" "contribution" "D" (.double d6) ∧ Fld Z h a0_ "com/example/usurf/usurf/PageFarm" "maxPageRank" "D" (.double d11)
set_option maxRecDepth 65536 in
set_option maxHeartbeats 40000000 in
theorem own_rm1 (l : Launch) (Z : State) (a0 : Array Value) (hw : ∀ d ∈ tables_1, d.before a0 Z = true) (ws : List Jvm.Cond) (a0_ : Addr) (i1 : Int32) (d2 : UInt64) (d3 : UInt64) (i4 : Int32) (d6 : UInt64) (o7 : Addr) (o8 : Addr) (o9 : Addr) (i10 : Int32) (d11 : UInt64) (h0 : Heap) (n0 : Nat) (Z0 : n0 ≤ h0.size) (E0 : Exa Z h0 a0_ "com/example/usurf/usurf/PageFarm") (D0 : ∀ {O nm d : String} {ty : FieldType}, Laid Z a0 "com/example/usurf/usurf/PageFarm" O nm d → parseFieldDescriptor d = some ty → Fld Z h0 a0_ O nm d (defaultValue ty)) (G0 : n0 ≤ a0_) :
    MetFree l (⟨"com/example/usurf/usurf/PageFarm", "<init>", "(IDDIZD[I[D[IID)V"⟩ : MethodName) (head1 (Jvm.Cond.code (⟨"com/example/usurf/usurf/PageFarm", "<init>", "(IDDIZD[I[D[IID)V"⟩ : MethodName) prog_21_method_1_code 16 none :: ws) ({ frames := 1, cells := 0, slots := 0, locals := 12 } : Room)) (fun a U => a = #[(.ref a0_), (.int i1), (.double d2), (.double d3), (.int i4), (.int (1 : Int32)), (.double d6), (.ref o7), (.ref o8), (.ref o9), (.int i10), (.double d11)] ∧ Z.Warmed39 U.vm ∧ U.heap = h0) (fun _ _ _ _ _ => True) (fun _ U o U' => ∃ v L, o = .returned v ∧ own_Q1 Z a0 a0_ i1 d2 d3 i4 d6 o7 o8 o9 i10 d11 h0 n0 v U'.heap L ∧ FrameEnd U o U' L ({ frames := 1, cells := 0, slots := 0, locals := 12 } : Room).cells ({ frames := 1, cells := 0, slots := 0, locals := 12 } : Room).slots) := by
  refine own_body (Q := fun v h L => own_Q1 Z a0 a0_ i1 d2 d3 i4 d6 o7 o8 o9 i10 d11 h0 n0 v h L) (plainFor_of_name own_pn0) ?_
  intro p e s m below meth c s₁ hx hby hml hZ hown hnm hret hlk X0 e0
  replace hml : c.maxLocals = 16 := hml
  have N0 := Fr.nil n0
  have K0 : Keep h0 h0 [a0_] := Keep.refl _ _
  refine own_st (fun t k => castTop (own_ef1 m a0_ i1 d2 d3 i4 (1 : Int32) d6 o7 o8 o9 i10 d11) k) ?_
  show own_Run p e below s _ _ _ (s₁.setTop (mkF m 0 #[.val (.ref a0_), .val (.int i1), .val (.double d2), .second, .val (.double d3), .second, .val (.int i4), .val (.int (1 : Int32)), .val (.double d6), .second, .val (.ref o7), .val (.ref o8), .val (.ref o9), .val (.int i10), .val (.double d11), .second] []))
  refine own_st (fun t k => XS.aloadN X0.here hx rfl (hb hby own_d1_0) rfl rfl k) ?_
  show own_Run p e below s _ _ _ (s₁.setTop (mkF m 1 #[.val (.ref a0_), .val (.int i1), .val (.double d2), .second, .val (.double d3), .second, .val (.int i4), .val (.int (1 : Int32)), .val (.double d6), .second, .val (.ref o7), .val (.ref o8), .val (.ref o9), .val (.int i10), .val (.double d11), .second] [(.ref a0_)]))
  obtain ⟨T1, X1, e1, st1⟩ := initO X0 hx hZ hown (hw _ (List.mem_of_getElem? (i := 9) rfl)) (hw _ (List.mem_of_getElem? (i := 10) rfl)) (hw _ (List.mem_of_getElem? (i := 11) rfl)) e0 (g := (mkF m 1 #[.val (.ref a0_), .val (.int i1), .val (.double d2), .second, .val (.double d3), .second, .val (.int i4), .val (.int (1 : Int32)), .val (.double d6), .second, .val (.ref o7), .val (.ref o8), .val (.ref o9), .val (.int i10), .val (.double d11), .second] [(.ref a0_)])) rfl (by rw [hml]; rfl) rfl (hb hby own_d1_1) (by decide) (W := 0) (by show 2 * 0 + _ ≤ _; exact Nat.le_of_eq rfl) (by decide)
  refine own_st st1 ?_
  show own_Run p e below s _ _ _ (T1.setTop (mkF m 4 #[.val (.ref a0_), .val (.int i1), .val (.double d2), .second, .val (.double d3), .second, .val (.int i4), .val (.int (1 : Int32)), .val (.double d6), .second, .val (.ref o7), .val (.ref o8), .val (.ref o9), .val (.int i10), .val (.double d11), .second] []))
  refine own_st (fun t k => XS.aloadN X1.here hx rfl (hb hby own_d1_4) rfl rfl k) ?_
  show own_Run p e below s _ _ _ (T1.setTop (mkF m 5 #[.val (.ref a0_), .val (.int i1), .val (.double d2), .second, .val (.double d3), .second, .val (.int i4), .val (.int (1 : Int32)), .val (.double d6), .second, .val (.ref o7), .val (.ref o8), .val (.ref o9), .val (.int i10), .val (.double d11), .second] [(.ref a0_)]))
  refine own_st (fun t k => XS.iloadN X1.here hx rfl (hb hby own_d1_5) rfl k) ?_
  show own_Run p e below s _ _ _ (T1.setTop (mkF m 6 #[.val (.ref a0_), .val (.int i1), .val (.double d2), .second, .val (.double d3), .second, .val (.int i4), .val (.int (1 : Int32)), .val (.double d6), .second, .val (.ref o7), .val (.ref o8), .val (.ref o9), .val (.int i10), .val (.double d11), .second] [(.int i1), (.ref a0_)]))
  have F2 : Fld Z _ a0_ "com/example/usurf/usurf/PageFarm" "node" "I" (.int (0 : Int32)) := D0 (Or.inr (hw _ (List.mem_of_getElem? (i := 13) rfl))) (ty := .int) (by decide)
  obtain ⟨T3, h3, X3, e3, W3, st3⟩ := putF X1 hx hZ hown (host := "") (Or.inl (hw _ (List.mem_of_getElem? (i := 12) rfl))) Via.refl e1 F2 E0 (Or.inr ⟨(hw _ (List.mem_of_getElem? (i := 13) rfl)), rfl, hnm⟩) (hw _ (List.mem_of_getElem? (i := 2) rfl)) (ty := .int) (by decide) rfl rfl (g := (mkF m 6 #[.val (.ref a0_), .val (.int i1), .val (.double d2), .second, .val (.double d3), .second, .val (.int i4), .val (.int (1 : Int32)), .val (.double d6), .second, .val (.ref o7), .val (.ref o8), .val (.ref o9), .val (.int i10), .val (.double d11), .second] [(.int i1), (.ref a0_)])) rfl rfl (hb hby own_d1_6)
  refine own_st st3 ?_
  have Fw3 := F2.same W3
  have N3 := Fr.snoc X3 N0 G0
  have K4 : Keep h0 h3 [a0_] := K0.wr W3 (Or.inl (List.mem_of_getElem? (i := 0) rfl))
  show own_Run p e below s _ _ _ (T3.setTop (mkF m 9 #[.val (.ref a0_), .val (.int i1), .val (.double d2), .second, .val (.double d3), .second, .val (.int i4), .val (.int (1 : Int32)), .val (.double d6), .second, .val (.ref o7), .val (.ref o8), .val (.ref o9), .val (.int i10), .val (.double d11), .second] []))
  refine own_st (fun t k => XS.aloadN X3.here hx rfl (hb hby own_d1_9) rfl rfl k) ?_
  show own_Run p e below s _ _ _ (T3.setTop (mkF m 10 #[.val (.ref a0_), .val (.int i1), .val (.double d2), .second, .val (.double d3), .second, .val (.int i4), .val (.int (1 : Int32)), .val (.double d6), .second, .val (.ref o7), .val (.ref o8), .val (.ref o9), .val (.int i10), .val (.double d11), .second] [(.ref a0_)]))
  refine own_st (fun t k => XS.dloadN X3.here hx rfl (hb hby own_d1_10) rfl k) ?_
  show own_Run p e below s _ _ _ (T3.setTop (mkF m 11 #[.val (.ref a0_), .val (.int i1), .val (.double d2), .second, .val (.double d3), .second, .val (.int i4), .val (.int (1 : Int32)), .val (.double d6), .second, .val (.ref o7), .val (.ref o8), .val (.ref o9), .val (.int i10), .val (.double d11), .second] [(.double d2), (.ref a0_)]))
  have E6 := (E0.wr W3)
  have F7 : Fld Z _ a0_ "com/example/usurf/usurf/PageFarm" "pagerank" "D" (.double (0 : UInt64)) := D0 (Or.inr (hw _ (List.mem_of_getElem? (i := 15) rfl))) (ty := .double) (by decide)
  have F8 := (F7.other W3 (Or.inr (slot_ne (Or.inr (hw _ (List.mem_of_getElem? (i := 15) rfl))) (Or.inr (hw _ (List.mem_of_getElem? (i := 13) rfl))) (by decide) (t := .double) (t' := .int) (by decide) (by decide))))
  obtain ⟨T9, h9, X9, e9, W9, st9⟩ := putF X3 hx hZ hown (host := "") (Or.inl (hw _ (List.mem_of_getElem? (i := 14) rfl))) Via.refl e3 F8 E6 (Or.inr ⟨(hw _ (List.mem_of_getElem? (i := 15) rfl)), rfl, hnm⟩) (hw _ (List.mem_of_getElem? (i := 2) rfl)) (ty := .double) (by decide) rfl rfl (g := (mkF m 11 #[.val (.ref a0_), .val (.int i1), .val (.double d2), .second, .val (.double d3), .second, .val (.int i4), .val (.int (1 : Int32)), .val (.double d6), .second, .val (.ref o7), .val (.ref o8), .val (.ref o9), .val (.int i10), .val (.double d11), .second] [(.double d2), (.ref a0_)])) rfl rfl (hb hby own_d1_11)
  refine own_st st9 ?_
  have Fw9 := F8.same W9
  have N9 := Fr.snoc X9 N3 G0
  have K10 : Keep h0 h9 [a0_] := K4.wr W9 (Or.inl (List.mem_of_getElem? (i := 0) rfl))
  show own_Run p e below s _ _ _ (T9.setTop (mkF m 14 #[.val (.ref a0_), .val (.int i1), .val (.double d2), .second, .val (.double d3), .second, .val (.int i4), .val (.int (1 : Int32)), .val (.double d6), .second, .val (.ref o7), .val (.ref o8), .val (.ref o9), .val (.int i10), .val (.double d11), .second] []))
  refine own_st (fun t k => XS.aloadN X9.here hx rfl (hb hby own_d1_14) rfl rfl k) ?_
  show own_Run p e below s _ _ _ (T9.setTop (mkF m 15 #[.val (.ref a0_), .val (.int i1), .val (.double d2), .second, .val (.double d3), .second, .val (.int i4), .val (.int (1 : Int32)), .val (.double d6), .second, .val (.ref o7), .val (.ref o8), .val (.ref o9), .val (.int i10), .val (.double d11), .second] [(.ref a0_)]))
  refine own_st (fun t k => XS.dload X9.here hx rfl (hb hby own_d1_15) rfl k) ?_
  show own_Run p e below s _ _ _ (T9.setTop (mkF m 17 #[.val (.ref a0_), .val (.int i1), .val (.double d2), .second, .val (.double d3), .second, .val (.int i4), .val (.int (1 : Int32)), .val (.double d6), .second, .val (.ref o7), .val (.ref o8), .val (.ref o9), .val (.int i10), .val (.double d11), .second] [(.double d3), (.ref a0_)]))
  have E12 := (E6.wr W9)
  have F13 : Fld Z _ a0_ "com/example/usurf/usurf/PageFarm" "theta" "D" (.double (0 : UInt64)) := D0 (Or.inr (hw _ (List.mem_of_getElem? (i := 17) rfl))) (ty := .double) (by decide)
  have F14 := ((F13.other W3 (Or.inr (slot_ne (Or.inr (hw _ (List.mem_of_getElem? (i := 17) rfl))) (Or.inr (hw _ (List.mem_of_getElem? (i := 13) rfl))) (by decide) (t := .double) (t' := .int) (by decide) (by decide)))).other W9 (Or.inr (slot_ne (Or.inr (hw _ (List.mem_of_getElem? (i := 17) rfl))) (Or.inr (hw _ (List.mem_of_getElem? (i := 15) rfl))) (by decide) (t := .double) (t' := .double) (by decide) (by decide))))
  obtain ⟨T15, h15, X15, e15, W15, st15⟩ := putF X9 hx hZ hown (host := "") (Or.inl (hw _ (List.mem_of_getElem? (i := 16) rfl))) Via.refl e9 F14 E12 (Or.inr ⟨(hw _ (List.mem_of_getElem? (i := 17) rfl)), rfl, hnm⟩) (hw _ (List.mem_of_getElem? (i := 2) rfl)) (ty := .double) (by decide) rfl rfl (g := (mkF m 17 #[.val (.ref a0_), .val (.int i1), .val (.double d2), .second, .val (.double d3), .second, .val (.int i4), .val (.int (1 : Int32)), .val (.double d6), .second, .val (.ref o7), .val (.ref o8), .val (.ref o9), .val (.int i10), .val (.double d11), .second] [(.double d3), (.ref a0_)])) rfl rfl (hb hby own_d1_17)
  refine own_st st15 ?_
  have Fw15 := F14.same W15
  have N15 := Fr.snoc X15 N9 G0
  have K16 : Keep h0 h15 [a0_] := K10.wr W15 (Or.inl (List.mem_of_getElem? (i := 0) rfl))
  show own_Run p e below s _ _ _ (T15.setTop (mkF m 20 #[.val (.ref a0_), .val (.int i1), .val (.double d2), .second, .val (.double d3), .second, .val (.int i4), .val (.int (1 : Int32)), .val (.double d6), .second, .val (.ref o7), .val (.ref o8), .val (.ref o9), .val (.int i10), .val (.double d11), .second] []))
  refine own_st (fun t k => XS.aloadN X15.here hx rfl (hb hby own_d1_20) rfl rfl k) ?_
  show own_Run p e below s _ _ _ (T15.setTop (mkF m 21 #[.val (.ref a0_), .val (.int i1), .val (.double d2), .second, .val (.double d3), .second, .val (.int i4), .val (.int (1 : Int32)), .val (.double d6), .second, .val (.ref o7), .val (.ref o8), .val (.ref o9), .val (.int i10), .val (.double d11), .second] [(.ref a0_)]))
  refine own_st (fun t k => XS.iload X15.here hx rfl (hb hby own_d1_21) rfl k) ?_
  show own_Run p e below s _ _ _ (T15.setTop (mkF m 23 #[.val (.ref a0_), .val (.int i1), .val (.double d2), .second, .val (.double d3), .second, .val (.int i4), .val (.int (1 : Int32)), .val (.double d6), .second, .val (.ref o7), .val (.ref o8), .val (.ref o9), .val (.int i10), .val (.double d11), .second] [(.int i4), (.ref a0_)]))
  have E18 := (E12.wr W15)
  have F19 : Fld Z _ a0_ "com/example/usurf/usurf/PageFarm" "k" "I" (.int (0 : Int32)) := D0 (Or.inr (hw _ (List.mem_of_getElem? (i := 19) rfl))) (ty := .int) (by decide)
  have F20 := (((F19.other W3 (Or.inr (slot_ne (Or.inr (hw _ (List.mem_of_getElem? (i := 19) rfl))) (Or.inr (hw _ (List.mem_of_getElem? (i := 13) rfl))) (by decide) (t := .int) (t' := .int) (by decide) (by decide)))).other W9 (Or.inr (slot_ne (Or.inr (hw _ (List.mem_of_getElem? (i := 19) rfl))) (Or.inr (hw _ (List.mem_of_getElem? (i := 15) rfl))) (by decide) (t := .int) (t' := .double) (by decide) (by decide)))).other W15 (Or.inr (slot_ne (Or.inr (hw _ (List.mem_of_getElem? (i := 19) rfl))) (Or.inr (hw _ (List.mem_of_getElem? (i := 17) rfl))) (by decide) (t := .int) (t' := .double) (by decide) (by decide))))
  obtain ⟨T21, h21, X21, e21, W21, st21⟩ := putF X15 hx hZ hown (host := "") (Or.inl (hw _ (List.mem_of_getElem? (i := 18) rfl))) Via.refl e15 F20 E18 (Or.inr ⟨(hw _ (List.mem_of_getElem? (i := 19) rfl)), rfl, hnm⟩) (hw _ (List.mem_of_getElem? (i := 2) rfl)) (ty := .int) (by decide) rfl rfl (g := (mkF m 23 #[.val (.ref a0_), .val (.int i1), .val (.double d2), .second, .val (.double d3), .second, .val (.int i4), .val (.int (1 : Int32)), .val (.double d6), .second, .val (.ref o7), .val (.ref o8), .val (.ref o9), .val (.int i10), .val (.double d11), .second] [(.int i4), (.ref a0_)])) rfl rfl (hb hby own_d1_23)
  refine own_st st21 ?_
  have Fw21 := F20.same W21
  have N21 := Fr.snoc X21 N15 G0
  have K22 : Keep h0 h21 [a0_] := K16.wr W21 (Or.inl (List.mem_of_getElem? (i := 0) rfl))
  show own_Run p e below s _ _ _ (T21.setTop (mkF m 26 #[.val (.ref a0_), .val (.int i1), .val (.double d2), .second, .val (.double d3), .second, .val (.int i4), .val (.int (1 : Int32)), .val (.double d6), .second, .val (.ref o7), .val (.ref o8), .val (.ref o9), .val (.int i10), .val (.double d11), .second] []))
  refine own_st (fun t k => XS.aloadN X21.here hx rfl (hb hby own_d1_26) rfl rfl k) ?_
  show own_Run p e below s _ _ _ (T21.setTop (mkF m 27 #[.val (.ref a0_), .val (.int i1), .val (.double d2), .second, .val (.double d3), .second, .val (.int i4), .val (.int (1 : Int32)), .val (.double d6), .second, .val (.ref o7), .val (.ref o8), .val (.ref o9), .val (.int i10), .val (.double d11), .second] [(.ref a0_)]))
  refine own_st (fun t k => XS.iload X21.here hx rfl (hb hby own_d1_27) rfl k) ?_
  show own_Run p e below s _ _ _ (T21.setTop (mkF m 29 #[.val (.ref a0_), .val (.int i1), .val (.double d2), .second, .val (.double d3), .second, .val (.int i4), .val (.int (1 : Int32)), .val (.double d6), .second, .val (.ref o7), .val (.ref o8), .val (.ref o9), .val (.int i10), .val (.double d11), .second] [(.int (1 : Int32)), (.ref a0_)]))
  have E24 := (E18.wr W21)
  have F25 : Fld Z _ a0_ "com/example/usurf/usurf/PageFarm" "found" "Z" (.int (0 : Int32)) := D0 (Or.inr (hw _ (List.mem_of_getElem? (i := 21) rfl))) (ty := .boolean) (by decide)
  have F26 := ((((F25.other W3 (Or.inr (slot_ne (Or.inr (hw _ (List.mem_of_getElem? (i := 21) rfl))) (Or.inr (hw _ (List.mem_of_getElem? (i := 13) rfl))) (by decide) (t := .boolean) (t' := .int) (by decide) (by decide)))).other W9 (Or.inr (slot_ne (Or.inr (hw _ (List.mem_of_getElem? (i := 21) rfl))) (Or.inr (hw _ (List.mem_of_getElem? (i := 15) rfl))) (by decide) (t := .boolean) (t' := .double) (by decide) (by decide)))).other W15 (Or.inr (slot_ne (Or.inr (hw _ (List.mem_of_getElem? (i := 21) rfl))) (Or.inr (hw _ (List.mem_of_getElem? (i := 17) rfl))) (by decide) (t := .boolean) (t' := .double) (by decide) (by decide)))).other W21 (Or.inr (slot_ne (Or.inr (hw _ (List.mem_of_getElem? (i := 21) rfl))) (Or.inr (hw _ (List.mem_of_getElem? (i := 19) rfl))) (by decide) (t := .boolean) (t' := .int) (by decide) (by decide))))
  obtain ⟨T27, h27, X27, e27, W27, st27⟩ := putF X21 hx hZ hown (host := "") (Or.inl (hw _ (List.mem_of_getElem? (i := 20) rfl))) Via.refl e21 F26 E24 (Or.inr ⟨(hw _ (List.mem_of_getElem? (i := 21) rfl)), rfl, hnm⟩) (hw _ (List.mem_of_getElem? (i := 2) rfl)) (ty := .boolean) (by decide) rfl rfl (g := (mkF m 29 #[.val (.ref a0_), .val (.int i1), .val (.double d2), .second, .val (.double d3), .second, .val (.int i4), .val (.int (1 : Int32)), .val (.double d6), .second, .val (.ref o7), .val (.ref o8), .val (.ref o9), .val (.int i10), .val (.double d11), .second] [(.int (1 : Int32)), (.ref a0_)])) rfl rfl (hb hby own_d1_29)
  refine own_st st27 ?_
  have Fw27 := F26.same W27
  have N27 := Fr.snoc X27 N21 G0
  have K28 : Keep h0 h27 [a0_] := K22.wr W27 (Or.inl (List.mem_of_getElem? (i := 0) rfl))
  show own_Run p e below s _ _ _ (T27.setTop (mkF m 32 #[.val (.ref a0_), .val (.int i1), .val (.double d2), .second, .val (.double d3), .second, .val (.int i4), .val (.int (1 : Int32)), .val (.double d6), .second, .val (.ref o7), .val (.ref o8), .val (.ref o9), .val (.int i10), .val (.double d11), .second] []))
  refine own_st (fun t k => XS.aloadN X27.here hx rfl (hb hby own_d1_32) rfl rfl k) ?_
  show own_Run p e below s _ _ _ (T27.setTop (mkF m 33 #[.val (.ref a0_), .val (.int i1), .val (.double d2), .second, .val (.double d3), .second, .val (.int i4), .val (.int (1 : Int32)), .val (.double d6), .second, .val (.ref o7), .val (.ref o8), .val (.ref o9), .val (.int i10), .val (.double d11), .second] [(.ref a0_)]))
  refine own_st (fun t k => XS.dload X27.here hx rfl (hb hby own_d1_33) rfl k) ?_
  show own_Run p e below s _ _ _ (T27.setTop (mkF m 35 #[.val (.ref a0_), .val (.int i1), .val (.double d2), .second, .val (.double d3), .second, .val (.int i4), .val (.int (1 : Int32)), .val (.double d6), .second, .val (.ref o7), .val (.ref o8), .val (.ref o9), .val (.int i10), .val (.double d11), .second] [(.double d6), (.ref a0_)]))
  have E30 := (E24.wr W27)
  have F31 : Fld Z _ a0_ "com/example/usurf/usurf/PageFarm" "contribution" "D" (.double (0 : UInt64)) := D0 (Or.inr (hw _ (List.mem_of_getElem? (i := 23) rfl))) (ty := .double) (by decide)
  have F32 := (((((F31.other W3 (Or.inr (slot_ne (Or.inr (hw _ (List.mem_of_getElem? (i := 23) rfl))) (Or.inr (hw _ (List.mem_of_getElem? (i := 13) rfl))) (by decide) (t := .double) (t' := .int) (by decide) (by decide)))).other W9 (Or.inr (slot_ne (Or.inr (hw _ (List.mem_of_getElem? (i := 23) rfl))) (Or.inr (hw _ (List.mem_of_getElem? (i := 15) rfl))) (by decide) (t := .double) (t' := .double) (by decide) (by decide)))).other W15 (Or.inr (slot_ne (Or.inr (hw _ (List.mem_of_getElem? (i := 23) rfl))) (Or.inr (hw _ (List.mem_of_getElem? (i := 17) rfl))) (by decide) (t := .double) (t' := .double) (by decide) (by decide)))).other W21 (Or.inr (slot_ne (Or.inr (hw _ (List.mem_of_getElem? (i := 23) rfl))) (Or.inr (hw _ (List.mem_of_getElem? (i := 19) rfl))) (by decide) (t := .double) (t' := .int) (by decide) (by decide)))).other W27 (Or.inr (slot_ne (Or.inr (hw _ (List.mem_of_getElem? (i := 23) rfl))) (Or.inr (hw _ (List.mem_of_getElem? (i := 21) rfl))) (by decide) (t := .double) (t' := .boolean) (by decide) (by decide))))
  obtain ⟨T33, h33, X33, e33, W33, st33⟩ := putF X27 hx hZ hown (host := "") (Or.inl (hw _ (List.mem_of_getElem? (i := 22) rfl))) Via.refl e27 F32 E30 (Or.inr ⟨(hw _ (List.mem_of_getElem? (i := 23) rfl)), rfl, hnm⟩) (hw _ (List.mem_of_getElem? (i := 2) rfl)) (ty := .double) (by decide) rfl rfl (g := (mkF m 35 #[.val (.ref a0_), .val (.int i1), .val (.double d2), .second, .val (.double d3), .second, .val (.int i4), .val (.int (1 : Int32)), .val (.double d6), .second, .val (.ref o7), .val (.ref o8), .val (.ref o9), .val (.int i10), .val (.double d11), .second] [(.double d6), (.ref a0_)])) rfl rfl (hb hby own_d1_35)
  refine own_st st33 ?_
  have Fw33 := F32.same W33
  have N33 := Fr.snoc X33 N27 G0
  have K34 : Keep h0 h33 [a0_] := K28.wr W33 (Or.inl (List.mem_of_getElem? (i := 0) rfl))
  show own_Run p e below s _ _ _ (T33.setTop (mkF m 38 #[.val (.ref a0_), .val (.int i1), .val (.double d2), .second, .val (.double d3), .second, .val (.int i4), .val (.int (1 : Int32)), .val (.double d6), .second, .val (.ref o7), .val (.ref o8), .val (.ref o9), .val (.int i10), .val (.double d11), .second] []))
  refine own_st (fun t k => XS.aloadN X33.here hx rfl (hb hby own_d1_38) rfl rfl k) ?_
  show own_Run p e below s _ _ _ (T33.setTop (mkF m 39 #[.val (.ref a0_), .val (.int i1), .val (.double d2), .second, .val (.double d3), .second, .val (.int i4), .val (.int (1 : Int32)), .val (.double d6), .second, .val (.ref o7), .val (.ref o8), .val (.ref o9), .val (.int i10), .val (.double d11), .second] [(.ref a0_)]))
  refine own_st (fun t k => XS.aload X33.here hx rfl (hb hby own_d1_39) rfl rfl k) ?_
  show own_Run p e below s _ _ _ (T33.setTop (mkF m 41 #[.val (.ref a0_), .val (.int i1), .val (.double d2), .second, .val (.double d3), .second, .val (.int i4), .val (.int (1 : Int32)), .val (.double d6), .second, .val (.ref o7), .val (.ref o8), .val (.ref o9), .val (.int i10), .val (.double d11), .second] [(.ref o7), (.ref a0_)]))
  have E36 := (E30.wr W33)
  have F37 : Fld Z _ a0_ "com/example/usurf/usurf/PageFarm" "pages" "[I" .null := D0 (Or.inr (hw _ (List.mem_of_getElem? (i := 25) rfl))) (ty := (.array .int)) (by decide)
  have F38 := ((((((F37.other W3 (Or.inr (slot_ne (Or.inr (hw _ (List.mem_of_getElem? (i := 25) rfl))) (Or.inr (hw _ (List.mem_of_getElem? (i := 13) rfl))) (by decide) (t := (.array .int)) (t' := .int) (by decide) (by decide)))).other W9 (Or.inr (slot_ne (Or.inr (hw _ (List.mem_of_getElem? (i := 25) rfl))) (Or.inr (hw _ (List.mem_of_getElem? (i := 15) rfl))) (by decide) (t := (.array .int)) (t' := .double) (by decide) (by decide)))).other W15 (Or.inr (slot_ne (Or.inr (hw _ (List.mem_of_getElem? (i := 25) rfl))) (Or.inr (hw _ (List.mem_of_getElem? (i := 17) rfl))) (by decide) (t := (.array .int)) (t' := .double) (by decide) (by decide)))).other W21 (Or.inr (slot_ne (Or.inr (hw _ (List.mem_of_getElem? (i := 25) rfl))) (Or.inr (hw _ (List.mem_of_getElem? (i := 19) rfl))) (by decide) (t := (.array .int)) (t' := .int) (by decide) (by decide)))).other W27 (Or.inr (slot_ne (Or.inr (hw _ (List.mem_of_getElem? (i := 25) rfl))) (Or.inr (hw _ (List.mem_of_getElem? (i := 21) rfl))) (by decide) (t := (.array .int)) (t' := .boolean) (by decide) (by decide)))).other W33 (Or.inr (slot_ne (Or.inr (hw _ (List.mem_of_getElem? (i := 25) rfl))) (Or.inr (hw _ (List.mem_of_getElem? (i := 23) rfl))) (by decide) (t := (.array .int)) (t' := .double) (by decide) (by decide))))
  obtain ⟨T39, h39, X39, e39, W39, st39⟩ := putF X33 hx hZ hown (host := "") (Or.inl (hw _ (List.mem_of_getElem? (i := 24) rfl))) Via.refl e33 F38 E36 (Or.inr ⟨(hw _ (List.mem_of_getElem? (i := 25) rfl)), rfl, hnm⟩) (hw _ (List.mem_of_getElem? (i := 2) rfl)) (ty := (.array .int)) (by decide) rfl rfl (g := (mkF m 41 #[.val (.ref a0_), .val (.int i1), .val (.double d2), .second, .val (.double d3), .second, .val (.int i4), .val (.int (1 : Int32)), .val (.double d6), .second, .val (.ref o7), .val (.ref o8), .val (.ref o9), .val (.int i10), .val (.double d11), .second] [(.ref o7), (.ref a0_)])) rfl rfl (hb hby own_d1_41)
  refine own_st st39 ?_
  have Fw39 := F38.same W39
  have N39 := Fr.snoc X39 N33 G0
  have K40 : Keep h0 h39 [a0_] := K34.wr W39 (Or.inl (List.mem_of_getElem? (i := 0) rfl))
  show own_Run p e below s _ _ _ (T39.setTop (mkF m 44 #[.val (.ref a0_), .val (.int i1), .val (.double d2), .second, .val (.double d3), .second, .val (.int i4), .val (.int (1 : Int32)), .val (.double d6), .second, .val (.ref o7), .val (.ref o8), .val (.ref o9), .val (.int i10), .val (.double d11), .second] []))
  refine own_st (fun t k => XS.aloadN X39.here hx rfl (hb hby own_d1_44) rfl rfl k) ?_
  show own_Run p e below s _ _ _ (T39.setTop (mkF m 45 #[.val (.ref a0_), .val (.int i1), .val (.double d2), .second, .val (.double d3), .second, .val (.int i4), .val (.int (1 : Int32)), .val (.double d6), .second, .val (.ref o7), .val (.ref o8), .val (.ref o9), .val (.int i10), .val (.double d11), .second] [(.ref a0_)]))
  refine own_st (fun t k => XS.aload X39.here hx rfl (hb hby own_d1_45) rfl rfl k) ?_
  show own_Run p e below s _ _ _ (T39.setTop (mkF m 47 #[.val (.ref a0_), .val (.int i1), .val (.double d2), .second, .val (.double d3), .second, .val (.int i4), .val (.int (1 : Int32)), .val (.double d6), .second, .val (.ref o7), .val (.ref o8), .val (.ref o9), .val (.int i10), .val (.double d11), .second] [(.ref o8), (.ref a0_)]))
  have E42 := (E36.wr W39)
  have F43 : Fld Z _ a0_ "com/example/usurf/usurf/PageFarm" "pageContributions" "[D" .null := D0 (Or.inr (hw _ (List.mem_of_getElem? (i := 27) rfl))) (ty := (.array .double)) (by decide)
  have F44 := (((((((F43.other W3 (Or.inr (slot_ne (Or.inr (hw _ (List.mem_of_getElem? (i := 27) rfl))) (Or.inr (hw _ (List.mem_of_getElem? (i := 13) rfl))) (by decide) (t := (.array .double)) (t' := .int) (by decide) (by decide)))).other W9 (Or.inr (slot_ne (Or.inr (hw _ (List.mem_of_getElem? (i := 27) rfl))) (Or.inr (hw _ (List.mem_of_getElem? (i := 15) rfl))) (by decide) (t := (.array .double)) (t' := .double) (by decide) (by decide)))).other W15 (Or.inr (slot_ne (Or.inr (hw _ (List.mem_of_getElem? (i := 27) rfl))) (Or.inr (hw _ (List.mem_of_getElem? (i := 17) rfl))) (by decide) (t := (.array .double)) (t' := .double) (by decide) (by decide)))).other W21 (Or.inr (slot_ne (Or.inr (hw _ (List.mem_of_getElem? (i := 27) rfl))) (Or.inr (hw _ (List.mem_of_getElem? (i := 19) rfl))) (by decide) (t := (.array .double)) (t' := .int) (by decide) (by decide)))).other W27 (Or.inr (slot_ne (Or.inr (hw _ (List.mem_of_getElem? (i := 27) rfl))) (Or.inr (hw _ (List.mem_of_getElem? (i := 21) rfl))) (by decide) (t := (.array .double)) (t' := .boolean) (by decide) (by decide)))).other W33 (Or.inr (slot_ne (Or.inr (hw _ (List.mem_of_getElem? (i := 27) rfl))) (Or.inr (hw _ (List.mem_of_getElem? (i := 23) rfl))) (by decide) (t := (.array .double)) (t' := .double) (by decide) (by decide)))).other W39 (Or.inr (slot_ne (Or.inr (hw _ (List.mem_of_getElem? (i := 27) rfl))) (Or.inr (hw _ (List.mem_of_getElem? (i := 25) rfl))) (by decide) (t := (.array .double)) (t' := (.array .int)) (by decide) (by decide))))
  obtain ⟨T45, h45, X45, e45, W45, st45⟩ := putF X39 hx hZ hown (host := "") (Or.inl (hw _ (List.mem_of_getElem? (i := 26) rfl))) Via.refl e39 F44 E42 (Or.inr ⟨(hw _ (List.mem_of_getElem? (i := 27) rfl)), rfl, hnm⟩) (hw _ (List.mem_of_getElem? (i := 2) rfl)) (ty := (.array .double)) (by decide) rfl rfl (g := (mkF m 47 #[.val (.ref a0_), .val (.int i1), .val (.double d2), .second, .val (.double d3), .second, .val (.int i4), .val (.int (1 : Int32)), .val (.double d6), .second, .val (.ref o7), .val (.ref o8), .val (.ref o9), .val (.int i10), .val (.double d11), .second] [(.ref o8), (.ref a0_)])) rfl rfl (hb hby own_d1_47)
  refine own_st st45 ?_
  have Fw45 := F44.same W45
  have N45 := Fr.snoc X45 N39 G0
  have K46 : Keep h0 h45 [a0_] := K40.wr W45 (Or.inl (List.mem_of_getElem? (i := 0) rfl))
  show own_Run p e below s _ _ _ (T45.setTop (mkF m 50 #[.val (.ref a0_), .val (.int i1), .val (.double d2), .second, .val (.double d3), .second, .val (.int i4), .val (.int (1 : Int32)), .val (.double d6), .second, .val (.ref o7), .val (.ref o8), .val (.ref o9), .val (.int i10), .val (.double d11), .second] []))
  refine own_st (fun t k => XS.aloadN X45.here hx rfl (hb hby own_d1_50) rfl rfl k) ?_
  show own_Run p e below s _ _ _ (T45.setTop (mkF m 51 #[.val (.ref a0_), .val (.int i1), .val (.double d2), .second, .val (.double d3), .second, .val (.int i4), .val (.int (1 : Int32)), .val (.double d6), .second, .val (.ref o7), .val (.ref o8), .val (.ref o9), .val (.int i10), .val (.double d11), .second] [(.ref a0_)]))
  refine own_st (fun t k => XS.aload X45.here hx rfl (hb hby own_d1_51) rfl rfl k) ?_
  show own_Run p e below s _ _ _ (T45.setTop (mkF m 53 #[.val (.ref a0_), .val (.int i1), .val (.double d2), .second, .val (.double d3), .second, .val (.int i4), .val (.int (1 : Int32)), .val (.double d6), .second, .val (.ref o7), .val (.ref o8), .val (.ref o9), .val (.int i10), .val (.double d11), .second] [(.ref o9), (.ref a0_)]))
  have E48 := (E42.wr W45)
  have F49 : Fld Z _ a0_ "com/example/usurf/usurf/PageFarm" "distances" "[I" .null := D0 (Or.inr (hw _ (List.mem_of_getElem? (i := 29) rfl))) (ty := (.array .int)) (by decide)
  have F50 := ((((((((F49.other W3 (Or.inr (slot_ne (Or.inr (hw _ (List.mem_of_getElem? (i := 29) rfl))) (Or.inr (hw _ (List.mem_of_getElem? (i := 13) rfl))) (by decide) (t := (.array .int)) (t' := .int) (by decide) (by decide)))).other W9 (Or.inr (slot_ne (Or.inr (hw _ (List.mem_of_getElem? (i := 29) rfl))) (Or.inr (hw _ (List.mem_of_getElem? (i := 15) rfl))) (by decide) (t := (.array .int)) (t' := .double) (by decide) (by decide)))).other W15 (Or.inr (slot_ne (Or.inr (hw _ (List.mem_of_getElem? (i := 29) rfl))) (Or.inr (hw _ (List.mem_of_getElem? (i := 17) rfl))) (by decide) (t := (.array .int)) (t' := .double) (by decide) (by decide)))).other W21 (Or.inr (slot_ne (Or.inr (hw _ (List.mem_of_getElem? (i := 29) rfl))) (Or.inr (hw _ (List.mem_of_getElem? (i := 19) rfl))) (by decide) (t := (.array .int)) (t' := .int) (by decide) (by decide)))).other W27 (Or.inr (slot_ne (Or.inr (hw _ (List.mem_of_getElem? (i := 29) rfl))) (Or.inr (hw _ (List.mem_of_getElem? (i := 21) rfl))) (by decide) (t := (.array .int)) (t' := .boolean) (by decide) (by decide)))).other W33 (Or.inr (slot_ne (Or.inr (hw _ (List.mem_of_getElem? (i := 29) rfl))) (Or.inr (hw _ (List.mem_of_getElem? (i := 23) rfl))) (by decide) (t := (.array .int)) (t' := .double) (by decide) (by decide)))).other W39 (Or.inr (slot_ne (Or.inr (hw _ (List.mem_of_getElem? (i := 29) rfl))) (Or.inr (hw _ (List.mem_of_getElem? (i := 25) rfl))) (by decide) (t := (.array .int)) (t' := (.array .int)) (by decide) (by decide)))).other W45 (Or.inr (slot_ne (Or.inr (hw _ (List.mem_of_getElem? (i := 29) rfl))) (Or.inr (hw _ (List.mem_of_getElem? (i := 27) rfl))) (by decide) (t := (.array .int)) (t' := (.array .double)) (by decide) (by decide))))
  obtain ⟨T51, h51, X51, e51, W51, st51⟩ := putF X45 hx hZ hown (host := "") (Or.inl (hw _ (List.mem_of_getElem? (i := 28) rfl))) Via.refl e45 F50 E48 (Or.inr ⟨(hw _ (List.mem_of_getElem? (i := 29) rfl)), rfl, hnm⟩) (hw _ (List.mem_of_getElem? (i := 2) rfl)) (ty := (.array .int)) (by decide) rfl rfl (g := (mkF m 53 #[.val (.ref a0_), .val (.int i1), .val (.double d2), .second, .val (.double d3), .second, .val (.int i4), .val (.int (1 : Int32)), .val (.double d6), .second, .val (.ref o7), .val (.ref o8), .val (.ref o9), .val (.int i10), .val (.double d11), .second] [(.ref o9), (.ref a0_)])) rfl rfl (hb hby own_d1_53)
  refine own_st st51 ?_
  have Fw51 := F50.same W51
  have N51 := Fr.snoc X51 N45 G0
  have K52 : Keep h0 h51 [a0_] := K46.wr W51 (Or.inl (List.mem_of_getElem? (i := 0) rfl))
  show own_Run p e below s _ _ _ (T51.setTop (mkF m 56 #[.val (.ref a0_), .val (.int i1), .val (.double d2), .second, .val (.double d3), .second, .val (.int i4), .val (.int (1 : Int32)), .val (.double d6), .second, .val (.ref o7), .val (.ref o8), .val (.ref o9), .val (.int i10), .val (.double d11), .second] []))
  refine own_st (fun t k => XS.aloadN X51.here hx rfl (hb hby own_d1_56) rfl rfl k) ?_
  show own_Run p e below s _ _ _ (T51.setTop (mkF m 57 #[.val (.ref a0_), .val (.int i1), .val (.double d2), .second, .val (.double d3), .second, .val (.int i4), .val (.int (1 : Int32)), .val (.double d6), .second, .val (.ref o7), .val (.ref o8), .val (.ref o9), .val (.int i10), .val (.double d11), .second] [(.ref a0_)]))
  refine own_st (fun t k => XS.iload X51.here hx rfl (hb hby own_d1_57) rfl k) ?_
  show own_Run p e below s _ _ _ (T51.setTop (mkF m 59 #[.val (.ref a0_), .val (.int i1), .val (.double d2), .second, .val (.double d3), .second, .val (.int i4), .val (.int (1 : Int32)), .val (.double d6), .second, .val (.ref o7), .val (.ref o8), .val (.ref o9), .val (.int i10), .val (.double d11), .second] [(.int i10), (.ref a0_)]))
  have E54 := (E48.wr W51)
  have F55 : Fld Z _ a0_ "com/example/usurf/usurf/PageFarm" "links" "I" (.int (0 : Int32)) := D0 (Or.inr (hw _ (List.mem_of_getElem? (i := 31) rfl))) (ty := .int) (by decide)
  have F56 := (((((((((F55.other W3 (Or.inr (slot_ne (Or.inr (hw _ (List.mem_of_getElem? (i := 31) rfl))) (Or.inr (hw _ (List.mem_of_getElem? (i := 13) rfl))) (by decide) (t := .int) (t' := .int) (by decide) (by decide)))).other W9 (Or.inr (slot_ne (Or.inr (hw _ (List.mem_of_getElem? (i := 31) rfl))) (Or.inr (hw _ (List.mem_of_getElem? (i := 15) rfl))) (by decide) (t := .int) (t' := .double) (by decide) (by decide)))).other W15 (Or.inr (slot_ne (Or.inr (hw _ (List.mem_of_getElem? (i := 31) rfl))) (Or.inr (hw _ (List.mem_of_getElem? (i := 17) rfl))) (by decide) (t := .int) (t' := .double) (by decide) (by decide)))).other W21 (Or.inr (slot_ne (Or.inr (hw _ (List.mem_of_getElem? (i := 31) rfl))) (Or.inr (hw _ (List.mem_of_getElem? (i := 19) rfl))) (by decide) (t := .int) (t' := .int) (by decide) (by decide)))).other W27 (Or.inr (slot_ne (Or.inr (hw _ (List.mem_of_getElem? (i := 31) rfl))) (Or.inr (hw _ (List.mem_of_getElem? (i := 21) rfl))) (by decide) (t := .int) (t' := .boolean) (by decide) (by decide)))).other W33 (Or.inr (slot_ne (Or.inr (hw _ (List.mem_of_getElem? (i := 31) rfl))) (Or.inr (hw _ (List.mem_of_getElem? (i := 23) rfl))) (by decide) (t := .int) (t' := .double) (by decide) (by decide)))).other W39 (Or.inr (slot_ne (Or.inr (hw _ (List.mem_of_getElem? (i := 31) rfl))) (Or.inr (hw _ (List.mem_of_getElem? (i := 25) rfl))) (by decide) (t := .int) (t' := (.array .int)) (by decide) (by decide)))).other W45 (Or.inr (slot_ne (Or.inr (hw _ (List.mem_of_getElem? (i := 31) rfl))) (Or.inr (hw _ (List.mem_of_getElem? (i := 27) rfl))) (by decide) (t := .int) (t' := (.array .double)) (by decide) (by decide)))).other W51 (Or.inr (slot_ne (Or.inr (hw _ (List.mem_of_getElem? (i := 31) rfl))) (Or.inr (hw _ (List.mem_of_getElem? (i := 29) rfl))) (by decide) (t := .int) (t' := (.array .int)) (by decide) (by decide))))
  obtain ⟨T57, h57, X57, e57, W57, st57⟩ := putF X51 hx hZ hown (host := "") (Or.inl (hw _ (List.mem_of_getElem? (i := 30) rfl))) Via.refl e51 F56 E54 (Or.inr ⟨(hw _ (List.mem_of_getElem? (i := 31) rfl)), rfl, hnm⟩) (hw _ (List.mem_of_getElem? (i := 2) rfl)) (ty := .int) (by decide) rfl rfl (g := (mkF m 59 #[.val (.ref a0_), .val (.int i1), .val (.double d2), .second, .val (.double d3), .second, .val (.int i4), .val (.int (1 : Int32)), .val (.double d6), .second, .val (.ref o7), .val (.ref o8), .val (.ref o9), .val (.int i10), .val (.double d11), .second] [(.int i10), (.ref a0_)])) rfl rfl (hb hby own_d1_59)
  refine own_st st57 ?_
  have Fw57 := F56.same W57
  have N57 := Fr.snoc X57 N51 G0
  have K58 : Keep h0 h57 [a0_] := K52.wr W57 (Or.inl (List.mem_of_getElem? (i := 0) rfl))
  show own_Run p e below s _ _ _ (T57.setTop (mkF m 62 #[.val (.ref a0_), .val (.int i1), .val (.double d2), .second, .val (.double d3), .second, .val (.int i4), .val (.int (1 : Int32)), .val (.double d6), .second, .val (.ref o7), .val (.ref o8), .val (.ref o9), .val (.int i10), .val (.double d11), .second] []))
  refine own_st (fun t k => XS.aloadN X57.here hx rfl (hb hby own_d1_62) rfl rfl k) ?_
  show own_Run p e below s _ _ _ (T57.setTop (mkF m 63 #[.val (.ref a0_), .val (.int i1), .val (.double d2), .second, .val (.double d3), .second, .val (.int i4), .val (.int (1 : Int32)), .val (.double d6), .second, .val (.ref o7), .val (.ref o8), .val (.ref o9), .val (.int i10), .val (.double d11), .second] [(.ref a0_)]))
  refine own_st (fun t k => XS.dload X57.here hx rfl (hb hby own_d1_63) rfl k) ?_
  show own_Run p e below s _ _ _ (T57.setTop (mkF m 65 #[.val (.ref a0_), .val (.int i1), .val (.double d2), .second, .val (.double d3), .second, .val (.int i4), .val (.int (1 : Int32)), .val (.double d6), .second, .val (.ref o7), .val (.ref o8), .val (.ref o9), .val (.int i10), .val (.double d11), .second] [(.double d11), (.ref a0_)]))
  have E60 := (E54.wr W57)
  have F61 : Fld Z _ a0_ "com/example/usurf/usurf/PageFarm" "maxPageRank" "D" (.double (0 : UInt64)) := D0 (Or.inr (hw _ (List.mem_of_getElem? (i := 33) rfl))) (ty := .double) (by decide)
  have F62 := ((((((((((F61.other W3 (Or.inr (slot_ne (Or.inr (hw _ (List.mem_of_getElem? (i := 33) rfl))) (Or.inr (hw _ (List.mem_of_getElem? (i := 13) rfl))) (by decide) (t := .double) (t' := .int) (by decide) (by decide)))).other W9 (Or.inr (slot_ne (Or.inr (hw _ (List.mem_of_getElem? (i := 33) rfl))) (Or.inr (hw _ (List.mem_of_getElem? (i := 15) rfl))) (by decide) (t := .double) (t' := .double) (by decide) (by decide)))).other W15 (Or.inr (slot_ne (Or.inr (hw _ (List.mem_of_getElem? (i := 33) rfl))) (Or.inr (hw _ (List.mem_of_getElem? (i := 17) rfl))) (by decide) (t := .double) (t' := .double) (by decide) (by decide)))).other W21 (Or.inr (slot_ne (Or.inr (hw _ (List.mem_of_getElem? (i := 33) rfl))) (Or.inr (hw _ (List.mem_of_getElem? (i := 19) rfl))) (by decide) (t := .double) (t' := .int) (by decide) (by decide)))).other W27 (Or.inr (slot_ne (Or.inr (hw _ (List.mem_of_getElem? (i := 33) rfl))) (Or.inr (hw _ (List.mem_of_getElem? (i := 21) rfl))) (by decide) (t := .double) (t' := .boolean) (by decide) (by decide)))).other W33 (Or.inr (slot_ne (Or.inr (hw _ (List.mem_of_getElem? (i := 33) rfl))) (Or.inr (hw _ (List.mem_of_getElem? (i := 23) rfl))) (by decide) (t := .double) (t' := .double) (by decide) (by decide)))).other W39 (Or.inr (slot_ne (Or.inr (hw _ (List.mem_of_getElem? (i := 33) rfl))) (Or.inr (hw _ (List.mem_of_getElem? (i := 25) rfl))) (by decide) (t := .double) (t' := (.array .int)) (by decide) (by decide)))).other W45 (Or.inr (slot_ne (Or.inr (hw _ (List.mem_of_getElem? (i := 33) rfl))) (Or.inr (hw _ (List.mem_of_getElem? (i := 27) rfl))) (by decide) (t := .double) (t' := (.array .double)) (by decide) (by decide)))).other W51 (Or.inr (slot_ne (Or.inr (hw _ (List.mem_of_getElem? (i := 33) rfl))) (Or.inr (hw _ (List.mem_of_getElem? (i := 29) rfl))) (by decide) (t := .double) (t' := (.array .int)) (by decide) (by decide)))).other W57 (Or.inr (slot_ne (Or.inr (hw _ (List.mem_of_getElem? (i := 33) rfl))) (Or.inr (hw _ (List.mem_of_getElem? (i := 31) rfl))) (by decide) (t := .double) (t' := .int) (by decide) (by decide))))
  obtain ⟨T63, h63, X63, e63, W63, st63⟩ := putF X57 hx hZ hown (host := "") (Or.inl (hw _ (List.mem_of_getElem? (i := 32) rfl))) Via.refl e57 F62 E60 (Or.inr ⟨(hw _ (List.mem_of_getElem? (i := 33) rfl)), rfl, hnm⟩) (hw _ (List.mem_of_getElem? (i := 2) rfl)) (ty := .double) (by decide) rfl rfl (g := (mkF m 65 #[.val (.ref a0_), .val (.int i1), .val (.double d2), .second, .val (.double d3), .second, .val (.int i4), .val (.int (1 : Int32)), .val (.double d6), .second, .val (.ref o7), .val (.ref o8), .val (.ref o9), .val (.int i10), .val (.double d11), .second] [(.double d11), (.ref a0_)])) rfl rfl (hb hby own_d1_65)
  refine own_st st63 ?_
  have Fw63 := F62.same W63
  have N63 := Fr.snoc X63 N57 G0
  have K64 : Keep h0 h63 [a0_] := K58.wr W63 (Or.inl (List.mem_of_getElem? (i := 0) rfl))
  show own_Run p e below s _ _ _ (T63.setTop (mkF m 68 #[.val (.ref a0_), .val (.int i1), .val (.double d2), .second, .val (.double d3), .second, .val (.int i4), .val (.int (1 : Int32)), .val (.double d6), .second, .val (.ref o7), .val (.ref o8), .val (.ref o9), .val (.int i10), .val (.double d11), .second] []))
  have hQe := e63
  subst hQe
  have E66 := (E60.wr W63)
  have F67 := (((((((((Fw9.other W15 (Or.inr (slot_ne (Or.inr (hw _ (List.mem_of_getElem? (i := 15) rfl))) (Or.inr (hw _ (List.mem_of_getElem? (i := 17) rfl))) (by decide) (t := .double) (t' := .double) (by decide) (by decide)))).other W21 (Or.inr (slot_ne (Or.inr (hw _ (List.mem_of_getElem? (i := 15) rfl))) (Or.inr (hw _ (List.mem_of_getElem? (i := 19) rfl))) (by decide) (t := .double) (t' := .int) (by decide) (by decide)))).other W27 (Or.inr (slot_ne (Or.inr (hw _ (List.mem_of_getElem? (i := 15) rfl))) (Or.inr (hw _ (List.mem_of_getElem? (i := 21) rfl))) (by decide) (t := .double) (t' := .boolean) (by decide) (by decide)))).other W33 (Or.inr (slot_ne (Or.inr (hw _ (List.mem_of_getElem? (i := 15) rfl))) (Or.inr (hw _ (List.mem_of_getElem? (i := 23) rfl))) (by decide) (t := .double) (t' := .double) (by decide) (by decide)))).other W39 (Or.inr (slot_ne (Or.inr (hw _ (List.mem_of_getElem? (i := 15) rfl))) (Or.inr (hw _ (List.mem_of_getElem? (i := 25) rfl))) (by decide) (t := .double) (t' := (.array .int)) (by decide) (by decide)))).other W45 (Or.inr (slot_ne (Or.inr (hw _ (List.mem_of_getElem? (i := 15) rfl))) (Or.inr (hw _ (List.mem_of_getElem? (i := 27) rfl))) (by decide) (t := .double) (t' := (.array .double)) (by decide) (by decide)))).other W51 (Or.inr (slot_ne (Or.inr (hw _ (List.mem_of_getElem? (i := 15) rfl))) (Or.inr (hw _ (List.mem_of_getElem? (i := 29) rfl))) (by decide) (t := .double) (t' := (.array .int)) (by decide) (by decide)))).other W57 (Or.inr (slot_ne (Or.inr (hw _ (List.mem_of_getElem? (i := 15) rfl))) (Or.inr (hw _ (List.mem_of_getElem? (i := 31) rfl))) (by decide) (t := .double) (t' := .int) (by decide) (by decide)))).other W63 (Or.inr (slot_ne (Or.inr (hw _ (List.mem_of_getElem? (i := 15) rfl))) (Or.inr (hw _ (List.mem_of_getElem? (i := 33) rfl))) (by decide) (t := .double) (t' := .double) (by decide) (by decide))))
  have F68 := (((((Fw33.other W39 (Or.inr (slot_ne (Or.inr (hw _ (List.mem_of_getElem? (i := 23) rfl))) (Or.inr (hw _ (List.mem_of_getElem? (i := 25) rfl))) (by decide) (t := .double) (t' := (.array .int)) (by decide) (by decide)))).other W45 (Or.inr (slot_ne (Or.inr (hw _ (List.mem_of_getElem? (i := 23) rfl))) (Or.inr (hw _ (List.mem_of_getElem? (i := 27) rfl))) (by decide) (t := .double) (t' := (.array .double)) (by decide) (by decide)))).other W51 (Or.inr (slot_ne (Or.inr (hw _ (List.mem_of_getElem? (i := 23) rfl))) (Or.inr (hw _ (List.mem_of_getElem? (i := 29) rfl))) (by decide) (t := .double) (t' := (.array .int)) (by decide) (by decide)))).other W57 (Or.inr (slot_ne (Or.inr (hw _ (List.mem_of_getElem? (i := 23) rfl))) (Or.inr (hw _ (List.mem_of_getElem? (i := 31) rfl))) (by decide) (t := .double) (t' := .int) (by decide) (by decide)))).other W63 (Or.inr (slot_ne (Or.inr (hw _ (List.mem_of_getElem? (i := 23) rfl))) (Or.inr (hw _ (List.mem_of_getElem? (i := 33) rfl))) (by decide) (t := .double) (t' := .double) (by decide) (by decide))))
  exact own_retV X63 hx hlk hret (hb hby own_d1_68) (by decide) (by decide) ⟨rfl, N63, K64, E66, F67, F68, Fw63⟩
theorem own_d3_0 : decode prog_21_method_14_code 0 = .ok (.aload_n 0, 1) := by decide +kernel
theorem own_d3_1 : decode prog_21_method_14_code 1 = .ok (.getfield 27, 3) := by decide +kernel
theorem own_d3_4 : decode prog_21_method_14_code 4 = .ok (.aload_n 0, 1) := by decide +kernel
theorem own_d3_5 : decode prog_21_method_14_code 5 = .ok (.getfield 13, 3) := by decide +kernel
theorem own_d3_8 : decode prog_21_method_14_code 8 = .ok (.dmul, 1) := by decide +kernel
theorem own_d3_9 : decode prog_21_method_14_code 9 = .ok (.aload_n 0, 1) := by decide +kernel
theorem own_d3_10 : decode prog_21_method_14_code 10 = .ok (.getfield 44, 3) := by decide +kernel
theorem own_d3_13 : decode prog_21_method_14_code 13 = .ok (.ddiv, 1) := by decide +kernel
theorem own_d3_14 : decode prog_21_method_14_code 14 = .ok (.dreturn, 1) := by decide +kernel
set_option maxHeartbeats 4000000 in
theorem own_ef3 (m : MethodId) (x0 : Addr) : entryFrame m #[(.ref x0)] 1 = mkF m 0 #[.val (.ref x0)] [] := by first | (simp [entryFrame, mkF, argsToLocals, Value.category]; done) | rfl
def own_Q3 (Z : State) (a0 : Array Value) (o0 : Addr) (x0 : UInt64) (x1 : UInt64) (x2 : UInt64) (h0 : Heap) (n0 : Nat) (v : Option Value) (h : Heap) (L : List Loc) : Prop := v = some (.double (FP.ddiv (FP.dmul x0 x1) x2)) ∧ Fr n0 L ∧ h = h0
set_option maxRecDepth 65536 in
set_option maxHeartbeats 40000000 in
theorem own_rm3 (l : Launch) (Z : State) (a0 : Array Value) (hw : ∀ d ∈ tables_1, d.before a0 Z = true) (ws : List Jvm.Cond) (o0 : Addr) (x0 : UInt64) (x1 : UInt64) (x2 : UInt64) (h0 : Heap) (n0 : Nat) (Z0 : n0 ≤ h0.size) (F_c : Fld Z h0 o0 "com/example/usurf/usurf/PageFarm" "contribution" "D" (.double x0)) (F_p : Fld Z h0 o0 "com/example/usurf/usurf/PageFarm" "pagerank" "D" (.double x1)) (F_m : Fld Z h0 o0 "com/example/usurf/usurf/PageFarm" "maxPageRank" "D" (.double x2)) (pn0 : Jvm.Free.Fl.NoNaN64 (FP.dmul x0 x1)) (pn1 : Jvm.Free.Fl.NoNaN64 (FP.ddiv (FP.dmul x0 x1) x2)) :
    MetFree l (⟨"com/example/usurf/usurf/PageFarm", "spamicity", "()D"⟩ : MethodName) (head1 (Jvm.Cond.code (⟨"com/example/usurf/usurf/PageFarm", "spamicity", "()D"⟩ : MethodName) prog_21_method_14_code 1 (some .double) :: ws) ({ frames := 0, cells := 0, slots := 0, locals := 0 } : Room)) (fun a U => a = #[(.ref o0)] ∧ Z.Warmed39 U.vm ∧ U.heap = h0) (fun _ _ _ _ _ => True) (fun _ U o U' => ∃ v L, o = .returned v ∧ own_Q3 Z a0 o0 x0 x1 x2 h0 n0 v U'.heap L ∧ FrameEnd U o U' L ({ frames := 0, cells := 0, slots := 0, locals := 0 } : Room).cells ({ frames := 0, cells := 0, slots := 0, locals := 0 } : Room).slots) := by
  refine own_body (Q := fun v h L => own_Q3 Z a0 o0 x0 x1 x2 h0 n0 v h L) (plainFor_of_name own_pn0) ?_
  intro p e s m below meth c s₁ hx hby hml hZ hown hnm hret hlk X0 e0
  replace hml : c.maxLocals = 1 := hml
  have N0 := Fr.nil n0
  have K0 : Keep h0 h0 [] := Keep.refl _ _
  refine own_st (fun t k => castTop (own_ef3 m o0) k) ?_
  show own_Run p e below s _ _ _ (s₁.setTop (mkF m 0 #[.val (.ref o0)] []))
  refine own_st (fun t k => XS.aloadN X0.here hx rfl (hb hby own_d3_0) rfl rfl k) ?_
  show own_Run p e below s _ _ _ (s₁.setTop (mkF m 1 #[.val (.ref o0)] [(.ref o0)]))
  obtain ⟨T69, X69, e69, st69⟩ := getF X0 hx hZ hown (host := "") (Or.inl (hw _ (List.mem_of_getElem? (i := 22) rfl))) Via.refl e0 F_c (g := (mkF m 1 #[.val (.ref o0)] [(.ref o0)])) rfl rfl (hb hby own_d3_1)
  refine own_st st69 ?_
  show own_Run p e below s _ _ _ (T69.setTop (mkF m 4 #[.val (.ref o0)] [(.double x0)]))
  refine own_st (fun t k => XS.aloadN X69.here hx rfl (hb hby own_d3_4) rfl rfl k) ?_
  show own_Run p e below s _ _ _ (T69.setTop (mkF m 5 #[.val (.ref o0)] [(.ref o0), (.double x0)]))
  obtain ⟨T70, X70, e70, st70⟩ := getF X69 hx hZ hown (host := "") (Or.inl (hw _ (List.mem_of_getElem? (i := 14) rfl))) Via.refl e69 F_p (g := (mkF m 5 #[.val (.ref o0)] [(.ref o0), (.double x0)])) rfl rfl (hb hby own_d3_5)
  refine own_st st70 ?_
  show own_Run p e below s _ _ _ (T70.setTop (mkF m 8 #[.val (.ref o0)] [(.double x1), (.double x0)]))
  refine own_st (fun t k => XS.dmulS X70.here hx rfl (hb hby own_d3_8) rfl (pn0) (v := (FP.dmul x0 x1)) (rfl) k) ?_
  show own_Run p e below s _ _ _ (T70.setTop (mkF m 9 #[.val (.ref o0)] [(.double (FP.dmul x0 x1))]))
  refine own_st (fun t k => XS.aloadN X70.here hx rfl (hb hby own_d3_9) rfl rfl k) ?_
  show own_Run p e below s _ _ _ (T70.setTop (mkF m 10 #[.val (.ref o0)] [(.ref o0), (.double (FP.dmul x0 x1))]))
  obtain ⟨T71, X71, e71, st71⟩ := getF X70 hx hZ hown (host := "") (Or.inl (hw _ (List.mem_of_getElem? (i := 32) rfl))) Via.refl e70 F_m (g := (mkF m 10 #[.val (.ref o0)] [(.ref o0), (.double (FP.dmul x0 x1))])) rfl rfl (hb hby own_d3_10)
  refine own_st st71 ?_
  show own_Run p e below s _ _ _ (T71.setTop (mkF m 13 #[.val (.ref o0)] [(.double x2), (.double (FP.dmul x0 x1))]))
  refine own_st (fun t k => XS.ddivS X71.here hx rfl (hb hby own_d3_13) rfl (pn1) (v := (FP.ddiv (FP.dmul x0 x1) x2)) (rfl) k) ?_
  show own_Run p e below s _ _ _ (T71.setTop (mkF m 14 #[.val (.ref o0)] [(.double (FP.ddiv (FP.dmul x0 x1) x2))]))
  exact own_ret X71 hx hlk (t := .double) hret rfl (Or.inr (Or.inr (Or.inl ⟨rfl, rfl, _, rfl⟩))) (hb hby own_d3_14) (by decide) (by decide) ⟨rfl, N0, e71⟩
theorem own_pd1 : parseMethodDescriptor "(IDDIZD[I[D[IID)V" = some ⟨[.int, .double, .double, .int, .boolean, .double, (.array .int), (.array .double), (.array .int), .int, .double], none⟩ := by decide +kernel
theorem own_pd2 : parseMethodDescriptor "()D" = some ⟨[], some .double⟩ := by decide +kernel
set_option maxHeartbeats 4000000 in
theorem own_ef0 (m : MethodId) (x0 : Int32) (x1 : Int32) (x2 : Int32) (x3 : Int32) (x4 : Int32) (x5 : Int32) : entryFrame m #[(.int x0), (.int x1), (.int x2), (.int x3), (.int x4), (.int x5)] maxLocals = mkF m 0 #[.val (.int x0), .val (.int x1), .val (.int x2), .val (.int x3), .val (.int x4), .val (.int x5), .unset, .unset, .unset, .unset, .unset, .unset, .unset, .unset, .unset, .unset, .unset, .unset] [] := by first | (simp [entryFrame, mkF, argsToLocals, Value.category, maxLocals]; done) | rfl
theorem own_pn3 : plainName "com/example/usurf/usurf/PageFarmSpamicityPinLaw" = true := by first | (simp [plainName, overriddenIn]; done) | decide +kernel
def own_Q0 (Z : State) (a0 : Array Value) (i0 : Int32) (i1 : Int32) (i2 : Int32) (i3 : Int32) (i4 : Int32) (i5 : Int32) (h0 : Heap) (n0 : Nat) (v : Option Value) (h : Heap) (L : List Loc) : Prop := v = some (.int 1) ∧ Fr n0 L
set_option maxRecDepth 65536 in
set_option maxHeartbeats 40000000 in
theorem own_rm0 (l : Launch) (Z : State) (a0 : Array Value) (hw : ∀ d ∈ tables_1, d.before a0 Z = true) (ws : List Jvm.Cond) (i0 : Int32) (i1 : Int32) (i2 : Int32) (i3 : Int32) (i4 : Int32) (i5 : Int32) (h0 : Heap) (n0 : Nat) (Z0 : n0 ≤ h0.size) (O0 : Old Z n0 h0) :
    MetFree l x (head1 (Jvm.Cond.code x code maxLocals ret :: ws) room_1) (fun a U => a = #[(.int i0), (.int i1), (.int i2), (.int i3), (.int i4), (.int i5)] ∧ Z.Warmed39 U.vm ∧ U.heap = h0) (fun _ _ _ _ _ => True) (fun _ U o U' => ∃ v L, o = .returned v ∧ own_Q0 Z a0 i0 i1 i2 i3 i4 i5 h0 n0 v U'.heap L ∧ FrameEnd U o U' L room_1.cells room_1.slots) := by
  refine own_body (Q := fun v h L => own_Q0 Z a0 i0 i1 i2 i3 i4 i5 h0 n0 v h L) (plainFor_of_name own_pn3) ?_
  intro p e s m below meth c s₁ hx hby hml hZ hown hnm hret hlk X0 e0
  replace hml : c.maxLocals = 18 := hml
  replace hown : s.vm.findClass "com/example/usurf/usurf/PageFarmSpamicityPinLaw" = some m.cls := hown
  have N0 := Fr.nil n0
  have K0 : Keep h0 h0 [] := Keep.refl _ _
  refine own_st (fun t k => castTop (own_ef0 m i0 i1 i2 i3 i4 i5) k) ?_
  show own_Run p e below s _ _ _ (s₁.setTop (mkF m 0 #[.val (.int i0), .val (.int i1), .val (.int i2), .val (.int i3), .val (.int i4), .val (.int i5), .unset, .unset, .unset, .unset, .unset, .unset, .unset, .unset, .unset, .unset, .unset, .unset] []))
  refine own_st (fun t k => XS.iloadN X0.here hx rfl (hb hby at_0) rfl k) ?_
  show own_Run p e below s _ _ _ (s₁.setTop (mkF m 1 #[.val (.int i0), .val (.int i1), .val (.int i2), .val (.int i3), .val (.int i4), .val (.int i5), .unset, .unset, .unset, .unset, .unset, .unset, .unset, .unset, .unset, .unset, .unset, .unset] [(.int i1)]))
  refine own_st (fun t k => XS.sipush X0.here hx rfl (hb hby at_1) k) ?_
  show own_Run p e below s _ _ _ (s₁.setTop (mkF m 4 #[.val (.int i0), .val (.int i1), .val (.int i2), .val (.int i3), .val (.int i4), .val (.int i5), .unset, .unset, .unset, .unset, .unset, .unset, .unset, .unset, .unset, .unset, .unset, .unset] [(.int (1023 : Int32)), (.int i1)]))
  refine own_st (fun t k => XS.iand X0.here hx rfl (hb hby at_4) rfl k) ?_
  show own_Run p e below s _ _ _ (s₁.setTop (mkF m 5 #[.val (.int i0), .val (.int i1), .val (.int i2), .val (.int i3), .val (.int i4), .val (.int i5), .unset, .unset, .unset, .unset, .unset, .unset, .unset, .unset, .unset, .unset, .unset, .unset] [(.int (i1 &&& (1023 : Int32)))]))
  obtain ⟨ci, h_ci⟩ : ∃ z, ((i1 &&& (1023 : Int32)) : Int32) = z := ⟨_, rfl⟩
  refine own_topI h_ci ?_
  show own_Run p e below s _ _ _ (s₁.setTop (mkF m 5 #[.val (.int i0), .val (.int i1), .val (.int i2), .val (.int i3), .val (.int i4), .val (.int i5), .unset, .unset, .unset, .unset, .unset, .unset, .unset, .unset, .unset, .unset, .unset, .unset] [(.int ci)]))
  have r_ci : 0 ≤ ci.toInt ∧ ci.toInt ≤ 1023 := h_ci ▸ own_m10 i1
  refine own_st (fun t k => XS.istore X0.here hx rfl (hb hby at_5) rfl (l' := #[.val (.int i0), .val (.int i1), .val (.int i2), .val (.int i3), .val (.int i4), .val (.int i5), .val (.int ci), .unset, .unset, .unset, .unset, .unset, .unset, .unset, .unset, .unset, .unset, .unset]) rfl k) ?_
  show own_Run p e below s _ _ _ (s₁.setTop (mkF m 7 #[.val (.int i0), .val (.int i1), .val (.int i2), .val (.int i3), .val (.int i4), .val (.int i5), .val (.int ci), .unset, .unset, .unset, .unset, .unset, .unset, .unset, .unset, .unset, .unset, .unset] []))
  refine own_st (fun t k => XS.iloadN X0.here hx rfl (hb hby at_7) rfl k) ?_
  show own_Run p e below s _ _ _ (s₁.setTop (mkF m 8 #[.val (.int i0), .val (.int i1), .val (.int i2), .val (.int i3), .val (.int i4), .val (.int i5), .val (.int ci), .unset, .unset, .unset, .unset, .unset, .unset, .unset, .unset, .unset, .unset, .unset] [(.int i2)]))
  refine own_st (fun t k => XS.sipush X0.here hx rfl (hb hby at_8) k) ?_
  show own_Run p e below s _ _ _ (s₁.setTop (mkF m 11 #[.val (.int i0), .val (.int i1), .val (.int i2), .val (.int i3), .val (.int i4), .val (.int i5), .val (.int ci), .unset, .unset, .unset, .unset, .unset, .unset, .unset, .unset, .unset, .unset, .unset] [(.int (1023 : Int32)), (.int i2)]))
  refine own_st (fun t k => XS.iand X0.here hx rfl (hb hby at_11) rfl k) ?_
  show own_Run p e below s _ _ _ (s₁.setTop (mkF m 12 #[.val (.int i0), .val (.int i1), .val (.int i2), .val (.int i3), .val (.int i4), .val (.int i5), .val (.int ci), .unset, .unset, .unset, .unset, .unset, .unset, .unset, .unset, .unset, .unset, .unset] [(.int (i2 &&& (1023 : Int32)))]))
  obtain ⟨pi, h_pi⟩ : ∃ z, ((i2 &&& (1023 : Int32)) : Int32) = z := ⟨_, rfl⟩
  refine own_topI h_pi ?_
  show own_Run p e below s _ _ _ (s₁.setTop (mkF m 12 #[.val (.int i0), .val (.int i1), .val (.int i2), .val (.int i3), .val (.int i4), .val (.int i5), .val (.int ci), .unset, .unset, .unset, .unset, .unset, .unset, .unset, .unset, .unset, .unset, .unset] [(.int pi)]))
  have r_pi : 0 ≤ pi.toInt ∧ pi.toInt ≤ 1023 := h_pi ▸ own_m10 i2
  refine own_st (fun t k => XS.istore X0.here hx rfl (hb hby at_12) rfl (l' := #[.val (.int i0), .val (.int i1), .val (.int i2), .val (.int i3), .val (.int i4), .val (.int i5), .val (.int ci), .val (.int pi), .unset, .unset, .unset, .unset, .unset, .unset, .unset, .unset, .unset, .unset]) rfl k) ?_
  show own_Run p e below s _ _ _ (s₁.setTop (mkF m 14 #[.val (.int i0), .val (.int i1), .val (.int i2), .val (.int i3), .val (.int i4), .val (.int i5), .val (.int ci), .val (.int pi), .unset, .unset, .unset, .unset, .unset, .unset, .unset, .unset, .unset, .unset] []))
  refine own_st (fun t k => XS.iloadN X0.here hx rfl (hb hby at_14) rfl k) ?_
  show own_Run p e below s _ _ _ (s₁.setTop (mkF m 15 #[.val (.int i0), .val (.int i1), .val (.int i2), .val (.int i3), .val (.int i4), .val (.int i5), .val (.int ci), .val (.int pi), .unset, .unset, .unset, .unset, .unset, .unset, .unset, .unset, .unset, .unset] [(.int i3)]))
  refine own_st (fun t k => XS.sipush X0.here hx rfl (hb hby at_15) k) ?_
  show own_Run p e below s _ _ _ (s₁.setTop (mkF m 18 #[.val (.int i0), .val (.int i1), .val (.int i2), .val (.int i3), .val (.int i4), .val (.int i5), .val (.int ci), .val (.int pi), .unset, .unset, .unset, .unset, .unset, .unset, .unset, .unset, .unset, .unset] [(.int (1023 : Int32)), (.int i3)]))
  refine own_st (fun t k => XS.iand X0.here hx rfl (hb hby at_18) rfl k) ?_
  show own_Run p e below s _ _ _ (s₁.setTop (mkF m 19 #[.val (.int i0), .val (.int i1), .val (.int i2), .val (.int i3), .val (.int i4), .val (.int i5), .val (.int ci), .val (.int pi), .unset, .unset, .unset, .unset, .unset, .unset, .unset, .unset, .unset, .unset] [(.int (i3 &&& (1023 : Int32)))]))
  refine own_st (fun t k => XS.iconst X0.here hx rfl (hb hby at_19) k) ?_
  show own_Run p e below s _ _ _ (s₁.setTop (mkF m 20 #[.val (.int i0), .val (.int i1), .val (.int i2), .val (.int i3), .val (.int i4), .val (.int i5), .val (.int ci), .val (.int pi), .unset, .unset, .unset, .unset, .unset, .unset, .unset, .unset, .unset, .unset] [(.int (1 : Int32)), (.int (i3 &&& (1023 : Int32)))]))
  refine own_st (fun t k => XS.iadd X0.here hx rfl (hb hby at_20) rfl k) ?_
  show own_Run p e below s _ _ _ (s₁.setTop (mkF m 21 #[.val (.int i0), .val (.int i1), .val (.int i2), .val (.int i3), .val (.int i4), .val (.int i5), .val (.int ci), .val (.int pi), .unset, .unset, .unset, .unset, .unset, .unset, .unset, .unset, .unset, .unset] [(.int ((i3 &&& (1023 : Int32)) + (1 : Int32)))]))
  obtain ⟨mi, h_mi⟩ : ∃ z, (((i3 &&& (1023 : Int32)) + (1 : Int32)) : Int32) = z := ⟨_, rfl⟩
  refine own_topI h_mi ?_
  show own_Run p e below s _ _ _ (s₁.setTop (mkF m 21 #[.val (.int i0), .val (.int i1), .val (.int i2), .val (.int i3), .val (.int i4), .val (.int i5), .val (.int ci), .val (.int pi), .unset, .unset, .unset, .unset, .unset, .unset, .unset, .unset, .unset, .unset] [(.int mi)]))
  have r_mi : 1 ≤ mi.toInt ∧ mi.toInt ≤ 1024 := h_mi ▸ own_m11 i3
  obtain ⟨q0, q1, q2, q3, q4, q5, q6⟩ := own_spam r_ci r_pi r_mi
  refine own_st (fun t k => XS.istore X0.here hx rfl (hb hby at_21) rfl (l' := #[.val (.int i0), .val (.int i1), .val (.int i2), .val (.int i3), .val (.int i4), .val (.int i5), .val (.int ci), .val (.int pi), .val (.int mi), .unset, .unset, .unset, .unset, .unset, .unset, .unset, .unset, .unset]) rfl k) ?_
  show own_Run p e below s _ _ _ (s₁.setTop (mkF m 23 #[.val (.int i0), .val (.int i1), .val (.int i2), .val (.int i3), .val (.int i4), .val (.int i5), .val (.int ci), .val (.int pi), .val (.int mi), .unset, .unset, .unset, .unset, .unset, .unset, .unset, .unset, .unset] []))
  refine own_st (fun t k => XS.iload X0.here hx rfl (hb hby at_23) rfl k) ?_
  show own_Run p e below s _ _ _ (s₁.setTop (mkF m 25 #[.val (.int i0), .val (.int i1), .val (.int i2), .val (.int i3), .val (.int i4), .val (.int i5), .val (.int ci), .val (.int pi), .val (.int mi), .unset, .unset, .unset, .unset, .unset, .unset, .unset, .unset, .unset] [(.int ci)]))
  refine own_st (fun t k => XS.i2dS X0.here hx rfl (hb hby at_25) rfl (v := (FP.i2d ci)) (rfl) k) ?_
  show own_Run p e below s _ _ _ (s₁.setTop (mkF m 26 #[.val (.int i0), .val (.int i1), .val (.int i2), .val (.int i3), .val (.int i4), .val (.int i5), .val (.int ci), .val (.int pi), .val (.int mi), .unset, .unset, .unset, .unset, .unset, .unset, .unset, .unset, .unset] [(.double (FP.i2d ci))]))
  refine own_st (X0.ldc2DoubleC hx hown (mvT hZ (hw _ (List.mem_of_getElem? (i := 0) rfl))) (g := (mkF m 26 #[.val (.int i0), .val (.int i1), .val (.int i2), .val (.int i3), .val (.int i4), .val (.int i5), .val (.int ci), .val (.int pi), .val (.int mi), .unset, .unset, .unset, .unset, .unset, .unset, .unset, .unset, .unset] [(.double (FP.i2d ci))])) rfl (hb hby at_26)) ?_
  show own_Run p e below s _ _ _ (s₁.setTop (mkF m 29 #[.val (.int i0), .val (.int i1), .val (.int i2), .val (.int i3), .val (.int i4), .val (.int i5), .val (.int ci), .val (.int pi), .val (.int mi), .unset, .unset, .unset, .unset, .unset, .unset, .unset, .unset, .unset] [(.double (4652218415073722368 : UInt64)), (.double (FP.i2d ci))]))
  refine own_st (fun t k => XS.ddivS X0.here hx rfl (hb hby at_29) rfl (q0) (v := (FP.ddiv (FP.i2d ci) (4652218415073722368 : UInt64))) (rfl) k) ?_
  show own_Run p e below s _ _ _ (s₁.setTop (mkF m 30 #[.val (.int i0), .val (.int i1), .val (.int i2), .val (.int i3), .val (.int i4), .val (.int i5), .val (.int ci), .val (.int pi), .val (.int mi), .unset, .unset, .unset, .unset, .unset, .unset, .unset, .unset, .unset] [(.double (FP.ddiv (FP.i2d ci) (4652218415073722368 : UInt64)))]))
  refine own_st (fun t k => XS.dstore X0.here hx rfl (hb hby at_30) rfl (l' := #[.val (.int i0), .val (.int i1), .val (.int i2), .val (.int i3), .val (.int i4), .val (.int i5), .val (.int ci), .val (.int pi), .val (.int mi), .val (.double (FP.ddiv (FP.i2d ci) (4652218415073722368 : UInt64))), .second, .unset, .unset, .unset, .unset, .unset, .unset, .unset]) rfl k) ?_
  show own_Run p e below s _ _ _ (s₁.setTop (mkF m 32 #[.val (.int i0), .val (.int i1), .val (.int i2), .val (.int i3), .val (.int i4), .val (.int i5), .val (.int ci), .val (.int pi), .val (.int mi), .val (.double (FP.ddiv (FP.i2d ci) (4652218415073722368 : UInt64))), .second, .unset, .unset, .unset, .unset, .unset, .unset, .unset] []))
  refine own_st (fun t k => XS.iload X0.here hx rfl (hb hby at_32) rfl k) ?_
  show own_Run p e below s _ _ _ (s₁.setTop (mkF m 34 #[.val (.int i0), .val (.int i1), .val (.int i2), .val (.int i3), .val (.int i4), .val (.int i5), .val (.int ci), .val (.int pi), .val (.int mi), .val (.double (FP.ddiv (FP.i2d ci) (4652218415073722368 : UInt64))), .second, .unset, .unset, .unset, .unset, .unset, .unset, .unset] [(.int pi)]))
  refine own_st (fun t k => XS.i2dS X0.here hx rfl (hb hby at_34) rfl (v := (FP.i2d pi)) (rfl) k) ?_
  show own_Run p e below s _ _ _ (s₁.setTop (mkF m 35 #[.val (.int i0), .val (.int i1), .val (.int i2), .val (.int i3), .val (.int i4), .val (.int i5), .val (.int ci), .val (.int pi), .val (.int mi), .val (.double (FP.ddiv (FP.i2d ci) (4652218415073722368 : UInt64))), .second, .unset, .unset, .unset, .unset, .unset, .unset, .unset] [(.double (FP.i2d pi))]))
  refine own_st (X0.ldc2DoubleC hx hown (mvT hZ (hw _ (List.mem_of_getElem? (i := 0) rfl))) (g := (mkF m 35 #[.val (.int i0), .val (.int i1), .val (.int i2), .val (.int i3), .val (.int i4), .val (.int i5), .val (.int ci), .val (.int pi), .val (.int mi), .val (.double (FP.ddiv (FP.i2d ci) (4652218415073722368 : UInt64))), .second, .unset, .unset, .unset, .unset, .unset, .unset, .unset] [(.double (FP.i2d pi))])) rfl (hb hby at_35)) ?_
  show own_Run p e below s _ _ _ (s₁.setTop (mkF m 38 #[.val (.int i0), .val (.int i1), .val (.int i2), .val (.int i3), .val (.int i4), .val (.int i5), .val (.int ci), .val (.int pi), .val (.int mi), .val (.double (FP.ddiv (FP.i2d ci) (4652218415073722368 : UInt64))), .second, .unset, .unset, .unset, .unset, .unset, .unset, .unset] [(.double (4652218415073722368 : UInt64)), (.double (FP.i2d pi))]))
  refine own_st (fun t k => XS.ddivS X0.here hx rfl (hb hby at_38) rfl (q1) (v := (FP.ddiv (FP.i2d pi) (4652218415073722368 : UInt64))) (rfl) k) ?_
  show own_Run p e below s _ _ _ (s₁.setTop (mkF m 39 #[.val (.int i0), .val (.int i1), .val (.int i2), .val (.int i3), .val (.int i4), .val (.int i5), .val (.int ci), .val (.int pi), .val (.int mi), .val (.double (FP.ddiv (FP.i2d ci) (4652218415073722368 : UInt64))), .second, .unset, .unset, .unset, .unset, .unset, .unset, .unset] [(.double (FP.ddiv (FP.i2d pi) (4652218415073722368 : UInt64)))]))
  refine own_st (fun t k => XS.dstore X0.here hx rfl (hb hby at_39) rfl (l' := #[.val (.int i0), .val (.int i1), .val (.int i2), .val (.int i3), .val (.int i4), .val (.int i5), .val (.int ci), .val (.int pi), .val (.int mi), .val (.double (FP.ddiv (FP.i2d ci) (4652218415073722368 : UInt64))), .second, .val (.double (FP.ddiv (FP.i2d pi) (4652218415073722368 : UInt64))), .second, .unset, .unset, .unset, .unset, .unset]) rfl k) ?_
  show own_Run p e below s _ _ _ (s₁.setTop (mkF m 41 #[.val (.int i0), .val (.int i1), .val (.int i2), .val (.int i3), .val (.int i4), .val (.int i5), .val (.int ci), .val (.int pi), .val (.int mi), .val (.double (FP.ddiv (FP.i2d ci) (4652218415073722368 : UInt64))), .second, .val (.double (FP.ddiv (FP.i2d pi) (4652218415073722368 : UInt64))), .second, .unset, .unset, .unset, .unset, .unset] []))
  refine own_st (fun t k => XS.iload X0.here hx rfl (hb hby at_41) rfl k) ?_
  show own_Run p e below s _ _ _ (s₁.setTop (mkF m 43 #[.val (.int i0), .val (.int i1), .val (.int i2), .val (.int i3), .val (.int i4), .val (.int i5), .val (.int ci), .val (.int pi), .val (.int mi), .val (.double (FP.ddiv (FP.i2d ci) (4652218415073722368 : UInt64))), .second, .val (.double (FP.ddiv (FP.i2d pi) (4652218415073722368 : UInt64))), .second, .unset, .unset, .unset, .unset, .unset] [(.int mi)]))
  refine own_st (fun t k => XS.i2dS X0.here hx rfl (hb hby at_43) rfl (v := (FP.i2d mi)) (rfl) k) ?_
  show own_Run p e below s _ _ _ (s₁.setTop (mkF m 44 #[.val (.int i0), .val (.int i1), .val (.int i2), .val (.int i3), .val (.int i4), .val (.int i5), .val (.int ci), .val (.int pi), .val (.int mi), .val (.double (FP.ddiv (FP.i2d ci) (4652218415073722368 : UInt64))), .second, .val (.double (FP.ddiv (FP.i2d pi) (4652218415073722368 : UInt64))), .second, .unset, .unset, .unset, .unset, .unset] [(.double (FP.i2d mi))]))
  refine own_st (X0.ldc2DoubleC hx hown (mvT hZ (hw _ (List.mem_of_getElem? (i := 0) rfl))) (g := (mkF m 44 #[.val (.int i0), .val (.int i1), .val (.int i2), .val (.int i3), .val (.int i4), .val (.int i5), .val (.int ci), .val (.int pi), .val (.int mi), .val (.double (FP.ddiv (FP.i2d ci) (4652218415073722368 : UInt64))), .second, .val (.double (FP.ddiv (FP.i2d pi) (4652218415073722368 : UInt64))), .second, .unset, .unset, .unset, .unset, .unset] [(.double (FP.i2d mi))])) rfl (hb hby at_44)) ?_
  show own_Run p e below s _ _ _ (s₁.setTop (mkF m 47 #[.val (.int i0), .val (.int i1), .val (.int i2), .val (.int i3), .val (.int i4), .val (.int i5), .val (.int ci), .val (.int pi), .val (.int mi), .val (.double (FP.ddiv (FP.i2d ci) (4652218415073722368 : UInt64))), .second, .val (.double (FP.ddiv (FP.i2d pi) (4652218415073722368 : UInt64))), .second, .unset, .unset, .unset, .unset, .unset] [(.double (4652218415073722368 : UInt64)), (.double (FP.i2d mi))]))
  refine own_st (fun t k => XS.ddivS X0.here hx rfl (hb hby at_47) rfl (q2) (v := (FP.ddiv (FP.i2d mi) (4652218415073722368 : UInt64))) (rfl) k) ?_
  show own_Run p e below s _ _ _ (s₁.setTop (mkF m 48 #[.val (.int i0), .val (.int i1), .val (.int i2), .val (.int i3), .val (.int i4), .val (.int i5), .val (.int ci), .val (.int pi), .val (.int mi), .val (.double (FP.ddiv (FP.i2d ci) (4652218415073722368 : UInt64))), .second, .val (.double (FP.ddiv (FP.i2d pi) (4652218415073722368 : UInt64))), .second, .unset, .unset, .unset, .unset, .unset] [(.double (FP.ddiv (FP.i2d mi) (4652218415073722368 : UInt64)))]))
  refine own_st (fun t k => XS.dstore X0.here hx rfl (hb hby at_48) rfl (l' := #[.val (.int i0), .val (.int i1), .val (.int i2), .val (.int i3), .val (.int i4), .val (.int i5), .val (.int ci), .val (.int pi), .val (.int mi), .val (.double (FP.ddiv (FP.i2d ci) (4652218415073722368 : UInt64))), .second, .val (.double (FP.ddiv (FP.i2d pi) (4652218415073722368 : UInt64))), .second, .val (.double (FP.ddiv (FP.i2d mi) (4652218415073722368 : UInt64))), .second, .unset, .unset, .unset]) rfl k) ?_
  show own_Run p e below s _ _ _ (s₁.setTop (mkF m 50 #[.val (.int i0), .val (.int i1), .val (.int i2), .val (.int i3), .val (.int i4), .val (.int i5), .val (.int ci), .val (.int pi), .val (.int mi), .val (.double (FP.ddiv (FP.i2d ci) (4652218415073722368 : UInt64))), .second, .val (.double (FP.ddiv (FP.i2d pi) (4652218415073722368 : UInt64))), .second, .val (.double (FP.ddiv (FP.i2d mi) (4652218415073722368 : UInt64))), .second, .unset, .unset, .unset] []))
  obtain ⟨T72, h72, X72, e72, E72, A72, D72, -, st72⟩ := newO X0 hx hZ hown (hw _ (List.mem_of_getElem? (i := 1) rfl)) (hw _ (List.mem_of_getElem? (i := 2) rfl)) (hw _ (List.mem_of_getElem? (i := 3) rfl)) e0 (g := (mkF m 50 #[.val (.int i0), .val (.int i1), .val (.int i2), .val (.int i3), .val (.int i4), .val (.int i5), .val (.int ci), .val (.int pi), .val (.int mi), .val (.double (FP.ddiv (FP.i2d ci) (4652218415073722368 : UInt64))), .second, .val (.double (FP.ddiv (FP.i2d pi) (4652218415073722368 : UInt64))), .second, .val (.double (FP.ddiv (FP.i2d mi) (4652218415073722368 : UInt64))), .second, .unset, .unset, .unset] [])) rfl (hb hby at_50) (by decide) (by decide)
  obtain ⟨b72, g72⟩ : ∃ z, z = h0.size := ⟨_, rfl⟩
  rw [← g72] at A72 D72 st72
  have sz73 : h0.size ≤ b72 := Nat.le_trans K0.1 (Nat.le_of_eq g72.symm)
  have ge74 : n0 ≤ b72 := Nat.le_trans Z0 sz73
  refine own_st st72 ?_
  have K75 : Keep h0 h72 [] := K0.ext E72
  have O76 := O0.ext E72
  show own_Run p e below s _ _ _ (T72.setTop (mkF m 53 #[.val (.int i0), .val (.int i1), .val (.int i2), .val (.int i3), .val (.int i4), .val (.int i5), .val (.int ci), .val (.int pi), .val (.int mi), .val (.double (FP.ddiv (FP.i2d ci) (4652218415073722368 : UInt64))), .second, .val (.double (FP.ddiv (FP.i2d pi) (4652218415073722368 : UInt64))), .second, .val (.double (FP.ddiv (FP.i2d mi) (4652218415073722368 : UInt64))), .second, .unset, .unset, .unset] [(.ref b72)]))
  refine own_st (fun t k => XS.dup X72.here hx rfl (hb hby at_53) rfl rfl k) ?_
  show own_Run p e below s _ _ _ (T72.setTop (mkF m 54 #[.val (.int i0), .val (.int i1), .val (.int i2), .val (.int i3), .val (.int i4), .val (.int i5), .val (.int ci), .val (.int pi), .val (.int mi), .val (.double (FP.ddiv (FP.i2d ci) (4652218415073722368 : UInt64))), .second, .val (.double (FP.ddiv (FP.i2d pi) (4652218415073722368 : UInt64))), .second, .val (.double (FP.ddiv (FP.i2d mi) (4652218415073722368 : UInt64))), .second, .unset, .unset, .unset] [(.ref b72), (.ref b72)]))
  refine own_st (fun t k => XS.iloadN X72.here hx rfl (hb hby at_54) rfl k) ?_
  show own_Run p e below s _ _ _ (T72.setTop (mkF m 55 #[.val (.int i0), .val (.int i1), .val (.int i2), .val (.int i3), .val (.int i4), .val (.int i5), .val (.int ci), .val (.int pi), .val (.int mi), .val (.double (FP.ddiv (FP.i2d ci) (4652218415073722368 : UInt64))), .second, .val (.double (FP.ddiv (FP.i2d pi) (4652218415073722368 : UInt64))), .second, .val (.double (FP.ddiv (FP.i2d mi) (4652218415073722368 : UInt64))), .second, .unset, .unset, .unset] [(.int i0), (.ref b72), (.ref b72)]))
  refine own_st (fun t k => XS.dload X72.here hx rfl (hb hby at_55) rfl k) ?_
  show own_Run p e below s _ _ _ (T72.setTop (mkF m 57 #[.val (.int i0), .val (.int i1), .val (.int i2), .val (.int i3), .val (.int i4), .val (.int i5), .val (.int ci), .val (.int pi), .val (.int mi), .val (.double (FP.ddiv (FP.i2d ci) (4652218415073722368 : UInt64))), .second, .val (.double (FP.ddiv (FP.i2d pi) (4652218415073722368 : UInt64))), .second, .val (.double (FP.ddiv (FP.i2d mi) (4652218415073722368 : UInt64))), .second, .unset, .unset, .unset] [(.double (FP.ddiv (FP.i2d pi) (4652218415073722368 : UInt64))), (.int i0), (.ref b72), (.ref b72)]))
  refine own_st (fun t k => XS.dload X72.here hx rfl (hb hby at_57) rfl k) ?_
  show own_Run p e below s _ _ _ (T72.setTop (mkF m 59 #[.val (.int i0), .val (.int i1), .val (.int i2), .val (.int i3), .val (.int i4), .val (.int i5), .val (.int ci), .val (.int pi), .val (.int mi), .val (.double (FP.ddiv (FP.i2d ci) (4652218415073722368 : UInt64))), .second, .val (.double (FP.ddiv (FP.i2d pi) (4652218415073722368 : UInt64))), .second, .val (.double (FP.ddiv (FP.i2d mi) (4652218415073722368 : UInt64))), .second, .unset, .unset, .unset] [(.double (FP.ddiv (FP.i2d ci) (4652218415073722368 : UInt64))), (.double (FP.ddiv (FP.i2d pi) (4652218415073722368 : UInt64))), (.int i0), (.ref b72), (.ref b72)]))
  refine own_st (fun t k => XS.iload X72.here hx rfl (hb hby at_59) rfl k) ?_
  show own_Run p e below s _ _ _ (T72.setTop (mkF m 61 #[.val (.int i0), .val (.int i1), .val (.int i2), .val (.int i3), .val (.int i4), .val (.int i5), .val (.int ci), .val (.int pi), .val (.int mi), .val (.double (FP.ddiv (FP.i2d ci) (4652218415073722368 : UInt64))), .second, .val (.double (FP.ddiv (FP.i2d pi) (4652218415073722368 : UInt64))), .second, .val (.double (FP.ddiv (FP.i2d mi) (4652218415073722368 : UInt64))), .second, .unset, .unset, .unset] [(.int i4), (.double (FP.ddiv (FP.i2d ci) (4652218415073722368 : UInt64))), (.double (FP.ddiv (FP.i2d pi) (4652218415073722368 : UInt64))), (.int i0), (.ref b72), (.ref b72)]))
  refine own_st (fun t k => XS.iconst X72.here hx rfl (hb hby at_61) k) ?_
  show own_Run p e below s _ _ _ (T72.setTop (mkF m 62 #[.val (.int i0), .val (.int i1), .val (.int i2), .val (.int i3), .val (.int i4), .val (.int i5), .val (.int ci), .val (.int pi), .val (.int mi), .val (.double (FP.ddiv (FP.i2d ci) (4652218415073722368 : UInt64))), .second, .val (.double (FP.ddiv (FP.i2d pi) (4652218415073722368 : UInt64))), .second, .val (.double (FP.ddiv (FP.i2d mi) (4652218415073722368 : UInt64))), .second, .unset, .unset, .unset] [(.int (1 : Int32)), (.int i4), (.double (FP.ddiv (FP.i2d ci) (4652218415073722368 : UInt64))), (.double (FP.ddiv (FP.i2d pi) (4652218415073722368 : UInt64))), (.int i0), (.ref b72), (.ref b72)]))
  refine own_st (fun t k => XS.dload X72.here hx rfl (hb hby at_62) rfl k) ?_
  show own_Run p e below s _ _ _ (T72.setTop (mkF m 64 #[.val (.int i0), .val (.int i1), .val (.int i2), .val (.int i3), .val (.int i4), .val (.int i5), .val (.int ci), .val (.int pi), .val (.int mi), .val (.double (FP.ddiv (FP.i2d ci) (4652218415073722368 : UInt64))), .second, .val (.double (FP.ddiv (FP.i2d pi) (4652218415073722368 : UInt64))), .second, .val (.double (FP.ddiv (FP.i2d mi) (4652218415073722368 : UInt64))), .second, .unset, .unset, .unset] [(.double (FP.ddiv (FP.i2d ci) (4652218415073722368 : UInt64))), (.int (1 : Int32)), (.int i4), (.double (FP.ddiv (FP.i2d ci) (4652218415073722368 : UInt64))), (.double (FP.ddiv (FP.i2d pi) (4652218415073722368 : UInt64))), (.int i0), (.ref b72), (.ref b72)]))
  refine own_st (fun t k => XS.iconst X72.here hx rfl (hb hby at_64) k) ?_
  show own_Run p e below s _ _ _ (T72.setTop (mkF m 65 #[.val (.int i0), .val (.int i1), .val (.int i2), .val (.int i3), .val (.int i4), .val (.int i5), .val (.int ci), .val (.int pi), .val (.int mi), .val (.double (FP.ddiv (FP.i2d ci) (4652218415073722368 : UInt64))), .second, .val (.double (FP.ddiv (FP.i2d pi) (4652218415073722368 : UInt64))), .second, .val (.double (FP.ddiv (FP.i2d mi) (4652218415073722368 : UInt64))), .second, .unset, .unset, .unset] [(.int (0 : Int32)), (.double (FP.ddiv (FP.i2d ci) (4652218415073722368 : UInt64))), (.int (1 : Int32)), (.int i4), (.double (FP.ddiv (FP.i2d ci) (4652218415073722368 : UInt64))), (.double (FP.ddiv (FP.i2d pi) (4652218415073722368 : UInt64))), (.int i0), (.ref b72), (.ref b72)]))
  obtain ⟨T77, h77, k77, X77, e77, E77, A77, st77⟩ := newP X72 hx hZ (hw _ (List.mem_of_getElem? (i := 4) rfl)) e72 (g := (mkF m 65 #[.val (.int i0), .val (.int i1), .val (.int i2), .val (.int i3), .val (.int i4), .val (.int i5), .val (.int ci), .val (.int pi), .val (.int mi), .val (.double (FP.ddiv (FP.i2d ci) (4652218415073722368 : UInt64))), .second, .val (.double (FP.ddiv (FP.i2d pi) (4652218415073722368 : UInt64))), .second, .val (.double (FP.ddiv (FP.i2d mi) (4652218415073722368 : UInt64))), .second, .unset, .unset, .unset] [(.int (0 : Int32)), (.double (FP.ddiv (FP.i2d ci) (4652218415073722368 : UInt64))), (.int (1 : Int32)), (.int i4), (.double (FP.ddiv (FP.i2d ci) (4652218415073722368 : UInt64))), (.double (FP.ddiv (FP.i2d pi) (4652218415073722368 : UInt64))), (.int i0), (.ref b72), (.ref b72)])) rfl (hb hby at_65) rfl (by decide) (cap := 0) (by decide) (by decide) (by decide) (by decide)
  obtain ⟨b77, g77⟩ : ∃ z, z = h72.size := ⟨_, rfl⟩
  rw [← g77] at A77 st77
  have sz78 : h0.size ≤ b77 := Nat.le_trans K75.1 (Nat.le_of_eq g77.symm)
  have ge79 : n0 ≤ b77 := Nat.le_trans Z0 sz78
  refine own_st st77 ?_
  have V77 : Arv Z h77 b77 k77 .int (0 : Int32) [] (.int (0 : Int32)) := (Arv.new A77 (by decide))
  have K80 : Keep h0 h77 [] := K75.ext E77
  have O81 := O76.ext E77
  show own_Run p e below s _ _ _ (T77.setTop (mkF m 67 #[.val (.int i0), .val (.int i1), .val (.int i2), .val (.int i3), .val (.int i4), .val (.int i5), .val (.int ci), .val (.int pi), .val (.int mi), .val (.double (FP.ddiv (FP.i2d ci) (4652218415073722368 : UInt64))), .second, .val (.double (FP.ddiv (FP.i2d pi) (4652218415073722368 : UInt64))), .second, .val (.double (FP.ddiv (FP.i2d mi) (4652218415073722368 : UInt64))), .second, .unset, .unset, .unset] [(.ref b77), (.double (FP.ddiv (FP.i2d ci) (4652218415073722368 : UInt64))), (.int (1 : Int32)), (.int i4), (.double (FP.ddiv (FP.i2d ci) (4652218415073722368 : UInt64))), (.double (FP.ddiv (FP.i2d pi) (4652218415073722368 : UInt64))), (.int i0), (.ref b72), (.ref b72)]))
  refine own_st (fun t k => XS.iconst X77.here hx rfl (hb hby at_67) k) ?_
  show own_Run p e below s _ _ _ (T77.setTop (mkF m 68 #[.val (.int i0), .val (.int i1), .val (.int i2), .val (.int i3), .val (.int i4), .val (.int i5), .val (.int ci), .val (.int pi), .val (.int mi), .val (.double (FP.ddiv (FP.i2d ci) (4652218415073722368 : UInt64))), .second, .val (.double (FP.ddiv (FP.i2d pi) (4652218415073722368 : UInt64))), .second, .val (.double (FP.ddiv (FP.i2d mi) (4652218415073722368 : UInt64))), .second, .unset, .unset, .unset] [(.int (0 : Int32)), (.ref b77), (.double (FP.ddiv (FP.i2d ci) (4652218415073722368 : UInt64))), (.int (1 : Int32)), (.int i4), (.double (FP.ddiv (FP.i2d ci) (4652218415073722368 : UInt64))), (.double (FP.ddiv (FP.i2d pi) (4652218415073722368 : UInt64))), (.int i0), (.ref b72), (.ref b72)]))
  obtain ⟨T82, h82, k82, X82, e82, E82, A82, st82⟩ := newP X77 hx hZ (hw _ (List.mem_of_getElem? (i := 5) rfl)) e77 (g := (mkF m 68 #[.val (.int i0), .val (.int i1), .val (.int i2), .val (.int i3), .val (.int i4), .val (.int i5), .val (.int ci), .val (.int pi), .val (.int mi), .val (.double (FP.ddiv (FP.i2d ci) (4652218415073722368 : UInt64))), .second, .val (.double (FP.ddiv (FP.i2d pi) (4652218415073722368 : UInt64))), .second, .val (.double (FP.ddiv (FP.i2d mi) (4652218415073722368 : UInt64))), .second, .unset, .unset, .unset] [(.int (0 : Int32)), (.ref b77), (.double (FP.ddiv (FP.i2d ci) (4652218415073722368 : UInt64))), (.int (1 : Int32)), (.int i4), (.double (FP.ddiv (FP.i2d ci) (4652218415073722368 : UInt64))), (.double (FP.ddiv (FP.i2d pi) (4652218415073722368 : UInt64))), (.int i0), (.ref b72), (.ref b72)])) rfl (hb hby at_68) rfl (by decide) (cap := 0) (by decide) (by decide) (by decide) (by decide)
  obtain ⟨b82, g82⟩ : ∃ z, z = h77.size := ⟨_, rfl⟩
  rw [← g82] at A82 st82
  have sz83 : h0.size ≤ b82 := Nat.le_trans K80.1 (Nat.le_of_eq g82.symm)
  have ge84 : n0 ≤ b82 := Nat.le_trans Z0 sz83
  refine own_st st82 ?_
  have V82 : Arv Z h82 b82 k82 .double (0 : Int32) [] (.double (0 : UInt64)) := (Arv.new A82 (by decide))
  have K85 : Keep h0 h82 [] := K80.ext E82
  have O86 := O81.ext E82
  show own_Run p e below s _ _ _ (T82.setTop (mkF m 70 #[.val (.int i0), .val (.int i1), .val (.int i2), .val (.int i3), .val (.int i4), .val (.int i5), .val (.int ci), .val (.int pi), .val (.int mi), .val (.double (FP.ddiv (FP.i2d ci) (4652218415073722368 : UInt64))), .second, .val (.double (FP.ddiv (FP.i2d pi) (4652218415073722368 : UInt64))), .second, .val (.double (FP.ddiv (FP.i2d mi) (4652218415073722368 : UInt64))), .second, .unset, .unset, .unset] [(.ref b82), (.ref b77), (.double (FP.ddiv (FP.i2d ci) (4652218415073722368 : UInt64))), (.int (1 : Int32)), (.int i4), (.double (FP.ddiv (FP.i2d ci) (4652218415073722368 : UInt64))), (.double (FP.ddiv (FP.i2d pi) (4652218415073722368 : UInt64))), (.int i0), (.ref b72), (.ref b72)]))
  refine own_st (fun t k => XS.iconst X82.here hx rfl (hb hby at_70) k) ?_
  show own_Run p e below s _ _ _ (T82.setTop (mkF m 71 #[.val (.int i0), .val (.int i1), .val (.int i2), .val (.int i3), .val (.int i4), .val (.int i5), .val (.int ci), .val (.int pi), .val (.int mi), .val (.double (FP.ddiv (FP.i2d ci) (4652218415073722368 : UInt64))), .second, .val (.double (FP.ddiv (FP.i2d pi) (4652218415073722368 : UInt64))), .second, .val (.double (FP.ddiv (FP.i2d mi) (4652218415073722368 : UInt64))), .second, .unset, .unset, .unset] [(.int (0 : Int32)), (.ref b82), (.ref b77), (.double (FP.ddiv (FP.i2d ci) (4652218415073722368 : UInt64))), (.int (1 : Int32)), (.int i4), (.double (FP.ddiv (FP.i2d ci) (4652218415073722368 : UInt64))), (.double (FP.ddiv (FP.i2d pi) (4652218415073722368 : UInt64))), (.int i0), (.ref b72), (.ref b72)]))
  obtain ⟨T87, h87, k87, X87, e87, E87, A87, st87⟩ := newP X82 hx hZ (hw _ (List.mem_of_getElem? (i := 4) rfl)) e82 (g := (mkF m 71 #[.val (.int i0), .val (.int i1), .val (.int i2), .val (.int i3), .val (.int i4), .val (.int i5), .val (.int ci), .val (.int pi), .val (.int mi), .val (.double (FP.ddiv (FP.i2d ci) (4652218415073722368 : UInt64))), .second, .val (.double (FP.ddiv (FP.i2d pi) (4652218415073722368 : UInt64))), .second, .val (.double (FP.ddiv (FP.i2d mi) (4652218415073722368 : UInt64))), .second, .unset, .unset, .unset] [(.int (0 : Int32)), (.ref b82), (.ref b77), (.double (FP.ddiv (FP.i2d ci) (4652218415073722368 : UInt64))), (.int (1 : Int32)), (.int i4), (.double (FP.ddiv (FP.i2d ci) (4652218415073722368 : UInt64))), (.double (FP.ddiv (FP.i2d pi) (4652218415073722368 : UInt64))), (.int i0), (.ref b72), (.ref b72)])) rfl (hb hby at_71) rfl (by decide) (cap := 0) (by decide) (by decide) (by decide) (by decide)
  obtain ⟨b87, g87⟩ : ∃ z, z = h82.size := ⟨_, rfl⟩
  rw [← g87] at A87 st87
  have sz88 : h0.size ≤ b87 := Nat.le_trans K85.1 (Nat.le_of_eq g87.symm)
  have ge89 : n0 ≤ b87 := Nat.le_trans Z0 sz88
  refine own_st st87 ?_
  have V87 : Arv Z h87 b87 k87 .int (0 : Int32) [] (.int (0 : Int32)) := (Arv.new A87 (by decide))
  have K90 : Keep h0 h87 [] := K85.ext E87
  have O91 := O86.ext E87
  show own_Run p e below s _ _ _ (T87.setTop (mkF m 73 #[.val (.int i0), .val (.int i1), .val (.int i2), .val (.int i3), .val (.int i4), .val (.int i5), .val (.int ci), .val (.int pi), .val (.int mi), .val (.double (FP.ddiv (FP.i2d ci) (4652218415073722368 : UInt64))), .second, .val (.double (FP.ddiv (FP.i2d pi) (4652218415073722368 : UInt64))), .second, .val (.double (FP.ddiv (FP.i2d mi) (4652218415073722368 : UInt64))), .second, .unset, .unset, .unset] [(.ref b87), (.ref b82), (.ref b77), (.double (FP.ddiv (FP.i2d ci) (4652218415073722368 : UInt64))), (.int (1 : Int32)), (.int i4), (.double (FP.ddiv (FP.i2d ci) (4652218415073722368 : UInt64))), (.double (FP.ddiv (FP.i2d pi) (4652218415073722368 : UInt64))), (.int i0), (.ref b72), (.ref b72)]))
  refine own_st (fun t k => XS.iload X87.here hx rfl (hb hby at_73) rfl k) ?_
  show own_Run p e below s _ _ _ (T87.setTop (mkF m 75 #[.val (.int i0), .val (.int i1), .val (.int i2), .val (.int i3), .val (.int i4), .val (.int i5), .val (.int ci), .val (.int pi), .val (.int mi), .val (.double (FP.ddiv (FP.i2d ci) (4652218415073722368 : UInt64))), .second, .val (.double (FP.ddiv (FP.i2d pi) (4652218415073722368 : UInt64))), .second, .val (.double (FP.ddiv (FP.i2d mi) (4652218415073722368 : UInt64))), .second, .unset, .unset, .unset] [(.int i5), (.ref b87), (.ref b82), (.ref b77), (.double (FP.ddiv (FP.i2d ci) (4652218415073722368 : UInt64))), (.int (1 : Int32)), (.int i4), (.double (FP.ddiv (FP.i2d ci) (4652218415073722368 : UInt64))), (.double (FP.ddiv (FP.i2d pi) (4652218415073722368 : UInt64))), (.int i0), (.ref b72), (.ref b72)]))
  refine own_st (fun t k => XS.dload X87.here hx rfl (hb hby at_75) rfl k) ?_
  show own_Run p e below s _ _ _ (T87.setTop (mkF m 77 #[.val (.int i0), .val (.int i1), .val (.int i2), .val (.int i3), .val (.int i4), .val (.int i5), .val (.int ci), .val (.int pi), .val (.int mi), .val (.double (FP.ddiv (FP.i2d ci) (4652218415073722368 : UInt64))), .second, .val (.double (FP.ddiv (FP.i2d pi) (4652218415073722368 : UInt64))), .second, .val (.double (FP.ddiv (FP.i2d mi) (4652218415073722368 : UInt64))), .second, .unset, .unset, .unset] [(.double (FP.ddiv (FP.i2d mi) (4652218415073722368 : UInt64))), (.int i5), (.ref b87), (.ref b82), (.ref b77), (.double (FP.ddiv (FP.i2d ci) (4652218415073722368 : UInt64))), (.int (1 : Int32)), (.int i4), (.double (FP.ddiv (FP.i2d ci) (4652218415073722368 : UInt64))), (.double (FP.ddiv (FP.i2d pi) (4652218415073722368 : UInt64))), (.int i0), (.ref b72), (.ref b72)]))
  have E92 := (((A72.ext E77).ext E82).ext E87)
  refine own_callI X87 hx hZ (y := (⟨"com/example/usurf/usurf/PageFarm", "<init>", "(IDDIZD[I[D[IID)V"⟩ : MethodName)) rfl hown (hw _ (List.mem_of_getElem? (i := 6) rfl)) (hw _ (List.mem_of_getElem? (i := 7) rfl)) (hw _ (List.mem_of_getElem? (i := 8) rfl)) (hw _ (List.mem_of_getElem? (i := 3) rfl)) (by decide) e87 (a := b72) (argsL := [(.int i0), (.double (FP.ddiv (FP.i2d pi) (4652218415073722368 : UInt64))), (.double (FP.ddiv (FP.i2d ci) (4652218415073722368 : UInt64))), (.int i4), (.int (1 : Int32)), (.double (FP.ddiv (FP.i2d ci) (4652218415073722368 : UInt64))), (.ref b77), (.ref b82), (.ref b87), (.int i5), (.double (FP.ddiv (FP.i2d mi) (4652218415073722368 : UInt64)))]) (rest := [(.ref b72)]) (W := 1) (own_rm1 l Z a0 hw [] b72 i0 (FP.ddiv (FP.i2d pi) (4652218415073722368 : UInt64)) (FP.ddiv (FP.i2d ci) (4652218415073722368 : UInt64)) i4 (FP.ddiv (FP.i2d ci) (4652218415073722368 : UInt64)) b77 b82 b87 i5 (FP.ddiv (FP.i2d mi) (4652218415073722368 : UInt64)) h87 n0 (Nat.le_trans Z0 K90.1) E92 (fun {_ _ _ _} hL ht => ((((D72 hL ht).ext E77).ext E82).ext E87)) ge74) (by decide) (by decide) (by rw [hml]; rfl) (lenOf own_pd1 rfl) rfl (by exact Nat.le_of_eq rfl) (hb hby at_77) (by decide) (by decide) ?_
  intro T93 v93 L93 X93 hq93
  obtain ⟨rfl, N93q, K93q, Q94, Q95, Q96, Q97⟩ := hq93
  have K98 : Keep h0 T93.heap [] := K90.trans K93q (allS (Or.inr sz73) all0)
  have O99 := O91.keep K93q (allS ge74 all0)
  have N93 := Fr.app N0 N93q
  show own_Run p e below s _ _ _ (T93.setTop (mkF m 80 #[.val (.int i0), .val (.int i1), .val (.int i2), .val (.int i3), .val (.int i4), .val (.int i5), .val (.int ci), .val (.int pi), .val (.int mi), .val (.double (FP.ddiv (FP.i2d ci) (4652218415073722368 : UInt64))), .second, .val (.double (FP.ddiv (FP.i2d pi) (4652218415073722368 : UInt64))), .second, .val (.double (FP.ddiv (FP.i2d mi) (4652218415073722368 : UInt64))), .second, .unset, .unset, .unset] [(.ref b72)]))
  refine own_st (fun t k => XS.astore X93.here hx rfl (hb hby at_80) rfl rfl (l' := #[.val (.int i0), .val (.int i1), .val (.int i2), .val (.int i3), .val (.int i4), .val (.int i5), .val (.int ci), .val (.int pi), .val (.int mi), .val (.double (FP.ddiv (FP.i2d ci) (4652218415073722368 : UInt64))), .second, .val (.double (FP.ddiv (FP.i2d pi) (4652218415073722368 : UInt64))), .second, .val (.double (FP.ddiv (FP.i2d mi) (4652218415073722368 : UInt64))), .second, .val (.ref b72), .unset, .unset]) rfl k) ?_
  show own_Run p e below s _ _ _ (T93.setTop (mkF m 82 #[.val (.int i0), .val (.int i1), .val (.int i2), .val (.int i3), .val (.int i4), .val (.int i5), .val (.int ci), .val (.int pi), .val (.int mi), .val (.double (FP.ddiv (FP.i2d ci) (4652218415073722368 : UInt64))), .second, .val (.double (FP.ddiv (FP.i2d pi) (4652218415073722368 : UInt64))), .second, .val (.double (FP.ddiv (FP.i2d mi) (4652218415073722368 : UInt64))), .second, .val (.ref b72), .unset, .unset] []))
  refine own_st (fun t k => XS.iload X93.here hx rfl (hb hby at_82) rfl k) ?_
  show own_Run p e below s _ _ _ (T93.setTop (mkF m 84 #[.val (.int i0), .val (.int i1), .val (.int i2), .val (.int i3), .val (.int i4), .val (.int i5), .val (.int ci), .val (.int pi), .val (.int mi), .val (.double (FP.ddiv (FP.i2d ci) (4652218415073722368 : UInt64))), .second, .val (.double (FP.ddiv (FP.i2d pi) (4652218415073722368 : UInt64))), .second, .val (.double (FP.ddiv (FP.i2d mi) (4652218415073722368 : UInt64))), .second, .val (.ref b72), .unset, .unset] [(.int ci)]))
  refine own_st (fun t k => XS.iload X93.here hx rfl (hb hby at_84) rfl k) ?_
  show own_Run p e below s _ _ _ (T93.setTop (mkF m 86 #[.val (.int i0), .val (.int i1), .val (.int i2), .val (.int i3), .val (.int i4), .val (.int i5), .val (.int ci), .val (.int pi), .val (.int mi), .val (.double (FP.ddiv (FP.i2d ci) (4652218415073722368 : UInt64))), .second, .val (.double (FP.ddiv (FP.i2d pi) (4652218415073722368 : UInt64))), .second, .val (.double (FP.ddiv (FP.i2d mi) (4652218415073722368 : UInt64))), .second, .val (.ref b72), .unset, .unset] [(.int pi), (.int ci)]))
  refine own_st (fun t k => XS.imul X93.here hx rfl (hb hby at_86) rfl k) ?_
  show own_Run p e below s _ _ _ (T93.setTop (mkF m 87 #[.val (.int i0), .val (.int i1), .val (.int i2), .val (.int i3), .val (.int i4), .val (.int i5), .val (.int ci), .val (.int pi), .val (.int mi), .val (.double (FP.ddiv (FP.i2d ci) (4652218415073722368 : UInt64))), .second, .val (.double (FP.ddiv (FP.i2d pi) (4652218415073722368 : UInt64))), .second, .val (.double (FP.ddiv (FP.i2d mi) (4652218415073722368 : UInt64))), .second, .val (.ref b72), .unset, .unset] [(.int (ci * pi))]))
  refine own_st (fun t k => XS.i2dS X93.here hx rfl (hb hby at_87) rfl (v := (FP.i2d (ci * pi))) (rfl) k) ?_
  show own_Run p e below s _ _ _ (T93.setTop (mkF m 88 #[.val (.int i0), .val (.int i1), .val (.int i2), .val (.int i3), .val (.int i4), .val (.int i5), .val (.int ci), .val (.int pi), .val (.int mi), .val (.double (FP.ddiv (FP.i2d ci) (4652218415073722368 : UInt64))), .second, .val (.double (FP.ddiv (FP.i2d pi) (4652218415073722368 : UInt64))), .second, .val (.double (FP.ddiv (FP.i2d mi) (4652218415073722368 : UInt64))), .second, .val (.ref b72), .unset, .unset] [(.double (FP.i2d (ci * pi)))]))
  refine own_st (fun t k => XS.sipush X93.here hx rfl (hb hby at_88) k) ?_
  show own_Run p e below s _ _ _ (T93.setTop (mkF m 91 #[.val (.int i0), .val (.int i1), .val (.int i2), .val (.int i3), .val (.int i4), .val (.int i5), .val (.int ci), .val (.int pi), .val (.int mi), .val (.double (FP.ddiv (FP.i2d ci) (4652218415073722368 : UInt64))), .second, .val (.double (FP.ddiv (FP.i2d pi) (4652218415073722368 : UInt64))), .second, .val (.double (FP.ddiv (FP.i2d mi) (4652218415073722368 : UInt64))), .second, .val (.ref b72), .unset, .unset] [(.int (1024 : Int32)), (.double (FP.i2d (ci * pi)))]))
  refine own_st (fun t k => XS.iload X93.here hx rfl (hb hby at_91) rfl k) ?_
  show own_Run p e below s _ _ _ (T93.setTop (mkF m 93 #[.val (.int i0), .val (.int i1), .val (.int i2), .val (.int i3), .val (.int i4), .val (.int i5), .val (.int ci), .val (.int pi), .val (.int mi), .val (.double (FP.ddiv (FP.i2d ci) (4652218415073722368 : UInt64))), .second, .val (.double (FP.ddiv (FP.i2d pi) (4652218415073722368 : UInt64))), .second, .val (.double (FP.ddiv (FP.i2d mi) (4652218415073722368 : UInt64))), .second, .val (.ref b72), .unset, .unset] [(.int mi), (.int (1024 : Int32)), (.double (FP.i2d (ci * pi)))]))
  refine own_st (fun t k => XS.imul X93.here hx rfl (hb hby at_93) rfl k) ?_
  show own_Run p e below s _ _ _ (T93.setTop (mkF m 94 #[.val (.int i0), .val (.int i1), .val (.int i2), .val (.int i3), .val (.int i4), .val (.int i5), .val (.int ci), .val (.int pi), .val (.int mi), .val (.double (FP.ddiv (FP.i2d ci) (4652218415073722368 : UInt64))), .second, .val (.double (FP.ddiv (FP.i2d pi) (4652218415073722368 : UInt64))), .second, .val (.double (FP.ddiv (FP.i2d mi) (4652218415073722368 : UInt64))), .second, .val (.ref b72), .unset, .unset] [(.int ((1024 : Int32) * mi)), (.double (FP.i2d (ci * pi)))]))
  refine own_st (fun t k => XS.i2dS X93.here hx rfl (hb hby at_94) rfl (v := (FP.i2d ((1024 : Int32) * mi))) (rfl) k) ?_
  show own_Run p e below s _ _ _ (T93.setTop (mkF m 95 #[.val (.int i0), .val (.int i1), .val (.int i2), .val (.int i3), .val (.int i4), .val (.int i5), .val (.int ci), .val (.int pi), .val (.int mi), .val (.double (FP.ddiv (FP.i2d ci) (4652218415073722368 : UInt64))), .second, .val (.double (FP.ddiv (FP.i2d pi) (4652218415073722368 : UInt64))), .second, .val (.double (FP.ddiv (FP.i2d mi) (4652218415073722368 : UInt64))), .second, .val (.ref b72), .unset, .unset] [(.double (FP.i2d ((1024 : Int32) * mi))), (.double (FP.i2d (ci * pi)))]))
  refine own_st (fun t k => XS.ddivS X93.here hx rfl (hb hby at_95) rfl (q5) (v := (FP.ddiv (FP.i2d (ci * pi)) (FP.i2d ((1024 : Int32) * mi)))) (rfl) k) ?_
  show own_Run p e below s _ _ _ (T93.setTop (mkF m 96 #[.val (.int i0), .val (.int i1), .val (.int i2), .val (.int i3), .val (.int i4), .val (.int i5), .val (.int ci), .val (.int pi), .val (.int mi), .val (.double (FP.ddiv (FP.i2d ci) (4652218415073722368 : UInt64))), .second, .val (.double (FP.ddiv (FP.i2d pi) (4652218415073722368 : UInt64))), .second, .val (.double (FP.ddiv (FP.i2d mi) (4652218415073722368 : UInt64))), .second, .val (.ref b72), .unset, .unset] [(.double (FP.ddiv (FP.i2d (ci * pi)) (FP.i2d ((1024 : Int32) * mi))))]))
  refine own_st (fun t k => XS.dstore X93.here hx rfl (hb hby at_96) rfl (l' := #[.val (.int i0), .val (.int i1), .val (.int i2), .val (.int i3), .val (.int i4), .val (.int i5), .val (.int ci), .val (.int pi), .val (.int mi), .val (.double (FP.ddiv (FP.i2d ci) (4652218415073722368 : UInt64))), .second, .val (.double (FP.ddiv (FP.i2d pi) (4652218415073722368 : UInt64))), .second, .val (.double (FP.ddiv (FP.i2d mi) (4652218415073722368 : UInt64))), .second, .val (.ref b72), .val (.double (FP.ddiv (FP.i2d (ci * pi)) (FP.i2d ((1024 : Int32) * mi)))), .second]) rfl k) ?_
  show own_Run p e below s _ _ _ (T93.setTop (mkF m 98 #[.val (.int i0), .val (.int i1), .val (.int i2), .val (.int i3), .val (.int i4), .val (.int i5), .val (.int ci), .val (.int pi), .val (.int mi), .val (.double (FP.ddiv (FP.i2d ci) (4652218415073722368 : UInt64))), .second, .val (.double (FP.ddiv (FP.i2d pi) (4652218415073722368 : UInt64))), .second, .val (.double (FP.ddiv (FP.i2d mi) (4652218415073722368 : UInt64))), .second, .val (.ref b72), .val (.double (FP.ddiv (FP.i2d (ci * pi)) (FP.i2d ((1024 : Int32) * mi)))), .second] []))
  refine own_st (fun t k => XS.aload X93.here hx rfl (hb hby at_98) rfl rfl k) ?_
  show own_Run p e below s _ _ _ (T93.setTop (mkF m 100 #[.val (.int i0), .val (.int i1), .val (.int i2), .val (.int i3), .val (.int i4), .val (.int i5), .val (.int ci), .val (.int pi), .val (.int mi), .val (.double (FP.ddiv (FP.i2d ci) (4652218415073722368 : UInt64))), .second, .val (.double (FP.ddiv (FP.i2d pi) (4652218415073722368 : UInt64))), .second, .val (.double (FP.ddiv (FP.i2d mi) (4652218415073722368 : UInt64))), .second, .val (.ref b72), .val (.double (FP.ddiv (FP.i2d (ci * pi)) (FP.i2d ((1024 : Int32) * mi)))), .second] [(.ref b72)]))
  refine own_callV X93 hx hZ (y := (⟨"com/example/usurf/usurf/PageFarm", "spamicity", "()D"⟩ : MethodName)) (C := "com/example/usurf/usurf/PageFarm") hown (hw _ (List.mem_of_getElem? (i := 34) rfl)) (hw _ (List.mem_of_getElem? (i := 35) rfl)) (hw _ (List.mem_of_getElem? (i := 37) rfl)) (hw _ (List.mem_of_getElem? (i := 36) rfl)) (hw _ (List.mem_of_getElem? (i := 38) rfl)) (hw _ (List.mem_of_getElem? (i := 3) rfl)) (by decide) rfl (a := b72) Q94 (argsL := []) (rest := []) (W := 0) (own_rm3 l Z a0 hw [] b72 (FP.ddiv (FP.i2d ci) (4652218415073722368 : UInt64)) (FP.ddiv (FP.i2d pi) (4652218415073722368 : UInt64)) (FP.ddiv (FP.i2d mi) (4652218415073722368 : UInt64)) T93.heap n0 (Nat.le_trans Z0 K98.1) Q96 Q95 Q97 (q3) (q4)) (by decide) (by decide) (by rw [hml]; rfl) (lenOf own_pd2 rfl) rfl (by exact Nat.le_of_eq rfl) (hb hby at_100) (by decide) (by decide) ?_
  intro T100 v100 L100 X100 hq100
  obtain ⟨rfl, N100q, hh100⟩ := hq100
  have N100 := Fr.app N93 N100q
  show own_Run p e below s _ _ _ (T100.setTop (mkF m 103 #[.val (.int i0), .val (.int i1), .val (.int i2), .val (.int i3), .val (.int i4), .val (.int i5), .val (.int ci), .val (.int pi), .val (.int mi), .val (.double (FP.ddiv (FP.i2d ci) (4652218415073722368 : UInt64))), .second, .val (.double (FP.ddiv (FP.i2d pi) (4652218415073722368 : UInt64))), .second, .val (.double (FP.ddiv (FP.i2d mi) (4652218415073722368 : UInt64))), .second, .val (.ref b72), .val (.double (FP.ddiv (FP.i2d (ci * pi)) (FP.i2d ((1024 : Int32) * mi)))), .second] [(.double (FP.ddiv (FP.dmul (FP.ddiv (FP.i2d ci) (4652218415073722368 : UInt64)) (FP.ddiv (FP.i2d pi) (4652218415073722368 : UInt64))) (FP.ddiv (FP.i2d mi) (4652218415073722368 : UInt64))))]))
  refine own_st (fun t k => XS.dload X100.here hx rfl (hb hby at_103) rfl k) ?_
  show own_Run p e below s _ _ _ (T100.setTop (mkF m 105 #[.val (.int i0), .val (.int i1), .val (.int i2), .val (.int i3), .val (.int i4), .val (.int i5), .val (.int ci), .val (.int pi), .val (.int mi), .val (.double (FP.ddiv (FP.i2d ci) (4652218415073722368 : UInt64))), .second, .val (.double (FP.ddiv (FP.i2d pi) (4652218415073722368 : UInt64))), .second, .val (.double (FP.ddiv (FP.i2d mi) (4652218415073722368 : UInt64))), .second, .val (.ref b72), .val (.double (FP.ddiv (FP.i2d (ci * pi)) (FP.i2d ((1024 : Int32) * mi)))), .second] [(.double (FP.ddiv (FP.i2d (ci * pi)) (FP.i2d ((1024 : Int32) * mi)))), (.double (FP.ddiv (FP.dmul (FP.ddiv (FP.i2d ci) (4652218415073722368 : UInt64)) (FP.ddiv (FP.i2d pi) (4652218415073722368 : UInt64))) (FP.ddiv (FP.i2d mi) (4652218415073722368 : UInt64))))]))
  refine own_st (fun t k => XS.dcmpS X100.here hx rfl (hb hby at_105) rfl (v := (0 : Int32)) (q6 _) k) ?_
  show own_Run p e below s _ _ _ (T100.setTop (mkF m 106 #[.val (.int i0), .val (.int i1), .val (.int i2), .val (.int i3), .val (.int i4), .val (.int i5), .val (.int ci), .val (.int pi), .val (.int mi), .val (.double (FP.ddiv (FP.i2d ci) (4652218415073722368 : UInt64))), .second, .val (.double (FP.ddiv (FP.i2d pi) (4652218415073722368 : UInt64))), .second, .val (.double (FP.ddiv (FP.i2d mi) (4652218415073722368 : UInt64))), .second, .val (.ref b72), .val (.double (FP.ddiv (FP.i2d (ci * pi)) (FP.i2d ((1024 : Int32) * mi)))), .second] [(.int (0 : Int32))]))
  refine own_st (fun t k => XS.ifNo X100.here hx rfl (hb hby at_106) rfl ((if0 _ _).trans (teq (by decide : (0 : Int32) = (0 : Int32))).2) k) ?_
  show own_Run p e below s _ _ _ (T100.setTop (mkF m 109 #[.val (.int i0), .val (.int i1), .val (.int i2), .val (.int i3), .val (.int i4), .val (.int i5), .val (.int ci), .val (.int pi), .val (.int mi), .val (.double (FP.ddiv (FP.i2d ci) (4652218415073722368 : UInt64))), .second, .val (.double (FP.ddiv (FP.i2d pi) (4652218415073722368 : UInt64))), .second, .val (.double (FP.ddiv (FP.i2d mi) (4652218415073722368 : UInt64))), .second, .val (.ref b72), .val (.double (FP.ddiv (FP.i2d (ci * pi)) (FP.i2d ((1024 : Int32) * mi)))), .second] []))
  refine own_st (fun t k => XS.iconst X100.here hx rfl (hb hby at_109) k) ?_
  show own_Run p e below s _ _ _ (T100.setTop (mkF m 110 #[.val (.int i0), .val (.int i1), .val (.int i2), .val (.int i3), .val (.int i4), .val (.int i5), .val (.int ci), .val (.int pi), .val (.int mi), .val (.double (FP.ddiv (FP.i2d ci) (4652218415073722368 : UInt64))), .second, .val (.double (FP.ddiv (FP.i2d pi) (4652218415073722368 : UInt64))), .second, .val (.double (FP.ddiv (FP.i2d mi) (4652218415073722368 : UInt64))), .second, .val (.ref b72), .val (.double (FP.ddiv (FP.i2d (ci * pi)) (FP.i2d ((1024 : Int32) * mi)))), .second] [(.int (1 : Int32))]))
  refine own_st (fun t k => XS.goto X100.here hx rfl (pc0 := 110) (pc' := 114) rfl (hb hby at_110) (by decide) (by decide) k) ?_
  show own_Run p e below s _ _ _ (T100.setTop (mkF m 114 #[.val (.int i0), .val (.int i1), .val (.int i2), .val (.int i3), .val (.int i4), .val (.int i5), .val (.int ci), .val (.int pi), .val (.int mi), .val (.double (FP.ddiv (FP.i2d ci) (4652218415073722368 : UInt64))), .second, .val (.double (FP.ddiv (FP.i2d pi) (4652218415073722368 : UInt64))), .second, .val (.double (FP.ddiv (FP.i2d mi) (4652218415073722368 : UInt64))), .second, .val (.ref b72), .val (.double (FP.ddiv (FP.i2d (ci * pi)) (FP.i2d ((1024 : Int32) * mi)))), .second] [(.int (1 : Int32))]))
  exact own_ret X100 hx hlk (t := .boolean) hret rfl (Or.inl ⟨rfl, by simp, _, rfl⟩) (hb hby at_114) (by decide) (by decide) ⟨rfl, N100⟩
set_option maxRecDepth 65536 in
set_option maxHeartbeats 40000000 in
theorem own_comes_1 {Post : Tables → Env → Array Value → State → Outcome → State → Prop} (hpost : ∀ tb e args s v u, (limb_1_1.after args s (.returned v) u = true ∧ limb_1_2.after args s (.returned v) u = true ∧ True) → FrameEnd s (.returned v) u (Jvm.fieldLocs frame_1_writes args s ++ Jvm.arrayLocs frame_1_arrays args s ++ Jvm.staticLocs frame_1_statics s) 16 128 → Post tb e args s (.returned v) u) :
    ArmFor flags0 classFile x code maxLocals ret World_1 tables_1 room_1 Calls_1 rest_1 Pre_1 Post := by
  intro l hfl _ _ p e ha hc hk s m args below hf hA hF happ hP
  obtain ⟨hcalls, hrest, hpre⟩ := hP
  obtain ⟨-, -, -, hnamed, -, -, -, hat⟩ := (Spec.applies_iff hf).mp happ
  obtain ⟨hg, hn⟩ := and_e (Cond.before_iff.mp (show (Jvm.Cond.and given_1 narrow_1).before args s = true from hpre))
  obtain ⟨gv1, gv2⟩ := and_e hg
  obtain ⟨gv3, gv4⟩ := and_e gv2
  obtain ⟨gv5, gv6⟩ := and_e gv4
  obtain ⟨gv7, gv8⟩ := and_e gv6
  obtain ⟨gv9, gv10⟩ := and_e gv8
  obtain ⟨gv11, gv12⟩ := and_e gv10
  obtain ⟨w0, w1, w2, w3, w4, w5, rfl⟩ : ∃ w0 w1 w2 w3 w4 w5 : Value, args = #[w0, w1, w2, w3, w4, w5] := by
    have hs : args.size = 6 := by simpa [Cond.value, given_1] using gv1
    obtain ⟨L⟩ := args
    match L, hs with
    | [w0, w1, w2, w3, w4, w5], _ => exact ⟨w0, w1, w2, w3, w4, w5, rfl⟩
  have hw := fun d (hd : d ∈ tables_1) => atoms_spec (ws := Jvm.Cond.code x code maxLocals ret :: tables_1) hat d (List.mem_cons_of_mem _ hd)
  have hfit : Fit s := fun {y c} hc i hi => by
    obtain ⟨ha, rfl⟩ := Array.getElem?_eq_some_iff.mp hc
    have q := List.all_eq_true.mp ((Array.all_eq_true_iff_forall_mem.mp hF) _ (Array.getElem_mem ha)) i (List.mem_range.mpr hi)
    simpa [Array.getElem?_eq_getElem hi] using q
  obtain ⟨i0, ei0⟩ := is_v gv3
  obtain rfl : w0 = (.int i0) := Option.some.inj ei0
  obtain ⟨i1, ei1⟩ := is_v gv5
  obtain rfl : w1 = (.int i1) := Option.some.inj ei1
  obtain ⟨i2, ei2⟩ := is_v gv7
  obtain rfl : w2 = (.int i2) := Option.some.inj ei2
  obtain ⟨i3, ei3⟩ := is_v gv9
  obtain rfl : w3 = (.int i3) := Option.some.inj ei3
  obtain ⟨i4, ei4⟩ := is_v gv11
  obtain rfl : w4 = (.int i4) := Option.some.inj ei4
  obtain ⟨i5, ei5⟩ := is_v gv12
  obtain rfl : w5 = (.int i5) := Option.some.inj ei5
  obtain ⟨n, o, h1, h2, h3, _, L, rfl, ⟨rfl, N⟩, hq⟩ := own_rm0 l s _ hw tables_1 i0 i1 i2 i3 i4 i5 s.heap s.heap.size (Nat.le_refl _) (Old.start s)  p e ha hc hk s m _ below hf ((Spec.applies_iff_loose hf).mp happ).1 ⟨rfl, State.Warmed39.refl s, rfl⟩ trivial
  refine ⟨n, _, h1, h2, h3, hpost _ _ _ _ _ _ ⟨Cond.after_iff.mpr rfl, Cond.after_iff.mpr (eq_i res_at (Term.int_eval (1)) rfl), trivial⟩ ⟨hq.1, hq.2.1, (hq.2.2.sift fun y hy => Or.inr (N y hy)).mono (by decide) (by decide)⟩⟩
theorem main_1_1 : Claimed_1_1 := own_comes_1 fun _ _ _ _ _ _ h hF => ⟨h.1, hF⟩
theorem main_1_2 : Claimed_1_2 := own_comes_1 fun _ _ _ _ _ _ h hF => ⟨h.2.1, hF⟩
end Jvm.Pilot.@@N@@
namespace Jvm.Pilot.@@N@@
open Jvm Jvm.ClassFile Sem Op Lib Jvm.Free Jvm.Stand Jvm.Pilot.@@N@@.Jvm.D
/-! MADE BY PROGRAM (witnessworld.py) out of the Statement's table words and the real class files: 11 classes; the members and pool entries that the words name. The judged class is class 1, her method 1. -/
namespace start1
open Jvm.ClassFile
def u (s : String) : CpInfo := .utf8 (stringToUtf16 s)
/-- a pool by its gaps: so many unusable entries, then the entry; so many at the end -/
def gap : Nat → List CpInfo → List CpInfo
  | 0, r => r
  | n + 1, r => .unusable :: gap n r
def poolList (es : List (Nat × CpInfo)) (last : Nat) : List CpInfo := es.foldr (fun e r => gap e.1 (e.2 :: r)) (gap last [])
def pool (es : List (Nat × CpInfo)) (last : Nat) : Array CpInfo := ⟨poolList es last⟩
def fileOf (pool : Array CpInfo) (this : Nat) (attrs : Array Attribute := #[]) (ms : Array MethodInfo := #[]) (fl : Nat := 33) (sup : Nat := 0) (ifs : Array Nat := #[]) (fds : Array FieldInfo := #[]) : ClassFile where
  minorVersion := 0
  majorVersion := 65
  constantPool := pool
  accessFlags := fl
  thisClass := this
  superClass := sup
  interfaces := ifs
  fields := fds
  methods := ms
  attributes := attrs
def plain (name : String) (sup : Option ClassId) : Class where
  name := name
  kind := .ordinary
  loader := none
  accessFlags := 33
  super := sup
  interfaces := #[]
  cf := none
  fields := #[]
  methods := #[]
  instanceTypes := #[]
  staticTypes := #[]
  resolved := #[]
  callSites := []
  init := .initialized
  statics := none
  mirror := none

def pool0 : Array CpInfo := pool [(5, u "<init>"), (0, u "()V"), (1, .class_ 10), (1, u "java/lang/Object")] 113

def k0c0 : Code := { maxStack := 0, maxLocals := 1, code := object_method_1_code, exceptionTable := #[], attributes := #[] }
def k0m0 : Method := { name := "<init>", desc := "()V", sig := { parameters := [], returnType := none }, accessFlags := 1, code := some k0c0 }
/-- java/lang/Object -/
def k0 : Class := { plain "java/lang/Object" none with
  accessFlags := 33
  interfaces := #[]
  cf := some (fileOf pool0 8 #[] #[{ accessFlags := 1, nameIndex := 5, descriptorIndex := 6, attributes := #[] }] 33 0 #[] #[])
  fields := #[]
  methods := #[k0m0]
  instanceTypes := #[]
  staticTypes := #[]
  resolved := Array.replicate 124 none
  statics := none }

def pool1 : Array CpInfo := pool [(2, .class_ 4), (1, u "java/lang/Object"), (0, u "<init>"), (0, u "()V"), (0, .double 4652218415073722368), (1, .class_ 10), (0, u "com/example/usurf/usurf/PageFarm"), (0, .methodref 9 12), (0, .nameAndType 5 13), (0, u "(IDDIZD[I[D[IID)V"), (0, .methodref 9 15), (0, .nameAndType 16 17), (0, u "spamicity"), (0, u "()D"), (0, .class_ 19), (0, u "com/example/usurf/usurf/PageFarmSpamicityPinLaw"), (2, u "law"), (0, u "(IIIIII)Z")] 3

def k1m0 : Method := { name := "<init>", desc := "()V", sig := { parameters := [], returnType := none }, accessFlags := 1, code := none }
def k1c1 : Code := { maxStack := 17, maxLocals := 18, code := code, exceptionTable := #[], attributes := #[] }
def k1m1 : Method := { name := "law", desc := "(IIIIII)Z", sig := { parameters := [.int, .int, .int, .int, .int, .int], returnType := some .boolean }, accessFlags := 9, code := some k1c1 }
/-- com/example/usurf/usurf/PageFarmSpamicityPinLaw -/
def k1 : Class := { plain "com/example/usurf/usurf/PageFarmSpamicityPinLaw" (some 0) with
  accessFlags := 49
  interfaces := #[]
  cf := some (fileOf pool1 18 #[] #[{ accessFlags := 1, nameIndex := 5, descriptorIndex := 6, attributes := #[] }, { accessFlags := 9, nameIndex := 22, descriptorIndex := 23, attributes := #[] }] 49 2 #[] #[])
  fields := #[]
  methods := #[k1m0, k1m1]
  instanceTypes := #[]
  staticTypes := #[]
  resolved := Array.replicate 27 none
  statics := none }

def pool2 : Array CpInfo := pool [(1, .methodref 2 3), (0, .class_ 4), (0, .nameAndType 5 6), (0, u "java/lang/Object"), (0, u "<init>"), (0, u "()V"), (0, .fieldref 8 9), (0, .class_ 10), (0, .nameAndType 11 12), (0, u "com/example/usurf/usurf/PageFarm"), (0, u "node"), (0, u "I"), (0, .fieldref 8 14), (0, .nameAndType 15 16), (0, u "pagerank"), (0, u "D"), (0, .fieldref 8 18), (0, .nameAndType 19 16), (0, u "theta"), (0, .fieldref 8 21), (0, .nameAndType 22 12), (0, u "k"), (0, .fieldref 8 24), (0, .nameAndType 25 26), (0, u "found"), (0, u "Z"), (0, .fieldref 8 28), (0, .nameAndType 29 16), (0, u "contribution"), (0, .fieldref 8 31), (0, .nameAndType 32 33), (0, u "pages"), (0, u "[I"), (0, .fieldref 8 35), (0, .nameAndType 36 37), (0, u "pageContributions"), (0, u "[D"), (0, .fieldref 8 39), (0, .nameAndType 40 33), (0, u "distances"), (0, .fieldref 8 42), (0, .nameAndType 43 12), (0, u "links"), (0, .fieldref 8 45), (0, .nameAndType 46 16), (0, u "maxPageRank"), (9, u "(IDDIZD[I[D[IID)V"), (3, u "()D"), (4, u "spamicity")] 2

def k2c0 : Code := { maxStack := 3, maxLocals := 16, code := prog_21_method_1_code, exceptionTable := #[], attributes := #[] }
def k2m0 : Method := { name := "<init>", desc := "(IDDIZD[I[D[IID)V", sig := { parameters := [.int, .double, .double, .int, .boolean, .double, (.array .int), (.array .double), (.array .int), .int, .double], returnType := none }, accessFlags := 0, code := some k2c0 }
def k2c1 : Code := { maxStack := 4, maxLocals := 1, code := prog_21_method_14_code, exceptionTable := #[], attributes := #[] }
def k2m1 : Method := { name := "spamicity", desc := "()D", sig := { parameters := [], returnType := some .double }, accessFlags := 1, code := some k2c1 }
/-- com/example/usurf/usurf/PageFarm -/
def k2 : Class := { plain "com/example/usurf/usurf/PageFarm" (some 0) with
  accessFlags := 49
  interfaces := #[]
  cf := some (fileOf pool2 8 #[] #[{ accessFlags := 0, nameIndex := 5, descriptorIndex := 56, attributes := #[] }, { accessFlags := 1, nameIndex := 65, descriptorIndex := 60, attributes := #[] }] 49 2 #[] #[{ accessFlags := 18, nameIndex := 11, descriptorIndex := 12, attributes := #[] }, { accessFlags := 18, nameIndex := 15, descriptorIndex := 16, attributes := #[] }, { accessFlags := 18, nameIndex := 19, descriptorIndex := 16, attributes := #[] }, { accessFlags := 18, nameIndex := 22, descriptorIndex := 12, attributes := #[] }, { accessFlags := 18, nameIndex := 25, descriptorIndex := 26, attributes := #[] }, { accessFlags := 18, nameIndex := 29, descriptorIndex := 16, attributes := #[] }, { accessFlags := 18, nameIndex := 32, descriptorIndex := 33, attributes := #[] }, { accessFlags := 18, nameIndex := 36, descriptorIndex := 37, attributes := #[] }, { accessFlags := 18, nameIndex := 40, descriptorIndex := 33, attributes := #[] }, { accessFlags := 18, nameIndex := 43, descriptorIndex := 12, attributes := #[] }, { accessFlags := 18, nameIndex := 46, descriptorIndex := 16, attributes := #[] }])
  fields := #[{ name := "node", type := .int, accessFlags := 18, slot := 0, constantValue := 0 }, { name := "pagerank", type := .double, accessFlags := 18, slot := 1, constantValue := 0 }, { name := "theta", type := .double, accessFlags := 18, slot := 2, constantValue := 0 }, { name := "k", type := .int, accessFlags := 18, slot := 3, constantValue := 0 }, { name := "found", type := .boolean, accessFlags := 18, slot := 4, constantValue := 0 }, { name := "contribution", type := .double, accessFlags := 18, slot := 5, constantValue := 0 }, { name := "pages", type := (.array .int), accessFlags := 18, slot := 6, constantValue := 0 }, { name := "pageContributions", type := (.array .double), accessFlags := 18, slot := 7, constantValue := 0 }, { name := "distances", type := (.array .int), accessFlags := 18, slot := 8, constantValue := 0 }, { name := "links", type := .int, accessFlags := 18, slot := 9, constantValue := 0 }, { name := "maxPageRank", type := .double, accessFlags := 18, slot := 10, constantValue := 0 }]
  methods := #[k2m0, k2m1]
  instanceTypes := #[.int, .double, .double, .int, .boolean, .double, (.array .int), (.array .double), (.array .int), .int, .double]
  staticTypes := #[]
  resolved := Array.replicate 68 none
  statics := none }

def pool3 : Array CpInfo := pool [(1, u "java/lang/Cloneable"), (0, .class_ 1), (0, u "java/lang/Object"), (0, .class_ 3)] 3

/-- java/lang/Cloneable -/
def k3 : Class := { plain "java/lang/Cloneable" (some 0) with
  accessFlags := 1537
  interfaces := #[]
  cf := some (fileOf pool3 2 #[] #[] 1537 4 #[] #[])
  fields := #[]
  methods := #[]
  instanceTypes := #[]
  staticTypes := #[]
  resolved := Array.replicate 8 none
  statics := none }

def pool4 : Array CpInfo := pool [(1, u "java/io/Serializable"), (0, .class_ 1), (0, u "java/lang/Object"), (0, .class_ 3)] 3

/-- java/io/Serializable -/
def k4 : Class := { plain "java/io/Serializable" (some 0) with
  accessFlags := 1537
  interfaces := #[]
  cf := some (fileOf pool4 2 #[] #[] 1537 4 #[] #[])
  fields := #[]
  methods := #[]
  instanceTypes := #[]
  staticTypes := #[]
  resolved := Array.replicate 8 none
  statics := none }

/-- the primitive byte -/
def k5 : Class := { plain "byte" none with kind := .primitive 'B', accessFlags := 0x411 }
/-- [B -/
def k6 : Class := { plain "[B" (some 0) with kind := .array 5 .byte, interfaces := #[3, 4], accessFlags := 1041 }

/-- the primitive double -/
def k7 : Class := { plain "double" none with kind := .primitive 'D', accessFlags := 0x411 }
/-- [D -/
def k8 : Class := { plain "[D" (some 0) with kind := .array 7 .double, interfaces := #[3, 4], accessFlags := 1041 }

/-- the primitive int -/
def k9 : Class := { plain "int" none with kind := .primitive 'I', accessFlags := 0x411 }
/-- [I -/
def k10 : Class := { plain "[I" (some 0) with kind := .array 9 .int, interfaces := #[3, 4], accessFlags := 1041 }

def heap : Heap := #[]
def classes : Array Class := #[k0, k1, k2, k3, k4, k5, k6, k7, k8, k9, k10]
def interned : List (Array UInt16 × Addr) := []
def slotsUsed : Nat := 0
def theMethod : MethodId := ⟨1, 1⟩
def args0 : Array Value := #[.int 9, .int 5, .int 3, .int 2, .int 4, .int 4]
def aboutOver (below : List Frame) : State where
  vm := { classes := classes, interned := interned.toArray }
  heap := heap
  slotsUsed := slotsUsed
  threads := #[{ frames := .invoking theMethod args0 :: below }]
def below0 : List Frame := [.native { method := ⟨0, 0⟩, args := #[] }]
def about1 : State := aboutOver below0
def p0 : Program := .bare "" "" ""
def e0 : Env := launch0.env 0 0 0
theorem w_frames : about1.frames = Frame.invoking theMethod args0 :: below0 := rfl
set_option maxRecDepth 65536 in
theorem w_args : argsFit about1.vm theMethod args0 = true := by decide +kernel
set_option maxRecDepth 65536 in
theorem w_heap : heapFits about1 = true := by decide +kernel
set_option maxRecDepth 65536 in
theorem w_runnable : about1.curStatus? = some .runnable := by decide +kernel
set_option maxRecDepth 65536 in
theorem w_alone : about1.alone = true := by decide +kernel
set_option maxRecDepth 65536 in
theorem w_named : about1.methodNamed? x = some theMethod := by decide +kernel
set_option maxRecDepth 65536 in
theorem w_hears : about1.hears theMethod below0 = true := by decide +kernel
set_option maxRecDepth 65536 in
theorem w_ripe : about1.ripe theMethod args0 below0 = true := by decide +kernel
theorem w_running : about1.status = .running := rfl
set_option maxRecDepth 65536 in
theorem w_room : about1.hasRoom e0.platform room_1 = true :=
  launch0.hasRoom_least _ room_1 (by decide +kernel) (by decide +kernel) (by decide +kernel) (by decide +kernel) (by decide +kernel) (by decide +kernel)
theorem allAtoms_all (ts : List Jvm.Cond) (a : Array Jvm.Value) (st : Jvm.State) : (allAtoms ts).before a st = ts.all (fun c => c.before a st) := by
  induction ts with
  | nil => rfl
  | cons c t ih =>
    show (Jvm.Cond.and c (allAtoms t)).before a st = _
    rw [Jvm.Cond.before_and, ih, List.all_cons]
def words1 : List Jvm.Cond := Jvm.Cond.code x code maxLocals ret :: tables_1
/-- a 'code' word, met by the world's own term for the bytes: nothing is compared byte by byte -/
theorem code_word {y : MethodName} {bytes : ByteArray} {mx : Nat} {rt : Option FieldType} {a : Array Value} {s : State} {m : MethodId} {meth : Method} {c : Code} (h1 : s.methodNamed? y = some m) (h2 : s.vm.method? m = some meth) (h3 : meth.code = some c) (h4 : c.code = bytes)
    (h5 : (c.maxLocals == mx && c.exceptionTable.isEmpty && decide (c.maxStack ≤ mostOperands) && decide (meth.sig.returnType = rt) && !meth.locks && decide (parseMethodDescriptor y.desc = some meth.sig)) = true) : (Jvm.Cond.code y bytes mx rt).before a s = true := by
  simp only [Bool.and_eq_true, beq_iff_eq, Bool.not_eq_true', decide_eq_true_eq] at h5
  obtain ⟨⟨⟨⟨⟨g1, g2⟩, g3⟩, g4⟩, g5⟩, g6⟩ := h5
  simp [Cond.before, Cond.holds, Cond.value, h1, h2, h3, h4, g1, g2, g3, g4, g5, g6]
def isCode : Jvm.Cond → Bool
  | .code _ _ _ _ => true
  | _ => false
theorem all_split {L : List Jvm.Cond} {P : Jvm.Cond → Bool} (h1 : L.all (fun c => isCode c || P c) = true) (h2 : ∀ c ∈ L.filter isCode, P c = true) : L.all P = true := by
  refine List.all_eq_true.mpr fun c hc => ?_
  have h := List.all_eq_true.mp h1 c hc
  rcases Bool.eq_false_or_eq_true (isCode c) with hi | hi
  · exact h2 c (List.mem_filter.mpr ⟨hc, hi⟩)
  · simpa [hi] using h
set_option maxRecDepth 65536 in
theorem w_c0 : (Jvm.Cond.code x code maxLocals ret).before args0 about1 = true := code_word (m := ⟨1, 1⟩) (meth := k1m1) (c := k1c1) (by decide +kernel) rfl rfl rfl (by decide +kernel)
set_option maxRecDepth 65536 in
theorem w_c1 : (Jvm.Cond.code ({ cls := "com/example/usurf/usurf/PageFarm", name := "<init>", desc := "(IDDIZD[I[D[IID)V" } : Jvm.MethodName) prog_21_method_1_code (16 : Nat) (Option.none : Option Jvm.ClassFile.FieldType)).before args0 about1 = true := code_word (m := ⟨2, 0⟩) (meth := k2m0) (c := k2c0) (by decide +kernel) rfl rfl rfl (by decide +kernel)
set_option maxRecDepth 65536 in
theorem w_c2 : (Jvm.Cond.code ({ cls := "java/lang/Object", name := "<init>", desc := "()V" } : Jvm.MethodName) object_method_1_code (1 : Nat) (Option.none : Option Jvm.ClassFile.FieldType)).before args0 about1 = true := code_word (m := ⟨0, 0⟩) (meth := k0m0) (c := k0c0) (by decide +kernel) rfl rfl rfl (by decide +kernel)
set_option maxRecDepth 65536 in
theorem w_c3 : (Jvm.Cond.code ({ cls := "com/example/usurf/usurf/PageFarm", name := "spamicity", desc := "()D" } : Jvm.MethodName) prog_21_method_14_code (1 : Nat) (Option.some Jvm.ClassFile.FieldType.double)).before args0 about1 = true := code_word (m := ⟨2, 1⟩) (meth := k2m1) (c := k2c1) (by decide +kernel) rfl rfl rfl (by decide +kernel)
def codes1 : List Jvm.Cond := [Jvm.Cond.code x code maxLocals ret, Jvm.Cond.code ({ cls := "com/example/usurf/usurf/PageFarm", name := "<init>", desc := "(IDDIZD[I[D[IID)V" } : Jvm.MethodName) prog_21_method_1_code (16 : Nat) (Option.none : Option Jvm.ClassFile.FieldType), Jvm.Cond.code ({ cls := "java/lang/Object", name := "<init>", desc := "()V" } : Jvm.MethodName) object_method_1_code (1 : Nat) (Option.none : Option Jvm.ClassFile.FieldType), Jvm.Cond.code ({ cls := "com/example/usurf/usurf/PageFarm", name := "spamicity", desc := "()D" } : Jvm.MethodName) prog_21_method_14_code (1 : Nat) (Option.some Jvm.ClassFile.FieldType.double)]
set_option maxRecDepth 65536 in
theorem codes_eq : words1.filter isCode = codes1 := rfl
theorem w_codes : ∀ c ∈ words1.filter isCode, c.before args0 about1 = true := by
  rw [codes_eq]
  intro c hc
  simp only [codes1, List.mem_cons, List.not_mem_nil, or_false] at hc
  rcases hc with rfl | rfl | rfl | rfl
  · exact w_c0
  · exact w_c1
  · exact w_c2
  · exact w_c3
set_option maxRecDepth 65536 in
theorem w_t1 : (words1.take 24).all (fun c => isCode c || c.before args0 about1) = true := by decide +kernel
set_option maxRecDepth 65536 in
theorem w_t2 : (words1.drop 24).all (fun c => isCode c || c.before args0 about1) = true := by decide +kernel
theorem w_tables : (allAtoms (Jvm.Cond.code x code maxLocals ret :: tables_1)).before args0 about1 = true := by
  rw [allAtoms_all]
  show words1.all (fun c => c.before args0 about1) = true
  refine all_split ?_ w_codes
  rw [← List.take_append_drop 24 words1, List.all_append, w_t1, w_t2]
  rfl
set_option maxRecDepth 65536 in
theorem w_case : (Jvm.Cond.and given_1 narrow_1).before args0 about1 = true := by decide +kernel
theorem w_applies : (headSpec (Jvm.Cond.code x code maxLocals ret :: tables_1) room_1).applies x e0.platform about1 = true :=
  (Spec.applies_iff w_frames).mpr ⟨w_running, w_runnable, w_alone, w_named, w_hears, w_ripe, w_room, w_tables⟩
theorem atStart : AtStart classFile x code maxLocals ret World_1 tables_1 room_1 Calls_1 rest_1 Pre_1 launch0 p0 e0 about1 theMethod args0 below0 :=
  ⟨lists_1, trivial, launch0.admits_env _ _ _, launch0.least_env, fairChoices_fair.cas, fairChoices_fair.clock, w_frames, w_args, w_heap, w_applies, trivial, trivial, w_case⟩
end start1
theorem witness_1 : WitnessClaimed_1 := ⟨start1.p0, start1.e0, start1.about1, start1.theMethod, start1.args0, start1.below0, start1.atStart⟩
end Jvm.Pilot.@@N@@
