import JvmDerived
import JvmDerived.Pilot.@@N@@Statement
import JvmDerived.Pilot.@@N@@Code
set_option linter.unusedVariables false
set_option linter.unusedSimpArgs false
namespace Jvm.Pilot.@@N@@
open Jvm Jvm.ClassFile Sem Op Lib Jvm.Free Jvm.Stand Jvm.LawKit Jvm.RoadKit Bundle Jvm.Pilot.@@N@@.Jvm.D
def own_Run (p : Program) (e : Env) (below : List Frame) (s : State) (Q : Option Value → Heap → List Loc → Prop) (ck sk : Nat) (U : State) : Prop :=
  ∃ s₂ o, Steps p.tables e below U s₂ ∧ s₂.status = .running ∧ Ended s₂ below o ∧ ∃ v L, o = .returned v ∧ Q v s₂.heap L ∧ FrameEnd s o s₂ L ck sk
section OwnLayer
variable {p : Program} {l : Launch} {e : Env} {R : Room} {s : State} {m : MethodId} {args : Array Value} {below : List Frame} {meth : Method} {c : Code} {T : State} {locs : List Loc} {cells slots : Nat} {Z : State} {a0 : Array Value} {h : Heap} {Q : Option Value → Heap → List Loc → Prop} {ck sk : Nat}
theorem own_st {U U' : State} (hh : ∀ t, Steps p.tables e below U' t → Steps p.tables e below U t) (K : own_Run p e below s Q ck sk U') : own_Run p e below s Q ck sk U := by
  obtain ⟨s2, o, h1, r⟩ := K
  exact ⟨s2, o, hh _ h1, r⟩
theorem own_topI {pc : Nat} {Ls : Array Slot} {st : List Value} {v v' : Int32} (hv : v = v') (K : own_Run p e below s Q ck sk (T.setTop (mkF m pc Ls (.int v' :: st)))) : own_Run p e below s Q ck sk (T.setTop (mkF m pc Ls (.int v :: st))) := hv ▸ K
theorem own_topJ {pc : Nat} {Ls : Array Slot} {st : List Value} {v v' : Int64} (hv : v = v') (K : own_Run p e below s Q ck sk (T.setTop (mkF m pc Ls (.long v' :: st)))) : own_Run p e below s Q ck sk (T.setTop (mkF m pc Ls (.long v :: st))) := hv ▸ K
theorem own_topD {pc : Nat} {Ls : Array Slot} {st : List Value} {v v' : UInt64} (hv : v = v') (K : own_Run p e below s Q ck sk (T.setTop (mkF m pc Ls (.double v' :: st)))) : own_Run p e below s Q ck sk (T.setTop (mkF m pc Ls (.double v :: st))) := hv ▸ K
theorem own_ret (X : Stand p l e R s m args below meth c T locs cells slots) (hx : p.tables.exec = Jvm.exec) (hlk : meth.locks = false) {pc : Nat} {Ls : Array Slot} {w : Value} {t : FieldType} {i : Instr} {rest : List Value} (hret : meth.sig.returnType = some t) (hn : narrow t w = w)
    (hi : (i = .ireturn ∧ (t = .int ∨ t = .boolean ∨ t = .byte ∨ t = .char ∨ t = .short) ∧ ∃ z, w = .int z) ∨ (i = .lreturn ∧ t = .long ∧ ∃ z, w = .long z) ∨ (i = .dreturn ∧ t = .double ∧ ∃ z, w = .double z) ∨ (i = .freturn ∧ t = .float ∧ ∃ z, w = .float z) ∨ (i = .areturn ∧ t.isReference = true ∧ w.isRef = true))
    (hd : decode c.code pc = .ok (i, 1)) (hc : cells ≤ ck) (hs : slots ≤ sk) (hq : Q (some w) T.heap locs) : own_Run p e below s Q ck sk (T.setTop (mkF m pc Ls (w :: rest))) := by
  obtain ⟨fs, hr, hrun, hended, hW, hsame⟩ := X.leave (v := some w) (fun q => by rw [hret] at q; cases q) hlk
  exact ⟨_, _, retOut X hx hret hn hi hd hr, hrun, hended, _, _, rfl, hq, ⟨_, rfl⟩, hW, hsame.mono hc hs⟩
theorem own_retV (X : Stand p l e R s m args below meth c T locs cells slots) (hx : p.tables.exec = Jvm.exec) (hlk : meth.locks = false) {pc : Nat} {Ls : Array Slot} (hret : meth.sig.returnType = none)
    (hd : decode c.code pc = .ok (.return_, 1)) (hc : cells ≤ ck) (hs : slots ≤ sk) (hq : Q none T.heap locs) : own_Run p e below s Q ck sk (T.setTop (mkF m pc Ls [])) := by
  obtain ⟨fs, hr, hrun, hended, hW, hsame⟩ := X.leave (v := none) (fun _ => rfl) hlk
  exact ⟨_, _, X.returnOut hx hret hd hr, hrun, hended, _, _, rfl, hq, ⟨_, rfl⟩, hW, hsame.mono hc hs⟩
theorem own_body {y : MethodName} {bytes : ByteArray} {maxL : Nat} {ret : Option FieldType} {ws : List Jvm.Cond} {rm : Room} {as' : Array Value} {h0 : Heap} (hpl : plainFor y = true)
    (hbody : ∀ (p : Program) (e : Env) (s : State) (m : MethodId) (below : List Frame) (meth : Method) (c : Code) (s₁ : State), p.tables.exec = Jvm.exec → c.code = bytes → c.maxLocals = maxL → Z.Warmed39 s.vm → s.vm.findClass y.cls = some m.cls → meth.name = y.name → meth.sig.returnType = ret → meth.locks = false → Stand p l e rm s m as' below meth c s₁ [] 0 0 → s₁.heap = h0 → own_Run p e below s Q rm.cells rm.slots (s₁.setTop (entryFrame m as' maxL))) :
    MetFree l y (head1 (Jvm.Cond.code y bytes maxL ret :: ws) rm) (fun a U => a = as' ∧ Z.Warmed39 U.vm ∧ U.heap = h0) (fun _ _ _ _ _ => True) (fun _ U o U' => ∃ v L, o = .returned v ∧ Q v U'.heap L ∧ FrameEnd U o U' L rm.cells rm.slots) := by
  refine MetFree.of_bodySF hpl hisR ?_
  intro p e s m args below meth c s₁ Bd hml0 hP hK
  obtain ⟨rfl, hZ, hh⟩ := hP
  exact hbody p e s m below meth c s₁ Bd.exec Bd.bytes hml0 hZ (findClass_of_methodNamed Bd.named) (name_of_methodNamed Bd.named Bd.method).1 Bd.returns Bd.notSynchronized (Stand.of_body Bd) (by rw [← hh, Bd.state]; rfl)
theorem own_callI (X : Stand p l e R s m args below meth c T locs cells slots) (hx : p.tables.exec = Jvm.exec) (hZ : Z.Warmed39 s.vm) {own : String} {idx : Nat} {y : MethodName} (hy1 : y.name = "<init>") (hown : s.vm.findClass own = some m.cls) (w1 : (Jvm.Cond.methodLink own idx y).before a0 Z = true) (w2 : (Jvm.Cond.instanceMethod y).before a0 Z = true)
    {bytes : ByteArray} {maxL : Nat} (w3 : (Jvm.Cond.code y bytes maxL none).before a0 Z = true) (wz : (Jvm.Cond.initialized y.cls).before a0 Z = true) (hy : y.cls ≠ "java/lang/invoke/MethodHandle" ∧ y.cls ≠ "java/lang/invoke/VarHandle") (eT : T.heap = h) {rm : Room} {Qc : Option Value → Heap → List Loc → Prop} {a : Addr} {argsL rest : List Value}
    (hM : MetFree l y (head1 [Jvm.Cond.code y bytes maxL none] rm) (fun b U => b = (Value.ref a :: argsL).toArray ∧ Z.Warmed39 U.vm ∧ U.heap = h) (fun _ _ _ _ _ => True) (fun _ U o U' => ∃ v L, o = .returned v ∧ Qc v U'.heap L ∧ FrameEnd U o U' L rm.cells rm.slots))
    {W : Nat} (hf : rm.frames + 1 ≤ R.frames) (hl : W + (maxL + 11) + rm.locals ≤ R.locals) {pc : Nat} {Ls : Array Slot} {st : List Value} (hsize : Ls.size = c.maxLocals) (hlen : ∀ sig, parseMethodDescriptor y.desc = some sig → argsL.length = sig.parameters.length) (hst : st = argsL.reverse ++ .ref a :: rest) (hW : (rest.map fun v => v.category).sum ≤ W) (hd : decode c.code pc = .ok (.invokespecial idx, 3)) (hc : cells + rm.cells ≤ R.cells) (hs : slots + rm.slots ≤ R.slots)
    (K : ∀ (T' : State) (v : Option Value) (L : List Loc), Stand p l e R s m args below meth c T' (locs ++ L) (cells + rm.cells) (slots + rm.slots) → Qc v T'.heap L → own_Run p e below s Q ck sk (T'.setTop (mkF m (pc + 3) Ls (v.toList ++ rest)))) :
    own_Run p e below s Q ck sk (T.setTop (mkF m pc Ls st)) := by
  obtain ⟨v, _, ⟨T', L', k', n'⟩, -, X', ⟨Lc, hQ, hl', hk', hn'⟩, st'⟩ := X.specialBack hx (y := y) hy1 hown (mvT hZ w1) (mvT hZ w2) (mvT hZ w3) hy (backOf (W := W) hM hZ w3 wz hf hl) (g := mkF m pc Ls st) rfl hsize (Steps.refl _) (a := a) (argsL := argsL) (rest := rest) hlen hst (by show 2 * 0 + _ ≤ _; omega) hd (fun _ _ => ⟨rfl, eT, hc, hs⟩)
  dsimp only [Pt.U, Pt.locs, Pt.cells, Pt.slots] at X' hl' hk' hn' st' hQ
  subst hl' hk' hn'
  exact own_st (fun t k => st'.trans k) (K T' v Lc X' hQ)
theorem own_callV (X : Stand p l e R s m args below meth c T locs cells slots) (hx : p.tables.exec = Jvm.exec) (hZ : Z.Warmed39 s.vm) {own C : String} {idx : Nat} {y : MethodName} (hown : s.vm.findClass own = some m.cls) (w1 : (Jvm.Cond.methodLink own idx y).before a0 Z = true) (w2 : (Jvm.Cond.declares y).before a0 Z = true) (w3 : (Jvm.Cond.selects C y y).before a0 Z = true) (w4 : (Jvm.Cond.instanceMethod y).before a0 Z = true)
    {bytes : ByteArray} {maxL : Nat} {ret : Option FieldType} (w5 : (Jvm.Cond.code y bytes maxL ret).before a0 Z = true) (wz : (Jvm.Cond.initialized y.cls).before a0 Z = true) (hy : y.cls ≠ "java/lang/invoke/MethodHandle" ∧ y.cls ≠ "java/lang/invoke/VarHandle") (eT : T.heap = h) {a : Addr} (E : Exa Z h a C) {rm : Room} {Qc : Option Value → Heap → List Loc → Prop} {argsL rest : List Value}
    (hM : MetFree l y (head1 [Jvm.Cond.code y bytes maxL ret] rm) (fun b U => b = (Value.ref a :: argsL).toArray ∧ Z.Warmed39 U.vm ∧ U.heap = h) (fun _ _ _ _ _ => True) (fun _ U o U' => ∃ v L, o = .returned v ∧ Qc v U'.heap L ∧ FrameEnd U o U' L rm.cells rm.slots))
    {W : Nat} (hf : rm.frames + 1 ≤ R.frames) (hl : W + (maxL + 11) + rm.locals ≤ R.locals) {pc : Nat} {Ls : Array Slot} {st : List Value} (hsize : Ls.size = c.maxLocals) (hlen : ∀ sig, parseMethodDescriptor y.desc = some sig → argsL.length = sig.parameters.length) (hst : st = argsL.reverse ++ .ref a :: rest) (hW : (rest.map fun v => v.category).sum ≤ W) (hd : decode c.code pc = .ok (.invokevirtual idx, 3)) (hc : cells + rm.cells ≤ R.cells) (hs : slots + rm.slots ≤ R.slots)
    (K : ∀ (T' : State) (v : Option Value) (L : List Loc), Stand p l e R s m args below meth c T' (locs ++ L) (cells + rm.cells) (slots + rm.slots) → Qc v T'.heap L → own_Run p e below s Q ck sk (T'.setTop (mkF m (pc + 3) Ls (v.toList ++ rest)))) :
    own_Run p e below s Q ck sk (T.setTop (mkF m pc Ls st)) := by
  obtain ⟨cq, kq, qa, qb, qc⟩ := isOf hZ eT E
  obtain ⟨v, _, ⟨T', L', k', n'⟩, -, X', ⟨Lc, hQ, hl', hk', hn'⟩, st'⟩ := X.virtualBack hx (y := y) (z := y) hown (mvT hZ w1) (mvT hZ w2) (notFace_of_selects (args := #[]) (mvT hZ w3)) (mvT hZ w3) (mvT hZ w4) hy (backOf (W := W) hM hZ w5 wz hf hl) qa qc (g := mkF m pc Ls st) rfl hsize (Steps.refl _) (argsL := argsL) (rest := rest) hlen hst (by show 2 * 0 + _ ≤ _; omega) hd (fun _ _ => ⟨rfl, eT, hc, hs⟩)
  dsimp only [Pt.U, Pt.locs, Pt.cells, Pt.slots] at X' hl' hk' hn' st' hQ
  subst hl' hk' hn'
  exact own_st (fun t k => st'.trans k) (K T' v Lc X' hQ)
theorem own_callS (X : Stand p l e R s m args below meth c T locs cells slots) (hx : p.tables.exec = Jvm.exec) (hZ : Z.Warmed39 s.vm) {own : String} {idx : Nat} {y : MethodName} (hown : s.vm.findClass own = some m.cls) (w1 : (Jvm.Cond.methodLink own idx y).before a0 Z = true) (w2 : (Jvm.Cond.static y).before a0 Z = true)
    {bytes : ByteArray} {maxL : Nat} {ret : Option FieldType} (w5 : (Jvm.Cond.code y bytes maxL ret).before a0 Z = true) (wz : (Jvm.Cond.initialized y.cls).before a0 Z = true) (hy : y.cls ≠ "java/lang/invoke/MethodHandle" ∧ y.cls ≠ "java/lang/invoke/VarHandle") (eT : T.heap = h) {rm : Room} {Qc : Option Value → Heap → List Loc → Prop} {argsL rest : List Value}
    (hM : MetFree l y (head1 [Jvm.Cond.code y bytes maxL ret] rm) (fun b U => b = argsL.toArray ∧ Z.Warmed39 U.vm ∧ U.heap = h) (fun _ _ _ _ _ => True) (fun _ U o U' => ∃ v L, o = .returned v ∧ Qc v U'.heap L ∧ FrameEnd U o U' L rm.cells rm.slots))
    {W : Nat} (hf : rm.frames + 1 ≤ R.frames) (hl : W + (maxL + 11) + rm.locals ≤ R.locals) {pc : Nat} {Ls : Array Slot} {st : List Value} (hsize : Ls.size = c.maxLocals) (hlen : ∀ sig, parseMethodDescriptor y.desc = some sig → argsL.length = sig.parameters.length) (hst : st = argsL.reverse ++ rest) (hW : (rest.map fun v => v.category).sum ≤ W) (hd : decode c.code pc = .ok (.invokestatic idx, 3)) (hc : cells + rm.cells ≤ R.cells) (hs : slots + rm.slots ≤ R.slots)
    (K : ∀ (T' : State) (v : Option Value) (L : List Loc), Stand p l e R s m args below meth c T' (locs ++ L) (cells + rm.cells) (slots + rm.slots) → Qc v T'.heap L → own_Run p e below s Q ck sk (T'.setTop (mkF m (pc + 3) Ls (v.toList ++ rest)))) :
    own_Run p e below s Q ck sk (T.setTop (mkF m pc Ls st)) := by
  obtain ⟨v, _, ⟨T', L', k', n'⟩, -, X', ⟨Lc, hQ, hl', hk', hn'⟩, st'⟩ := Jvm.LawKit.callS X hx (y := y) hown (mvT hZ w1) (mvT hZ w2) (mvT hZ wz) (mvT hZ w5) hy (backOf (W := W) hM hZ w5 wz hf hl) (g := mkF m pc Ls st) rfl hsize (argsL := argsL) (rest := rest) hlen hst (by show 2 * 0 + _ ≤ _; omega) hd (fun _ _ => ⟨rfl, eT, hc, hs⟩)
  dsimp only [Pt.U, Pt.locs, Pt.cells, Pt.slots] at X' hl' hk' hn' st' hQ
  subst hl' hk' hn'
  exact own_st st' (K T' v Lc X' hQ)
end OwnLayer
section OwnNums
open Jvm.FP Jvm.Free.Fl
theorem own_b53 (x : Int32) : B53 x.toInt64 := by
  have := x.le_toInt; have := x.toInt_lt
  unfold B53; rw [Int32.toInt_toInt64]; omega
theorem own_i64lt (x y : Int32) : x.toInt64 < y.toInt64 ↔ x < y := by
  rw [Int64.lt_iff_toInt_lt, Int32.lt_iff_toInt_lt, Int32.toInt_toInt64, Int32.toInt_toInt64]
theorem own_i64eq (x y : Int32) : x.toInt64 = y.toInt64 ↔ x = y := by
  rw [← Int64.toInt_inj, ← Int32.toInt_inj, Int32.toInt_toInt64, Int32.toInt_toInt64]
theorem own_dcmp_lt (x y : Int32) (o : CmpOp) : cmpValue (FP.dcmp (FP.i2d x) (FP.i2d y)) o < 0 ↔ x < y := by
  rw [i2d_w, i2d_w, dcmpV_w (own_b53 x) (own_b53 y), lw_lt, own_i64lt]
theorem own_dcmp_gt (x y : Int32) (o : CmpOp) : 0 < cmpValue (FP.dcmp (FP.i2d x) (FP.i2d y)) o ↔ y < x := by
  rw [i2d_w, i2d_w, dcmpV_w (own_b53 x) (own_b53 y), lw_gt, own_i64lt]
theorem own_dcmp_eq (x y : Int32) (o : CmpOp) : cmpValue (FP.dcmp (FP.i2d x) (FP.i2d y)) o = 0 ↔ x = y := by
  rw [i2d_w, i2d_w, dcmpV_w (own_b53 x) (own_b53 y), lw_eq, own_i64eq]
theorem own_sub_lt (x y : Int32) : lcmpW (x.toInt64 - y.toInt64) 0 < 0 ↔ x < y := by
  have h := sub64 (own_b53 x) (own_b53 y)
  rw [lw_lt, Int64.lt_iff_toInt_lt, Int32.lt_iff_toInt_lt, h, Int32.toInt_toInt64, Int32.toInt_toInt64]
  have : (0 : Int64).toInt = 0 := rfl
  omega
end OwnNums
section OwnWords
theorem own_eqint {args : Array Value} {first s : State} {o : Option Outcome} {idx : List Nat} {t : Term} {k : Int32} (h : (Jvm.Cond.eq t (.int k)).value args first o s idx = some true) : t.eval args first o idx s = some (.int k) := by
  simp only [Cond.value, Term.eval] at h
  cases ht : t.eval args first o idx s with
  | none => simp [ht] at h
  | some x => cases x <;> simp [ht] at h ⊢; exact h
end OwnWords
section OwnInts
theorem own_prod {a b : Int} {A B : Nat} (ha : a.natAbs ≤ A) (hb : b.natAbs ≤ B) : (a * b).natAbs ≤ A * B := by
  rw [Int.natAbs_mul]; exact Nat.mul_le_mul ha hb
theorem own_shr (x : Int32) : (x >>> ((11 : Int32) &&& 31)).toInt.natAbs ≤ 1048576 := by
  rw [c_ishr x 11 11 (by decide)]
  have := x.le_toInt; have := x.toInt_lt
  show (x.toInt / (2048 : Nat)).natAbs ≤ _
  omega
end OwnInts
section OwnFl
open Jvm.FP Jvm.Free.Fl
abbrev own_zv (a : UInt64) : Int := Core.zval Core.b64 (Core.val64 a)
abbrev own_zm (a : UInt64) : Nat := Core.zmag Core.b64 (Core.val64 a)
theorem own_one : (Core.one64 : Nat) = 2 ^ 1074 := rfl
theorem own_finnn {a : UInt64} (h : Core.DFin a) : NoNaN64 a := (fin64_core.mpr h).noNaN
theorem own_finne {a : UInt64} (h : Core.DFin a) : Core.val64 a ≠ .nan := h.ne_nan
theorem own_addle {a b V : UInt64} (ha : Core.DFin a) (hb : Core.DFin b) (hV : Core.val64 V ≠ .nan) (h : own_zv a + own_zv b ≤ own_zv V) : own_zv (FP.dadd a b) ≤ own_zv V := by
  show Core.zval Core.b64 (Core.val64 (Core.dadd a b)) ≤ _
  rw [Core.val64_dadd]
  exact Core.sum_le Core.good_b64 ha hb (Core.val64_fits a) (Core.val64_fits b) (Core.val64_fits V) hV h
theorem own_addge {a b V : UInt64} (ha : Core.DFin a) (hb : Core.DFin b) (hV : Core.val64 V ≠ .nan) (h : own_zv V ≤ own_zv a + own_zv b) : own_zv V ≤ own_zv (FP.dadd a b) := by
  show _ ≤ Core.zval Core.b64 (Core.val64 (Core.dadd a b))
  rw [Core.val64_dadd]
  exact Core.sum_ge Core.good_b64 ha hb (Core.val64_fits a) (Core.val64_fits b) (Core.val64_fits V) hV h
theorem own_negfin {b : UInt64} (hb : Core.DFin b) : ∃ s c q, Core.negate (Core.val64 b) = .fin s c q := by
  obtain ⟨s, c, q, h⟩ := hb
  exact ⟨!s, c, q, by rw [h]; rfl⟩
theorem own_suble {a b V : UInt64} (ha : Core.DFin a) (hb : Core.DFin b) (hV : Core.val64 V ≠ .nan) (h : own_zv a - own_zv b ≤ own_zv V) : own_zv (FP.dsub a b) ≤ own_zv V := by
  show Core.zval Core.b64 (Core.val64 (Core.dsub a b)) ≤ _
  rw [Core.val64_dsub]
  exact Core.sum_le Core.good_b64 ha (own_negfin hb) (Core.val64_fits a) (Core.negate_fits (Core.val64_fits b)) (Core.val64_fits V) hV (by rw [Core.zval_negate]; exact h)
theorem own_subge {a b V : UInt64} (ha : Core.DFin a) (hb : Core.DFin b) (hV : Core.val64 V ≠ .nan) (h : own_zv V ≤ own_zv a - own_zv b) : own_zv V ≤ own_zv (FP.dsub a b) := by
  show _ ≤ Core.zval Core.b64 (Core.val64 (Core.dsub a b))
  rw [Core.val64_dsub]
  exact Core.sum_ge Core.good_b64 ha (own_negfin hb) (Core.val64_fits a) (Core.negate_fits (Core.val64_fits b)) (Core.val64_fits V) hV (by rw [Core.zval_negate]; exact h)
theorem own_pow2q : (2 ^ (Core.b64.qmin - 2 * Core.b64.qmin).toNat : Nat) = Core.one64 := by
  rw [show Core.b64.qmin - 2 * Core.b64.qmin = -Core.b64.qmin by omega]; exact Core.pow_qmin64
theorem own_mulle {a b V : UInt64} (ha : Core.DFin a) (hb : Core.DFin b) (hV : Core.val64 V ≠ .nan) (h : own_zv a * own_zv b ≤ own_zv V * (Core.one64 : Int)) : own_zv (FP.dmul a b) ≤ own_zv V := by
  obtain ⟨s, c, q, ea⟩ := ha
  obtain ⟨t, d, r, eb⟩ := hb
  have fa := Core.val64_fits a
  have fb := Core.val64_fits b
  rw [ea] at fa; rw [eb] at fb
  obtain ⟨h1, h2, h3⟩ := Core.product_units fa fb
  show Core.zval Core.b64 (Core.val64 (Core.dmul a b)) ≤ _
  rw [Core.val64_dmul, ea, eb, h1]
  refine Core.zval_round_le Core.good_b64 (Core.val64_fits V) hV (e0 := 2 * Core.b64.qmin) (by decide) h2 ?_
  rw [h3, Core.signed_xor, own_pow2q]
  simp only [own_zv, ea, eb] at h
  exact h
theorem own_mulge {a b V : UInt64} (ha : Core.DFin a) (hb : Core.DFin b) (hV : Core.val64 V ≠ .nan) (h : own_zv V * (Core.one64 : Int) ≤ own_zv a * own_zv b) : own_zv V ≤ own_zv (FP.dmul a b) := by
  obtain ⟨s, c, q, ea⟩ := ha
  obtain ⟨t, d, r, eb⟩ := hb
  have fa := Core.val64_fits a
  have fb := Core.val64_fits b
  rw [ea] at fa; rw [eb] at fb
  obtain ⟨h1, h2, h3⟩ := Core.product_units fa fb
  show _ ≤ Core.zval Core.b64 (Core.val64 (Core.dmul a b))
  rw [Core.val64_dmul, ea, eb, h1]
  refine Core.zval_round_ge Core.good_b64 (Core.val64_fits V) hV (e0 := 2 * Core.b64.qmin) (by decide) h2 ?_
  rw [h3, Core.signed_xor, own_pow2q]
  simp only [own_zv, ea, eb] at h
  exact h
theorem own_divdat {a b : UInt64} (ha : Core.DFin a) (hb : Core.DFin b) (hz : own_zm b ≠ 0) : ∃ (s t : Bool) (c d : Nat) (q r : Int), Core.val64 a = .fin s c q ∧ Core.val64 b = .fin t d r ∧ 0 < d ∧ Core.b64.qmin ≤ q ∧ Core.b64.qmin ≤ r ∧ Core.val64 (FP.ddiv a b) = Core.roundRatio Core.b64 (s != t) c d (q - r) := by
  obtain ⟨s, c, q, ea⟩ := ha
  obtain ⟨t, d, r, eb⟩ := hb
  have fa := Core.val64_fits a
  have fb := Core.val64_fits b
  rw [ea] at fa; rw [eb] at fb
  have hd : d ≠ 0 := fun q => hz (by unfold own_zm; rw [eb, q]; show Core.inUnits 0 _ _ = 0; unfold Core.inUnits; exact Nat.zero_mul _)
  refine ⟨s, t, c, d, q, r, ea, eb, Nat.pos_of_ne_zero hd, fa.2.1, fb.2.1, ?_⟩
  show Core.val64 (Core.ddiv a b) = _
  rw [Core.val64_ddiv, ea, eb]
  show (if d = 0 then _ else _) = _
  rw [if_neg hd]
theorem own_divunits {c d : Nat} {q r : Int} (hq : Core.b64.qmin ≤ q) (hr : Core.b64.qmin ≤ r) : 2 * Core.b64.qmin - r ≤ Core.b64.qmin ∧ 2 * Core.b64.qmin - r ≤ q - r ∧ Core.inUnits c (q - r) (2 * Core.b64.qmin - r) = Core.inUnits c q Core.b64.qmin * Core.one64 ∧ ∀ m : Nat, m * 2 ^ (Core.b64.qmin - (2 * Core.b64.qmin - r)).toNat * d = m * Core.inUnits d r Core.b64.qmin := by
  have hqm : Core.b64.qmin = -1074 := Core.qmin_b64
  refine ⟨by omega, by omega, ?_, fun m => ?_⟩
  · unfold Core.inUnits
    rw [show (q - r - (2 * Core.b64.qmin - r)).toNat = (q - Core.b64.qmin).toNat + (-Core.b64.qmin).toNat by omega, Nat.pow_add, Core.pow_qmin64, Nat.mul_assoc]
  · unfold Core.inUnits
    rw [show (Core.b64.qmin - (2 * Core.b64.qmin - r)).toNat = (r - Core.b64.qmin).toNat by omega, Nat.mul_assoc, Nat.mul_comm d]
theorem own_divle {a b V : UInt64} (ha : Core.DFin a) (hb : Core.DFin b) (hz : own_zm b ≠ 0) (hV : Core.val64 V ≠ .nan) (h : own_zm a * Core.one64 ≤ own_zm V * own_zm b) : own_zm (FP.ddiv a b) ≤ own_zm V := by
  obtain ⟨s, t, c, d, q, r, ea, eb, hd, hq, hr, e⟩ := own_divdat ha hb hz
  obtain ⟨u1, u2, u3, u4⟩ := own_divunits (c := c) (d := d) hq hr
  unfold own_zm
  rw [e]
  refine Core.zmag_roundRatio_le Core.good_b64 hd (Core.val64_fits V) hV u1 u2 ?_
  rw [u3, u4]
  simp only [own_zm, ea, eb] at h
  exact h
theorem own_divge {a b V : UInt64} (ha : Core.DFin a) (hb : Core.DFin b) (hz : own_zm b ≠ 0) (h : own_zm V * own_zm b ≤ own_zm a * Core.one64) : own_zm V ≤ own_zm (FP.ddiv a b) := by
  obtain ⟨s, t, c, d, q, r, ea, eb, hd, hq, hr, e⟩ := own_divdat ha hb hz
  obtain ⟨u1, u2, u3, u4⟩ := own_divunits (c := c) (d := d) hq hr
  unfold own_zm
  rw [e]
  refine Core.zmag_roundRatio_ge Core.good_b64 hd (Core.val64_fits V) u1 u2 ?_
  rw [u3, u4]
  simp only [own_zm, ea, eb] at h
  exact h
theorem own_divsgn {a b : UInt64} (ha : Core.DFin a) (hb : Core.DFin b) (hz : own_zm b ≠ 0) : Core.sgn (Core.val64 (FP.ddiv a b)) = (Core.sgn (Core.val64 a) != Core.sgn (Core.val64 b)) ∧ Core.val64 (FP.ddiv a b) ≠ .nan := by
  obtain ⟨s, t, c, d, q, r, ea, eb, hd, hq, hr, e⟩ := own_divdat ha hb hz
  rw [e, ea, eb]
  exact ⟨Core.sgn_roundRatio _ _ _ _ _, Core.roundRatio_ne_nan _ _ _ _ _⟩
theorem own_fintop {a : UInt64} (hn : Core.val64 a ≠ .nan) (h : own_zm a < Core.b64.tails * 2 ^ (Core.b64.exps - 2)) : Core.DFin a := by
  cases e : Core.val64 a with
  | nan => exact absurd e hn
  | inf s => rw [own_zm, e] at h; exact absurd h (Nat.lt_irrefl _)
  | fin s c q => exact ⟨s, c, q, e⟩
theorem own_finle {a V : UInt64} (hn : Core.val64 a ≠ .nan) (hV : Core.DFin V) (h : own_zm a ≤ own_zm V) : Core.DFin a := own_fintop hn (Nat.lt_of_le_of_lt h hV.zval_lt)
theorem own_zmabs (a : UInt64) : (own_zv a).natAbs = own_zm a := Core.natAbs_signed _ _
theorem own_addne {a b : UInt64} (ha : Core.DFin a) (hb : Core.DFin b) : Core.val64 (FP.dadd a b) ≠ .nan := (Core.notNaN_iff _).mp (Core.dadd_out ha.notNaN hb)
theorem own_subne {a b : UInt64} (ha : Core.DFin a) (hb : Core.DFin b) : Core.val64 (FP.dsub a b) ≠ .nan := (Core.notNaN_iff _).mp (Core.dsub_out ha.notNaN hb)
theorem own_mulne {a b : UInt64} (ha : Core.DFin a) (hb : Core.DFin b) : Core.val64 (FP.dmul a b) ≠ .nan := (Core.notNaN_iff _).mp (Core.dmul_out ha hb)
theorem own_nnof {a : UInt64} (h : Core.val64 a ≠ .nan) : NoNaN64 a := val64_no.mpr h
/-- the double a is i times two to the power (j - 1074) -/
def own_Z (j : Nat) (i : Int) (a : UInt64) : Prop := Core.DFin a ∧ own_zv a = i * ((2 ^ j : Nat) : Int)
theorem own_rep (n : Int) (j : Nat) (hn : n.natAbs < 2 ^ 53) (hj : j ≤ 2045) : ∃ V, own_Z j n V := by
  have hqm : Core.b64.qmin = -1074 := Core.qmin_b64
  have hqx : Core.b64.qmax = 971 := by decide
  obtain ⟨c', q', h1, h2⟩ := Core.round_exact Core.good_b64 (decide (n < 0)) (c := n.natAbs) (q := Core.b64.qmin + j) hn (by omega) (by omega)
  have hv : Core.val64 (Core.of64 (Core.round Core.b64 (.fin (decide (n < 0)) n.natAbs (Core.b64.qmin + j)))) = .fin (decide (n < 0)) c' q' := by
    rw [Core.val64_of64 (Core.round_fits Core.good_b64 _), h1]
  refine ⟨_, ⟨_, _, _, hv⟩, ?_⟩
  unfold own_zv
  rw [hv]
  show Core.signed (decide (n < 0)) (Core.inUnits c' q' Core.b64.qmin) = _
  rw [h2]
  unfold Core.inUnits
  rw [show (Core.b64.qmin + (j : Int) - Core.b64.qmin).toNat = j by omega, Core.signed_mul]
  congr 1
  unfold Core.signed
  by_cases h : n < 0 <;> simp [h] <;> omega
theorem own_Z.nn {j : Nat} {i : Int} {a : UInt64} (h : own_Z j i a) : NoNaN64 a := own_finnn h.1
theorem own_Z.eqv {j : Nat} {i : Int} {a V : UInt64} (hV : own_Z j i V) (hn : Core.val64 a ≠ .nan) (h1 : own_zv a ≤ own_zv V) (h2 : own_zv V ≤ own_zv a) : own_Z j i a := by
  have e : own_zv a = own_zv V := Int.le_antisymm h1 h2
  refine ⟨own_finle hn hV.1 ?_, e.trans hV.2⟩
  rw [← own_zmabs, ← own_zmabs, e]; exact Nat.le_refl _
theorem own_Z.add {j : Nat} {i k : Int} {a b : UInt64} (ha : own_Z j i a) (hb : own_Z j k b) (hn : (i + k).natAbs < 2 ^ 53) (hj : j ≤ 2045 := by decide) : own_Z j (i + k) (FP.dadd a b) := by
  obtain ⟨V, hV⟩ := own_rep (i + k) j hn hj
  have e : own_zv a + own_zv b = own_zv V := by rw [ha.2, hb.2, hV.2, Int.add_mul]
  exact hV.eqv (own_addne ha.1 hb.1) (own_addle ha.1 hb.1 (own_finne hV.1) (Int.le_of_eq e)) (own_addge ha.1 hb.1 (own_finne hV.1) (Int.le_of_eq e.symm))
theorem own_Z.sub {j : Nat} {i k : Int} {a b : UInt64} (ha : own_Z j i a) (hb : own_Z j k b) (hn : (i - k).natAbs < 2 ^ 53) (hj : j ≤ 2045 := by decide) : own_Z j (i - k) (FP.dsub a b) := by
  obtain ⟨V, hV⟩ := own_rep (i - k) j hn hj
  have e : own_zv a - own_zv b = own_zv V := by rw [ha.2, hb.2, hV.2, Int.sub_mul]
  exact hV.eqv (own_subne ha.1 hb.1) (own_suble ha.1 hb.1 (own_finne hV.1) (Int.le_of_eq e)) (own_subge ha.1 hb.1 (own_finne hV.1) (Int.le_of_eq e.symm))
theorem own_Z.mul {j j' J : Nat} {i k : Int} {a b : UInt64} (ha : own_Z j i a) (hb : own_Z j' k b) (hn : (i * k).natAbs < 2 ^ 53) (hJ : J + 1074 = j + j' := by decide) (hj : J ≤ 2045 := by decide) : own_Z J (i * k) (FP.dmul a b) := by
  obtain ⟨V, hV⟩ := own_rep (i * k) J hn hj
  have e : own_zv a * own_zv b = own_zv V * (Core.one64 : Int) := by
    rw [ha.2, hb.2, hV.2, own_one, Int.mul_assoc (i * k), ← Int.natCast_mul, ← Nat.pow_add, hJ, Nat.pow_add, Int.natCast_mul]
    simp only [Int.mul_assoc, Int.mul_left_comm, Int.mul_comm]
  exact hV.eqv (own_mulne ha.1 hb.1) (own_mulle ha.1 hb.1 (own_finne hV.1) (Int.le_of_eq e)) (own_mulge ha.1 hb.1 (own_finne hV.1) (Int.le_of_eq e.symm))
theorem own_zmZ {j : Nat} {i : Int} {a : UInt64} (h : own_Z j i a) : own_zm a = i.natAbs * 2 ^ j := by
  rw [← own_zmabs, h.2, Int.natAbs_mul, Int.natAbs_natCast]
theorem own_Z.div {j j' J : Nat} {i m : Int} {a b : UInt64} (ha : own_Z j (i * m) a) (hb : own_Z j' m b) (hm : m ≠ 0) (hn : i.natAbs < 2 ^ 53) (hJ : J + j' = j + 1074 := by decide) (hj : J ≤ 2045 := by decide) : own_Z J i (FP.ddiv a b) := by
  obtain ⟨V, hV⟩ := own_rep i J hn hj
  have hb0 : own_zm b ≠ 0 := by
    rw [own_zmZ hb]
    exact Nat.mul_ne_zero (by omega) (Nat.ne_of_gt (Nat.two_pow_pos _))
  have e : own_zm a * Core.one64 = own_zm V * own_zm b := by
    rw [own_zmZ ha, own_zmZ hb, own_zmZ hV, own_one, Int.natAbs_mul, Nat.mul_assoc, ← Nat.pow_add, ← hJ, Nat.pow_add]
    simp only [Nat.mul_assoc, Nat.mul_left_comm, Nat.mul_comm]
  obtain ⟨hs, hne⟩ := own_divsgn ha.1 hb.1 hb0
  have em : own_zm (FP.ddiv a b) = own_zm V := Nat.le_antisymm (own_divle ha.1 hb.1 hb0 (own_finne hV.1) (Nat.le_of_eq e)) (own_divge ha.1 hb.1 hb0 (Nat.le_of_eq e.symm))
  refine ⟨own_finle hne hV.1 (Nat.le_of_eq em), ?_⟩
  have ev : own_zv (FP.ddiv a b) * own_zv b = own_zv a * (Core.one64 : Int) := by
    show Core.signed _ _ * Core.signed _ _ = Core.signed _ _ * _
    rw [← Core.signed_xor, hs, ← Core.signed_mul]
    have e2 : Core.zmag Core.b64 (Core.val64 (FP.ddiv a b)) * Core.zmag Core.b64 (Core.val64 b) = Core.zmag Core.b64 (Core.val64 a) * Core.one64 := by
      rw [show Core.zmag Core.b64 (Core.val64 (FP.ddiv a b)) = own_zm V from em]; exact e.symm
    rw [e2]
    cases Core.sgn (Core.val64 a) <;> cases Core.sgn (Core.val64 b) <;> rfl
  rw [ha.2, hb.2, own_one] at ev
  have hp : ((2 ^ j' : Nat) : Int) ≠ 0 := by have := Nat.two_pow_pos j'; omega
  refine Int.eq_of_mul_eq_mul_right (Int.mul_ne_zero hm hp) (ev.trans ?_)
  rw [Int.mul_assoc (i * m), ← Int.natCast_mul, ← Nat.pow_add, ← hJ, Nat.pow_add, Int.natCast_mul]
  simp only [Int.mul_assoc, Int.mul_left_comm, Int.mul_comm]
theorem own_Z.neg {j : Nat} {i : Int} {a : UInt64} (h : own_Z j i a) : own_Z j (-i) (FP.dneg a) := by
  refine ⟨?_, ?_⟩
  · obtain ⟨s, c, q, e⟩ := own_negfin h.1
    exact ⟨s, c, q, by rw [FP.val64_dneg]; exact e⟩
  · unfold own_zv
    rw [FP.val64_dneg, Core.zval_negate]
    have := h.2; unfold own_zv at this; rw [this, Int.neg_mul]
theorem own_Z.of_int {i : Int} {a : UInt64} (h : Core.DInt i a) : own_Z 1074 i a := by
  refine ⟨?_, Core.DInt_zval h⟩
  unfold Core.DInt at h
  cases e : Core.val64 a with
  | nan => rw [e] at h; exact h.elim
  | inf s => rw [e] at h; exact h.elim
  | fin s c q => exact ⟨s, c, q, e⟩
theorem own_Z.i2d (x : Int32) : own_Z 1074 x.toInt (FP.i2d x) := own_Z.of_int (Core.i2d_int x)
theorem own_Z.l2d {x : Int64} (h : x.toInt.natAbs ≤ 2 ^ 53) : own_Z 1074 x.toInt (FP.l2d x) := own_Z.of_int (Core.l2d_int h)
theorem own_Z.shift {j k : Nat} {i : Int} {a : UInt64} (h : own_Z (j + k) i a) : own_Z j (i * ((2 ^ k : Nat) : Int)) a := by
  refine ⟨h.1, h.2.trans ?_⟩
  rw [Nat.add_comm, Nat.pow_add, Int.natCast_mul, Int.mul_assoc]
theorem own_Z.cmp {j : Nat} {i k : Int} {a b : UInt64} (ha : own_Z j i a) (hb : own_Z j k b) : FP.dcmp a b = some (compare i k) := by
  have h := Core.dcmp_zval (own_finne ha.1) (own_finne hb.1)
  have h1 := ha.2; have h2 := hb.2
  unfold own_zv at h1 h2
  rw [h1, h2, Core.compare_mul_pos _ _ _ (by have := Nat.two_pow_pos j; omega)] at h
  exact h
theorem own_Z.cmpE {j : Nat} {i k : Int} {a b : UInt64} (ha : own_Z j i a) (hb : own_Z j k b) (h : i = k) (o : CmpOp) : cmpValue (FP.dcmp a b) o = 0 := by
  rw [ha.cmp hb, (Core.compare_eq_iff _ _).mpr h]; cases o <;> rfl
theorem own_Z.cmpL {j : Nat} {i k : Int} {a b : UInt64} (ha : own_Z j i a) (hb : own_Z j k b) (h : i < k) (o : CmpOp) : cmpValue (FP.dcmp a b) o = -1 := by
  rw [ha.cmp hb, (Core.compare_lt_iff _ _).mpr h]; cases o <;> rfl
theorem own_Z.cmpG {j : Nat} {i k : Int} {a b : UInt64} (ha : own_Z j i a) (hb : own_Z j k b) (h : k < i) (o : CmpOp) : cmpValue (FP.dcmp a b) o = 1 := by
  rw [ha.cmp hb, (Core.compare_gt_iff _ _).mpr h]; cases o <;> rfl
theorem own_Z.eq {j : Nat} {i k : Int} {a : UInt64} (ha : own_Z j i a) (h : i = k) : own_Z j k a := h ▸ ha
theorem own_mulb {a b : Int} {A B : Nat} (ha : a.natAbs ≤ A) (hb : b.natAbs ≤ B) : (a * b).natAbs ≤ A * B := by
  rw [Int.natAbs_mul]; exact Nat.mul_le_mul ha hb
theorem own_Z0 : own_Z 1074 0 0 := by
  refine ⟨⟨false, 0, Core.b64.qmin, by decide +kernel⟩, by decide +kernel⟩
theorem own_Z1 : own_Z 1074 1 4607182418800017408 := own_Z.of_int Core.dint_one
end OwnFl
theorem own_dneg_lt (x y : Int32) (o : CmpOp) : cmpValue (FP.dcmp (FP.dneg (FP.i2d x)) (FP.dneg (FP.i2d y))) o < 0 ↔ y < x := by
  have w : y < x ↔ y.toInt < x.toInt := Int32.lt_iff_toInt_lt
  rw [(own_Z.i2d x).neg.cmp (own_Z.i2d y).neg]
  rcases Int.lt_trichotomy (-x.toInt) (-y.toInt) with h | h | h
  · rw [(Jvm.FP.Core.compare_lt_iff _ _).mpr h]
    exact ⟨fun _ => w.mpr (by omega), fun _ => by cases o <;> decide⟩
  · rw [(Jvm.FP.Core.compare_eq_iff _ _).mpr h]
    exact ⟨fun q => absurd q (by cases o <;> decide), fun q => absurd (w.mp q) (by omega)⟩
  · rw [(Jvm.FP.Core.compare_gt_iff _ _).mpr h]
    exact ⟨fun q => absurd q (by cases o <;> decide), fun q => absurd (w.mp q) (by omega)⟩
theorem own_d1_0 : decode prog_11_method_4_code 0 = .ok (.aload_n 0, 1) := by decide +kernel
theorem own_d1_1 : decode prog_11_method_4_code 1 = .ok (.getstatic 3, 3) := by decide +kernel
theorem own_d1_4 : decode prog_11_method_4_code 4 = .ok (.if_acmp .ne 7, 3) := by decide +kernel
theorem own_d1_7 : decode prog_11_method_4_code 7 = .ok (.dload_n 1, 1) := by decide +kernel
theorem own_d1_8 : decode prog_11_method_4_code 8 = .ok (.goto 5, 3) := by decide +kernel
theorem own_d1_13 : decode prog_11_method_4_code 13 = .ok (.dreturn, 1) := by decide +kernel
set_option maxHeartbeats 4000000 in
theorem own_ef1H (m : MethodId) (x0 : Addr) (x1 : UInt64) : entryFrame m #[(.ref x0), (.double x1)] 3 = mkF m 0 #[.val (.ref x0), .val (.double x1), .second] [] := by first | (simp [entryFrame, mkF, argsToLocals, Value.category]; done) | rfl
theorem own_pn0 : plainName "com/example/usurf/usurf/Evaluation$SpamWhen" = true := by first | (simp [plainName, overriddenIn]; done) | decide +kernel
def own_Q1H (Z : State) (a0 : Array Value) (o0 : Addr) (d1 : UInt64) (h0 : Heap) (n0 : Nat) (v : Option Value) (h : Heap) (L : List Loc) : Prop := v = some (.double d1) ∧ Fr n0 L ∧ h = h0
set_option maxRecDepth 65536 in
set_option maxHeartbeats 40000000 in
theorem own_rm1H (l : Launch) (Z : State) (a0 : Array Value) (hw : ∀ d ∈ tables_1, d.before a0 Z = true) (ws : List Jvm.Cond) (o0 : Addr) (d1 : UInt64) (h0 : Heap) (n0 : Nat) (Z0 : n0 ≤ h0.size) (O0 : Old Z n0 h0) (S_H : Sta Z Z.heap "com/example/usurf/usurf/Evaluation$SpamWhen" "HIGH" "Lcom/example/usurf/usurf/Evaluation$SpamWhen;" (.ref o0)) :
    MetFree l (⟨"com/example/usurf/usurf/Evaluation$SpamWhen", "suspicion", "(D)D"⟩ : MethodName) (head1 (Jvm.Cond.code (⟨"com/example/usurf/usurf/Evaluation$SpamWhen", "suspicion", "(D)D"⟩ : MethodName) prog_11_method_4_code 3 (some .double) :: ws) ({ frames := 0, cells := 0, slots := 0, locals := 0 } : Room)) (fun a U => a = #[(.ref o0), (.double d1)] ∧ Z.Warmed39 U.vm ∧ U.heap = h0) (fun _ _ _ _ _ => True) (fun _ U o U' => ∃ v L, o = .returned v ∧ own_Q1H Z a0 o0 d1 h0 n0 v U'.heap L ∧ FrameEnd U o U' L ({ frames := 0, cells := 0, slots := 0, locals := 0 } : Room).cells ({ frames := 0, cells := 0, slots := 0, locals := 0 } : Room).slots) := by
  refine own_body (Q := fun v h L => own_Q1H Z a0 o0 d1 h0 n0 v h L) (plainFor_of_name own_pn0) ?_
  intro p e s m below meth c s₁ hx hby hml hZ hown hnm hret hlk X0 e0
  replace hml : c.maxLocals = 3 := hml
  have N0 := Fr.nil n0
  have K0 : Keep h0 h0 [] := Keep.refl _ _
  refine own_st (fun t k => castTop (own_ef1H m o0 d1) k) ?_
  show own_Run p e below s _ _ _ (s₁.setTop (mkF m 0 #[.val (.ref o0), .val (.double d1), .second] []))
  refine own_st (fun t k => XS.aloadN X0.here hx rfl (hb hby own_d1_0) rfl rfl k) ?_
  show own_Run p e below s _ _ _ (s₁.setTop (mkF m 1 #[.val (.ref o0), .val (.double d1), .second] [(.ref o0)]))
  obtain ⟨T1, X1, e1, st1⟩ := getS2 X0 hx hZ hown (host := "") (Or.inl (hw _ (List.mem_of_getElem? (i := 8) rfl))) Via.refl e0 (S_H.ext O0.2) (g := (mkF m 1 #[.val (.ref o0), .val (.double d1), .second] [(.ref o0)])) rfl (hb hby own_d1_1)
  refine own_st st1 ?_
  show own_Run p e below s _ _ _ (T1.setTop (mkF m 4 #[.val (.ref o0), .val (.double d1), .second] [(.ref o0), (.ref o0)]))
  refine own_st (fun t k => Jvm.RoadKit.acmp (g := (mkF m 4 #[.val (.ref o0), .val (.double d1), .second] [(.ref o0), (.ref o0)])) X1 hx rfl rfl rfl (pc0 := 4) (pc' := 7) (same := true) rfl (hb hby own_d1_4) rfl (decide_eq_true rfl) (by decide) (by decide) k) ?_
  show own_Run p e below s _ _ _ (T1.setTop (mkF m 7 #[.val (.ref o0), .val (.double d1), .second] []))
  refine own_st (fun t k => XS.dloadN X1.here hx rfl (hb hby own_d1_7) rfl k) ?_
  show own_Run p e below s _ _ _ (T1.setTop (mkF m 8 #[.val (.ref o0), .val (.double d1), .second] [(.double d1)]))
  refine own_st (fun t k => XS.goto X1.here hx rfl (pc0 := 8) (pc' := 13) rfl (hb hby own_d1_8) (by decide) (by decide) k) ?_
  show own_Run p e below s _ _ _ (T1.setTop (mkF m 13 #[.val (.ref o0), .val (.double d1), .second] [(.double d1)]))
  exact own_ret X1 hx hlk (t := .double) hret rfl (Or.inr (Or.inr (Or.inl ⟨rfl, rfl, _, rfl⟩))) (hb hby own_d1_13) (by decide) (by decide) ⟨rfl, N0, e1⟩
theorem own_d1_11 : decode prog_11_method_4_code 11 = .ok (.dload_n 1, 1) := by decide +kernel
theorem own_d1_12 : decode prog_11_method_4_code 12 = .ok (.dneg, 1) := by decide +kernel
set_option maxHeartbeats 4000000 in
theorem own_ef1L (m : MethodId) (x0 : Addr) (x1 : UInt64) : entryFrame m #[(.ref x0), (.double x1)] 3 = mkF m 0 #[.val (.ref x0), .val (.double x1), .second] [] := by first | (simp [entryFrame, mkF, argsToLocals, Value.category]; done) | rfl
def own_Q1L (Z : State) (a0 : Array Value) (o0 : Addr) (d1 : UInt64) (th : Addr) (h0 : Heap) (n0 : Nat) (v : Option Value) (h : Heap) (L : List Loc) : Prop := v = some (.double (FP.dneg d1)) ∧ Fr n0 L ∧ h = h0
set_option maxRecDepth 65536 in
set_option maxHeartbeats 40000000 in
theorem own_rm1L (l : Launch) (Z : State) (a0 : Array Value) (hw : ∀ d ∈ tables_1, d.before a0 Z = true) (ws : List Jvm.Cond) (o0 : Addr) (d1 : UInt64) (th : Addr) (h0 : Heap) (n0 : Nat) (Z0 : n0 ≤ h0.size) (O0 : Old Z n0 h0) (S_H : Sta Z Z.heap "com/example/usurf/usurf/Evaluation$SpamWhen" "HIGH" "Lcom/example/usurf/usurf/Evaluation$SpamWhen;" (.ref th)) (ne1 : o0 ≠ th) :
    MetFree l (⟨"com/example/usurf/usurf/Evaluation$SpamWhen", "suspicion", "(D)D"⟩ : MethodName) (head1 (Jvm.Cond.code (⟨"com/example/usurf/usurf/Evaluation$SpamWhen", "suspicion", "(D)D"⟩ : MethodName) prog_11_method_4_code 3 (some .double) :: ws) ({ frames := 0, cells := 0, slots := 0, locals := 0 } : Room)) (fun a U => a = #[(.ref o0), (.double d1)] ∧ Z.Warmed39 U.vm ∧ U.heap = h0) (fun _ _ _ _ _ => True) (fun _ U o U' => ∃ v L, o = .returned v ∧ own_Q1L Z a0 o0 d1 th h0 n0 v U'.heap L ∧ FrameEnd U o U' L ({ frames := 0, cells := 0, slots := 0, locals := 0 } : Room).cells ({ frames := 0, cells := 0, slots := 0, locals := 0 } : Room).slots) := by
  refine own_body (Q := fun v h L => own_Q1L Z a0 o0 d1 th h0 n0 v h L) (plainFor_of_name own_pn0) ?_
  intro p e s m below meth c s₁ hx hby hml hZ hown hnm hret hlk X0 e0
  replace hml : c.maxLocals = 3 := hml
  have N0 := Fr.nil n0
  have K0 : Keep h0 h0 [] := Keep.refl _ _
  refine own_st (fun t k => castTop (own_ef1L m o0 d1) k) ?_
  show own_Run p e below s _ _ _ (s₁.setTop (mkF m 0 #[.val (.ref o0), .val (.double d1), .second] []))
  refine own_st (fun t k => XS.aloadN X0.here hx rfl (hb hby own_d1_0) rfl rfl k) ?_
  show own_Run p e below s _ _ _ (s₁.setTop (mkF m 1 #[.val (.ref o0), .val (.double d1), .second] [(.ref o0)]))
  obtain ⟨T2, X2, e2, st2⟩ := getS2 X0 hx hZ hown (host := "") (Or.inl (hw _ (List.mem_of_getElem? (i := 8) rfl))) Via.refl e0 (S_H.ext O0.2) (g := (mkF m 1 #[.val (.ref o0), .val (.double d1), .second] [(.ref o0)])) rfl (hb hby own_d1_1)
  refine own_st st2 ?_
  show own_Run p e below s _ _ _ (T2.setTop (mkF m 4 #[.val (.ref o0), .val (.double d1), .second] [(.ref th), (.ref o0)]))
  refine own_st (fun t k => Jvm.RoadKit.acmp (g := (mkF m 4 #[.val (.ref o0), .val (.double d1), .second] [(.ref th), (.ref o0)])) X2 hx rfl rfl rfl (pc0 := 4) (pc' := 11) (same := false) rfl (hb hby own_d1_4) rfl (decide_eq_false fun q => ne1 (Value.ref.inj q)) (by decide) (by decide) k) ?_
  show own_Run p e below s _ _ _ (T2.setTop (mkF m 11 #[.val (.ref o0), .val (.double d1), .second] []))
  refine own_st (fun t k => XS.dloadN X2.here hx rfl (hb hby own_d1_11) rfl k) ?_
  show own_Run p e below s _ _ _ (T2.setTop (mkF m 12 #[.val (.ref o0), .val (.double d1), .second] [(.double d1)]))
  refine own_st (fun t k => XS.dnegS X2.here hx rfl (hb hby own_d1_12) rfl (v := (FP.dneg d1)) (rfl) k) ?_
  show own_Run p e below s _ _ _ (T2.setTop (mkF m 13 #[.val (.ref o0), .val (.double d1), .second] [(.double (FP.dneg d1))]))
  exact own_ret X2 hx hlk (t := .double) hret rfl (Or.inr (Or.inr (Or.inl ⟨rfl, rfl, _, rfl⟩))) (hb hby own_d1_13) (by decide) (by decide) ⟨rfl, N0, e2⟩
theorem own_pd1 : parseMethodDescriptor "(D)D" = some ⟨[.double], some .double⟩ := by decide +kernel
set_option maxHeartbeats 4000000 in
theorem own_ef0 (m : MethodId) (x0 : Int32) (x1 : Int32) (x2 : Int32) : entryFrame m #[(.int x0), (.int x1), (.int x2)] maxLocals = mkF m 0 #[.val (.int x0), .val (.int x1), .val (.int x2), .unset, .unset, .unset, .unset, .unset, .unset, .unset, .unset, .unset, .unset, .unset, .unset, .unset] [] := by first | (simp [entryFrame, mkF, argsToLocals, Value.category, maxLocals]; done) | rfl
theorem own_pn2 : plainName "com/example/usurf/usurf/SpamWhenSuspicionPinLaw" = true := by first | (simp [plainName, overriddenIn]; done) | decide +kernel
def own_Q0 (Z : State) (a0 : Array Value) (i0 : Int32) (i1 : Int32) (i2 : Int32) (th : Addr) (tl : Addr) (h0 : Heap) (n0 : Nat) (v : Option Value) (h : Heap) (L : List Loc) : Prop := v = some (.int 1) ∧ Fr n0 L
set_option maxRecDepth 65536 in
set_option maxHeartbeats 40000000 in
theorem own_rm0 (l : Launch) (Z : State) (a0 : Array Value) (hw : ∀ d ∈ tables_1, d.before a0 Z = true) (ws : List Jvm.Cond) (i0 : Int32) (i1 : Int32) (i2 : Int32) (th : Addr) (tl : Addr) (h0 : Heap) (n0 : Nat) (Z0 : n0 ≤ h0.size) (O0 : Old Z n0 h0) (S_H : Sta Z Z.heap "com/example/usurf/usurf/Evaluation$SpamWhen" "HIGH" "Lcom/example/usurf/usurf/Evaluation$SpamWhen;" (.ref th)) (S_L : Sta Z Z.heap "com/example/usurf/usurf/Evaluation$SpamWhen" "LOW" "Lcom/example/usurf/usurf/Evaluation$SpamWhen;" (.ref tl)) (E_th : Exa Z h0 th "com/example/usurf/usurf/Evaluation$SpamWhen") (E_tl : Exa Z h0 tl "com/example/usurf/usurf/Evaluation$SpamWhen") (ne0 : tl ≠ th) :
    MetFree l x (head1 (Jvm.Cond.code x code maxLocals ret :: ws) room_1) (fun a U => a = #[(.int i0), (.int i1), (.int i2)] ∧ Z.Warmed39 U.vm ∧ U.heap = h0) (fun _ _ _ _ _ => True) (fun _ U o U' => ∃ v L, o = .returned v ∧ own_Q0 Z a0 i0 i1 i2 th tl h0 n0 v U'.heap L ∧ FrameEnd U o U' L room_1.cells room_1.slots) := by
  refine own_body (Q := fun v h L => own_Q0 Z a0 i0 i1 i2 th tl h0 n0 v h L) (plainFor_of_name own_pn2) ?_
  intro p e s m below meth c s₁ hx hby hml hZ hown hnm hret hlk X0 e0
  replace hml : c.maxLocals = 16 := hml
  replace hown : s.vm.findClass "com/example/usurf/usurf/SpamWhenSuspicionPinLaw" = some m.cls := hown
  have N0 := Fr.nil n0
  have K0 : Keep h0 h0 [] := Keep.refl _ _
  refine own_st (fun t k => castTop (own_ef0 m i0 i1 i2) k) ?_
  show own_Run p e below s _ _ _ (s₁.setTop (mkF m 0 #[.val (.int i0), .val (.int i1), .val (.int i2), .unset, .unset, .unset, .unset, .unset, .unset, .unset, .unset, .unset, .unset, .unset, .unset, .unset] []))
  refine own_st (fun t k => XS.iloadN X0.here hx rfl (hb hby at_0) rfl k) ?_
  show own_Run p e below s _ _ _ (s₁.setTop (mkF m 1 #[.val (.int i0), .val (.int i1), .val (.int i2), .unset, .unset, .unset, .unset, .unset, .unset, .unset, .unset, .unset, .unset, .unset, .unset, .unset] [(.int i2)]))
  refine own_st (fun t k => XS.iconst X0.here hx rfl (hb hby at_1) k) ?_
  show own_Run p e below s _ _ _ (s₁.setTop (mkF m 2 #[.val (.int i0), .val (.int i1), .val (.int i2), .unset, .unset, .unset, .unset, .unset, .unset, .unset, .unset, .unset, .unset, .unset, .unset, .unset] [(.int (1 : Int32)), (.int i2)]))
  refine own_st (fun t k => XS.iand X0.here hx rfl (hb hby at_2) rfl k) ?_
  show own_Run p e below s _ _ _ (s₁.setTop (mkF m 3 #[.val (.int i0), .val (.int i1), .val (.int i2), .unset, .unset, .unset, .unset, .unset, .unset, .unset, .unset, .unset, .unset, .unset, .unset, .unset] [(.int (i2 &&& (1 : Int32)))]))
  by_cases hc3 : (i2 &&& (1 : Int32)) = (0 : Int32)
  · skip
    refine own_st (fun t k => XS.ifYes X0.here hx rfl (pc0 := 3) (pc' := 10) rfl (hb hby at_3) rfl ((if0 _ _).trans (teq (hc3 : (i2 &&& (1 : Int32)) = (0 : Int32))).1) (by decide) (by decide) k) ?_
    show own_Run p e below s _ _ _ (s₁.setTop (mkF m 10 #[.val (.int i0), .val (.int i1), .val (.int i2), .unset, .unset, .unset, .unset, .unset, .unset, .unset, .unset, .unset, .unset, .unset, .unset, .unset] []))
    refine own_st (fun t k => XS.iconst X0.here hx rfl (hb hby at_10) k) ?_
    show own_Run p e below s _ _ _ (s₁.setTop (mkF m 11 #[.val (.int i0), .val (.int i1), .val (.int i2), .unset, .unset, .unset, .unset, .unset, .unset, .unset, .unset, .unset, .unset, .unset, .unset, .unset] [(.int (0 : Int32))]))
    refine own_st (fun t k => XS.istoreN X0.here hx rfl (hb hby at_11) rfl (l' := #[.val (.int i0), .val (.int i1), .val (.int i2), .val (.int (0 : Int32)), .unset, .unset, .unset, .unset, .unset, .unset, .unset, .unset, .unset, .unset, .unset, .unset]) rfl k) ?_
    show own_Run p e below s _ _ _ (s₁.setTop (mkF m 12 #[.val (.int i0), .val (.int i1), .val (.int i2), .val (.int (0 : Int32)), .unset, .unset, .unset, .unset, .unset, .unset, .unset, .unset, .unset, .unset, .unset, .unset] []))
    refine own_st (fun t k => XS.iloadN X0.here hx rfl (hb hby at_12) rfl k) ?_
    show own_Run p e below s _ _ _ (s₁.setTop (mkF m 13 #[.val (.int i0), .val (.int i1), .val (.int i2), .val (.int (0 : Int32)), .unset, .unset, .unset, .unset, .unset, .unset, .unset, .unset, .unset, .unset, .unset, .unset] [(.int (0 : Int32))]))
    refine own_st (fun t k => XS.ifYes X0.here hx rfl (pc0 := 13) (pc' := 22) rfl (hb hby at_13) rfl ((if0 _ _).trans (teq (by decide : (0 : Int32) = (0 : Int32))).1) (by decide) (by decide) k) ?_
    show own_Run p e below s _ _ _ (s₁.setTop (mkF m 22 #[.val (.int i0), .val (.int i1), .val (.int i2), .val (.int (0 : Int32)), .unset, .unset, .unset, .unset, .unset, .unset, .unset, .unset, .unset, .unset, .unset, .unset] []))
    obtain ⟨T4, X4, e4, st4⟩ := getS2 X0 hx hZ hown (host := "") (Or.inl (hw _ (List.mem_of_getElem? (i := 0) rfl))) Via.refl e0 (S_L.ext O0.2) (g := (mkF m 22 #[.val (.int i0), .val (.int i1), .val (.int i2), .val (.int (0 : Int32)), .unset, .unset, .unset, .unset, .unset, .unset, .unset, .unset, .unset, .unset, .unset, .unset] [])) rfl (hb hby at_22)
    refine own_st st4 ?_
    show own_Run p e below s _ _ _ (T4.setTop (mkF m 25 #[.val (.int i0), .val (.int i1), .val (.int i2), .val (.int (0 : Int32)), .unset, .unset, .unset, .unset, .unset, .unset, .unset, .unset, .unset, .unset, .unset, .unset] [(.ref tl)]))
    refine own_st (fun t k => XS.astore X4.here hx rfl (hb hby at_25) rfl rfl (l' := #[.val (.int i0), .val (.int i1), .val (.int i2), .val (.int (0 : Int32)), .val (.ref tl), .unset, .unset, .unset, .unset, .unset, .unset, .unset, .unset, .unset, .unset, .unset]) rfl k) ?_
    show own_Run p e below s _ _ _ (T4.setTop (mkF m 27 #[.val (.int i0), .val (.int i1), .val (.int i2), .val (.int (0 : Int32)), .val (.ref tl), .unset, .unset, .unset, .unset, .unset, .unset, .unset, .unset, .unset, .unset, .unset] []))
    refine own_st (fun t k => XS.iloadN X4.here hx rfl (hb hby at_27) rfl k) ?_
    show own_Run p e below s _ _ _ (T4.setTop (mkF m 28 #[.val (.int i0), .val (.int i1), .val (.int i2), .val (.int (0 : Int32)), .val (.ref tl), .unset, .unset, .unset, .unset, .unset, .unset, .unset, .unset, .unset, .unset, .unset] [(.int i0)]))
    refine own_st (fun t k => XS.i2dS X4.here hx rfl (hb hby at_28) rfl (v := (FP.i2d i0)) (rfl) k) ?_
    show own_Run p e below s _ _ _ (T4.setTop (mkF m 29 #[.val (.int i0), .val (.int i1), .val (.int i2), .val (.int (0 : Int32)), .val (.ref tl), .unset, .unset, .unset, .unset, .unset, .unset, .unset, .unset, .unset, .unset, .unset] [(.double (FP.i2d i0))]))
    refine own_st (fun t k => XS.dstore X4.here hx rfl (hb hby at_29) rfl (l' := #[.val (.int i0), .val (.int i1), .val (.int i2), .val (.int (0 : Int32)), .val (.ref tl), .val (.double (FP.i2d i0)), .second, .unset, .unset, .unset, .unset, .unset, .unset, .unset, .unset, .unset]) rfl k) ?_
    show own_Run p e below s _ _ _ (T4.setTop (mkF m 31 #[.val (.int i0), .val (.int i1), .val (.int i2), .val (.int (0 : Int32)), .val (.ref tl), .val (.double (FP.i2d i0)), .second, .unset, .unset, .unset, .unset, .unset, .unset, .unset, .unset, .unset] []))
    refine own_st (fun t k => XS.iloadN X4.here hx rfl (hb hby at_31) rfl k) ?_
    show own_Run p e below s _ _ _ (T4.setTop (mkF m 32 #[.val (.int i0), .val (.int i1), .val (.int i2), .val (.int (0 : Int32)), .val (.ref tl), .val (.double (FP.i2d i0)), .second, .unset, .unset, .unset, .unset, .unset, .unset, .unset, .unset, .unset] [(.int i1)]))
    refine own_st (fun t k => XS.i2dS X4.here hx rfl (hb hby at_32) rfl (v := (FP.i2d i1)) (rfl) k) ?_
    show own_Run p e below s _ _ _ (T4.setTop (mkF m 33 #[.val (.int i0), .val (.int i1), .val (.int i2), .val (.int (0 : Int32)), .val (.ref tl), .val (.double (FP.i2d i0)), .second, .unset, .unset, .unset, .unset, .unset, .unset, .unset, .unset, .unset] [(.double (FP.i2d i1))]))
    refine own_st (fun t k => XS.dstore X4.here hx rfl (hb hby at_33) rfl (l' := #[.val (.int i0), .val (.int i1), .val (.int i2), .val (.int (0 : Int32)), .val (.ref tl), .val (.double (FP.i2d i0)), .second, .val (.double (FP.i2d i1)), .second, .unset, .unset, .unset, .unset, .unset, .unset, .unset]) rfl k) ?_
    show own_Run p e below s _ _ _ (T4.setTop (mkF m 35 #[.val (.int i0), .val (.int i1), .val (.int i2), .val (.int (0 : Int32)), .val (.ref tl), .val (.double (FP.i2d i0)), .second, .val (.double (FP.i2d i1)), .second, .unset, .unset, .unset, .unset, .unset, .unset, .unset] []))
    refine own_st (fun t k => XS.aload X4.here hx rfl (hb hby at_35) rfl rfl k) ?_
    show own_Run p e below s _ _ _ (T4.setTop (mkF m 37 #[.val (.int i0), .val (.int i1), .val (.int i2), .val (.int (0 : Int32)), .val (.ref tl), .val (.double (FP.i2d i0)), .second, .val (.double (FP.i2d i1)), .second, .unset, .unset, .unset, .unset, .unset, .unset, .unset] [(.ref tl)]))
    refine own_st (fun t k => XS.dload X4.here hx rfl (hb hby at_37) rfl k) ?_
    show own_Run p e below s _ _ _ (T4.setTop (mkF m 39 #[.val (.int i0), .val (.int i1), .val (.int i2), .val (.int (0 : Int32)), .val (.ref tl), .val (.double (FP.i2d i0)), .second, .val (.double (FP.i2d i1)), .second, .unset, .unset, .unset, .unset, .unset, .unset, .unset] [(.double (FP.i2d i0)), (.ref tl)]))
    refine own_callV X4 hx hZ (y := (⟨"com/example/usurf/usurf/Evaluation$SpamWhen", "suspicion", "(D)D"⟩ : MethodName)) (C := "com/example/usurf/usurf/Evaluation$SpamWhen") hown (hw _ (List.mem_of_getElem? (i := 3) rfl)) (hw _ (List.mem_of_getElem? (i := 4) rfl)) (hw _ (List.mem_of_getElem? (i := 6) rfl)) (hw _ (List.mem_of_getElem? (i := 5) rfl)) (hw _ (List.mem_of_getElem? (i := 7) rfl)) (hw _ (List.mem_of_getElem? (i := 1) rfl)) (by decide) e4 (a := tl) E_tl (argsL := [(.double (FP.i2d i0))]) (rest := []) (W := 0) (own_rm1L l Z a0 hw [] tl (FP.i2d i0) th h0 n0 (Nat.le_trans Z0 K0.1) O0 S_H ne0) (by decide) (by decide) (by rw [hml]; rfl) (lenOf own_pd1 rfl) rfl (by exact Nat.le_of_eq rfl) (hb hby at_39) (by decide) (by decide) ?_
    intro T5 v5 L5 X5 hq5
    obtain ⟨rfl, N5q, hh5⟩ := hq5
    have N5 := Fr.app N0 N5q
    show own_Run p e below s _ _ _ (T5.setTop (mkF m 42 #[.val (.int i0), .val (.int i1), .val (.int i2), .val (.int (0 : Int32)), .val (.ref tl), .val (.double (FP.i2d i0)), .second, .val (.double (FP.i2d i1)), .second, .unset, .unset, .unset, .unset, .unset, .unset, .unset] [(.double (FP.dneg (FP.i2d i0)))]))
    refine own_st (fun t k => XS.dstore X5.here hx rfl (hb hby at_42) rfl (l' := #[.val (.int i0), .val (.int i1), .val (.int i2), .val (.int (0 : Int32)), .val (.ref tl), .val (.double (FP.i2d i0)), .second, .val (.double (FP.i2d i1)), .second, .val (.double (FP.dneg (FP.i2d i0))), .second, .unset, .unset, .unset, .unset, .unset]) rfl k) ?_
    show own_Run p e below s _ _ _ (T5.setTop (mkF m 44 #[.val (.int i0), .val (.int i1), .val (.int i2), .val (.int (0 : Int32)), .val (.ref tl), .val (.double (FP.i2d i0)), .second, .val (.double (FP.i2d i1)), .second, .val (.double (FP.dneg (FP.i2d i0))), .second, .unset, .unset, .unset, .unset, .unset] []))
    refine own_st (fun t k => XS.aload X5.here hx rfl (hb hby at_44) rfl rfl k) ?_
    show own_Run p e below s _ _ _ (T5.setTop (mkF m 46 #[.val (.int i0), .val (.int i1), .val (.int i2), .val (.int (0 : Int32)), .val (.ref tl), .val (.double (FP.i2d i0)), .second, .val (.double (FP.i2d i1)), .second, .val (.double (FP.dneg (FP.i2d i0))), .second, .unset, .unset, .unset, .unset, .unset] [(.ref tl)]))
    refine own_st (fun t k => XS.dload X5.here hx rfl (hb hby at_46) rfl k) ?_
    show own_Run p e below s _ _ _ (T5.setTop (mkF m 48 #[.val (.int i0), .val (.int i1), .val (.int i2), .val (.int (0 : Int32)), .val (.ref tl), .val (.double (FP.i2d i0)), .second, .val (.double (FP.i2d i1)), .second, .val (.double (FP.dneg (FP.i2d i0))), .second, .unset, .unset, .unset, .unset, .unset] [(.double (FP.i2d i1)), (.ref tl)]))
    refine own_callV X5 hx hZ (y := (⟨"com/example/usurf/usurf/Evaluation$SpamWhen", "suspicion", "(D)D"⟩ : MethodName)) (C := "com/example/usurf/usurf/Evaluation$SpamWhen") hown (hw _ (List.mem_of_getElem? (i := 3) rfl)) (hw _ (List.mem_of_getElem? (i := 4) rfl)) (hw _ (List.mem_of_getElem? (i := 6) rfl)) (hw _ (List.mem_of_getElem? (i := 5) rfl)) (hw _ (List.mem_of_getElem? (i := 7) rfl)) (hw _ (List.mem_of_getElem? (i := 1) rfl)) (by decide) hh5 (a := tl) E_tl (argsL := [(.double (FP.i2d i1))]) (rest := []) (W := 0) (own_rm1L l Z a0 hw [] tl (FP.i2d i1) th h0 n0 (Nat.le_trans Z0 K0.1) O0 S_H ne0) (by decide) (by decide) (by rw [hml]; rfl) (lenOf own_pd1 rfl) rfl (by exact Nat.le_of_eq rfl) (hb hby at_48) (by decide) (by decide) ?_
    intro T6 v6 L6 X6 hq6
    obtain ⟨rfl, N6q, hh6⟩ := hq6
    have N6 := Fr.app N5 N6q
    show own_Run p e below s _ _ _ (T6.setTop (mkF m 51 #[.val (.int i0), .val (.int i1), .val (.int i2), .val (.int (0 : Int32)), .val (.ref tl), .val (.double (FP.i2d i0)), .second, .val (.double (FP.i2d i1)), .second, .val (.double (FP.dneg (FP.i2d i0))), .second, .unset, .unset, .unset, .unset, .unset] [(.double (FP.dneg (FP.i2d i1)))]))
    refine own_st (fun t k => XS.dstore X6.here hx rfl (hb hby at_51) rfl (l' := #[.val (.int i0), .val (.int i1), .val (.int i2), .val (.int (0 : Int32)), .val (.ref tl), .val (.double (FP.i2d i0)), .second, .val (.double (FP.i2d i1)), .second, .val (.double (FP.dneg (FP.i2d i0))), .second, .val (.double (FP.dneg (FP.i2d i1))), .second, .unset, .unset, .unset]) rfl k) ?_
    show own_Run p e below s _ _ _ (T6.setTop (mkF m 53 #[.val (.int i0), .val (.int i1), .val (.int i2), .val (.int (0 : Int32)), .val (.ref tl), .val (.double (FP.i2d i0)), .second, .val (.double (FP.i2d i1)), .second, .val (.double (FP.dneg (FP.i2d i0))), .second, .val (.double (FP.dneg (FP.i2d i1))), .second, .unset, .unset, .unset] []))
    refine own_st (fun t k => XS.aload X6.here hx rfl (hb hby at_53) rfl rfl k) ?_
    show own_Run p e below s _ _ _ (T6.setTop (mkF m 55 #[.val (.int i0), .val (.int i1), .val (.int i2), .val (.int (0 : Int32)), .val (.ref tl), .val (.double (FP.i2d i0)), .second, .val (.double (FP.i2d i1)), .second, .val (.double (FP.dneg (FP.i2d i0))), .second, .val (.double (FP.dneg (FP.i2d i1))), .second, .unset, .unset, .unset] [(.ref tl)]))
    refine own_st (fun t k => XS.dload X6.here hx rfl (hb hby at_55) rfl k) ?_
    show own_Run p e below s _ _ _ (T6.setTop (mkF m 57 #[.val (.int i0), .val (.int i1), .val (.int i2), .val (.int (0 : Int32)), .val (.ref tl), .val (.double (FP.i2d i0)), .second, .val (.double (FP.i2d i1)), .second, .val (.double (FP.dneg (FP.i2d i0))), .second, .val (.double (FP.dneg (FP.i2d i1))), .second, .unset, .unset, .unset] [(.double (FP.dneg (FP.i2d i0))), (.ref tl)]))
    refine own_callV X6 hx hZ (y := (⟨"com/example/usurf/usurf/Evaluation$SpamWhen", "suspicion", "(D)D"⟩ : MethodName)) (C := "com/example/usurf/usurf/Evaluation$SpamWhen") hown (hw _ (List.mem_of_getElem? (i := 3) rfl)) (hw _ (List.mem_of_getElem? (i := 4) rfl)) (hw _ (List.mem_of_getElem? (i := 6) rfl)) (hw _ (List.mem_of_getElem? (i := 5) rfl)) (hw _ (List.mem_of_getElem? (i := 7) rfl)) (hw _ (List.mem_of_getElem? (i := 1) rfl)) (by decide) hh6 (a := tl) E_tl (argsL := [(.double (FP.dneg (FP.i2d i0)))]) (rest := []) (W := 0) (own_rm1L l Z a0 hw [] tl (FP.dneg (FP.i2d i0)) th h0 n0 (Nat.le_trans Z0 K0.1) O0 S_H ne0) (by decide) (by decide) (by rw [hml]; rfl) (lenOf own_pd1 rfl) rfl (by exact Nat.le_of_eq rfl) (hb hby at_57) (by decide) (by decide) ?_
    intro T7 v7 L7 X7 hq7
    obtain ⟨rfl, N7q, hh7⟩ := hq7
    have N7 := Fr.app N6 N7q
    show own_Run p e below s _ _ _ (T7.setTop (mkF m 60 #[.val (.int i0), .val (.int i1), .val (.int i2), .val (.int (0 : Int32)), .val (.ref tl), .val (.double (FP.i2d i0)), .second, .val (.double (FP.i2d i1)), .second, .val (.double (FP.dneg (FP.i2d i0))), .second, .val (.double (FP.dneg (FP.i2d i1))), .second, .unset, .unset, .unset] [(.double (FP.dneg (FP.dneg (FP.i2d i0))))]))
    refine own_st (fun t k => XS.dload X7.here hx rfl (hb hby at_60) rfl k) ?_
    show own_Run p e below s _ _ _ (T7.setTop (mkF m 62 #[.val (.int i0), .val (.int i1), .val (.int i2), .val (.int (0 : Int32)), .val (.ref tl), .val (.double (FP.i2d i0)), .second, .val (.double (FP.i2d i1)), .second, .val (.double (FP.dneg (FP.i2d i0))), .second, .val (.double (FP.dneg (FP.i2d i1))), .second, .unset, .unset, .unset] [(.double (FP.i2d i0)), (.double (FP.dneg (FP.dneg (FP.i2d i0))))]))
    refine own_st (fun t k => XS.dcmpS X7.here hx rfl (hb hby at_62) rfl (v := (0 : Int32)) ((own_Z.i2d i0).neg.neg.cmpE (own_Z.i2d i0) (Int.neg_neg _) _) k) ?_
    show own_Run p e below s _ _ _ (T7.setTop (mkF m 63 #[.val (.int i0), .val (.int i1), .val (.int i2), .val (.int (0 : Int32)), .val (.ref tl), .val (.double (FP.i2d i0)), .second, .val (.double (FP.i2d i1)), .second, .val (.double (FP.dneg (FP.i2d i0))), .second, .val (.double (FP.dneg (FP.i2d i1))), .second, .unset, .unset, .unset] [(.int (0 : Int32))]))
    refine own_st (fun t k => XS.ifNo X7.here hx rfl (hb hby at_63) rfl ((if0 _ _).trans (teq (by decide : (0 : Int32) = (0 : Int32))).2) k) ?_
    show own_Run p e below s _ _ _ (T7.setTop (mkF m 66 #[.val (.int i0), .val (.int i1), .val (.int i2), .val (.int (0 : Int32)), .val (.ref tl), .val (.double (FP.i2d i0)), .second, .val (.double (FP.i2d i1)), .second, .val (.double (FP.dneg (FP.i2d i0))), .second, .val (.double (FP.dneg (FP.i2d i1))), .second, .unset, .unset, .unset] []))
    refine own_st (fun t k => XS.iconst X7.here hx rfl (hb hby at_66) k) ?_
    show own_Run p e below s _ _ _ (T7.setTop (mkF m 67 #[.val (.int i0), .val (.int i1), .val (.int i2), .val (.int (0 : Int32)), .val (.ref tl), .val (.double (FP.i2d i0)), .second, .val (.double (FP.i2d i1)), .second, .val (.double (FP.dneg (FP.i2d i0))), .second, .val (.double (FP.dneg (FP.i2d i1))), .second, .unset, .unset, .unset] [(.int (1 : Int32))]))
    refine own_st (fun t k => XS.goto X7.here hx rfl (pc0 := 67) (pc' := 71) rfl (hb hby at_67) (by decide) (by decide) k) ?_
    show own_Run p e below s _ _ _ (T7.setTop (mkF m 71 #[.val (.int i0), .val (.int i1), .val (.int i2), .val (.int (0 : Int32)), .val (.ref tl), .val (.double (FP.i2d i0)), .second, .val (.double (FP.i2d i1)), .second, .val (.double (FP.dneg (FP.i2d i0))), .second, .val (.double (FP.dneg (FP.i2d i1))), .second, .unset, .unset, .unset] [(.int (1 : Int32))]))
    refine own_st (fun t k => XS.istore X7.here hx rfl (hb hby at_71) rfl (l' := #[.val (.int i0), .val (.int i1), .val (.int i2), .val (.int (0 : Int32)), .val (.ref tl), .val (.double (FP.i2d i0)), .second, .val (.double (FP.i2d i1)), .second, .val (.double (FP.dneg (FP.i2d i0))), .second, .val (.double (FP.dneg (FP.i2d i1))), .second, .val (.int (1 : Int32)), .unset, .unset]) rfl k) ?_
    show own_Run p e below s _ _ _ (T7.setTop (mkF m 73 #[.val (.int i0), .val (.int i1), .val (.int i2), .val (.int (0 : Int32)), .val (.ref tl), .val (.double (FP.i2d i0)), .second, .val (.double (FP.i2d i1)), .second, .val (.double (FP.dneg (FP.i2d i0))), .second, .val (.double (FP.dneg (FP.i2d i1))), .second, .val (.int (1 : Int32)), .unset, .unset] []))
    refine own_st (fun t k => XS.dload X7.here hx rfl (hb hby at_73) rfl k) ?_
    show own_Run p e below s _ _ _ (T7.setTop (mkF m 75 #[.val (.int i0), .val (.int i1), .val (.int i2), .val (.int (0 : Int32)), .val (.ref tl), .val (.double (FP.i2d i0)), .second, .val (.double (FP.i2d i1)), .second, .val (.double (FP.dneg (FP.i2d i0))), .second, .val (.double (FP.dneg (FP.i2d i1))), .second, .val (.int (1 : Int32)), .unset, .unset] [(.double (FP.dneg (FP.i2d i0)))]))
    refine own_st (fun t k => XS.dload X7.here hx rfl (hb hby at_75) rfl k) ?_
    show own_Run p e below s _ _ _ (T7.setTop (mkF m 77 #[.val (.int i0), .val (.int i1), .val (.int i2), .val (.int (0 : Int32)), .val (.ref tl), .val (.double (FP.i2d i0)), .second, .val (.double (FP.i2d i1)), .second, .val (.double (FP.dneg (FP.i2d i0))), .second, .val (.double (FP.dneg (FP.i2d i1))), .second, .val (.int (1 : Int32)), .unset, .unset] [(.double (FP.i2d i0)), (.double (FP.dneg (FP.i2d i0)))]))
    refine own_st (fun t k => XS.dcmpS X7.here hx rfl (hb hby at_77) rfl (v := (cmpValue (FP.dcmp (FP.dneg (FP.i2d i0)) (FP.i2d i0)) .l)) (rfl) k) ?_
    show own_Run p e below s _ _ _ (T7.setTop (mkF m 78 #[.val (.int i0), .val (.int i1), .val (.int i2), .val (.int (0 : Int32)), .val (.ref tl), .val (.double (FP.i2d i0)), .second, .val (.double (FP.i2d i1)), .second, .val (.double (FP.dneg (FP.i2d i0))), .second, .val (.double (FP.dneg (FP.i2d i1))), .second, .val (.int (1 : Int32)), .unset, .unset] [(.int (cmpValue (FP.dcmp (FP.dneg (FP.i2d i0)) (FP.i2d i0)) .l))]))
    by_cases hc8 : (cmpValue (FP.dcmp (FP.dneg (FP.i2d i0)) (FP.i2d i0)) .l) = (0 : Int32)
    · skip
      refine own_st (fun t k => XS.ifYes X7.here hx rfl (pc0 := 78) (pc' := 90) rfl (hb hby at_78) rfl ((if0 _ _).trans (teq (hc8 : (cmpValue (FP.dcmp (FP.dneg (FP.i2d i0)) (FP.i2d i0)) .l) = (0 : Int32))).1) (by decide) (by decide) k) ?_
      show own_Run p e below s _ _ _ (T7.setTop (mkF m 90 #[.val (.int i0), .val (.int i1), .val (.int i2), .val (.int (0 : Int32)), .val (.ref tl), .val (.double (FP.i2d i0)), .second, .val (.double (FP.i2d i1)), .second, .val (.double (FP.dneg (FP.i2d i0))), .second, .val (.double (FP.dneg (FP.i2d i1))), .second, .val (.int (1 : Int32)), .unset, .unset] []))
      refine own_st (fun t k => XS.iconst X7.here hx rfl (hb hby at_90) k) ?_
      show own_Run p e below s _ _ _ (T7.setTop (mkF m 91 #[.val (.int i0), .val (.int i1), .val (.int i2), .val (.int (0 : Int32)), .val (.ref tl), .val (.double (FP.i2d i0)), .second, .val (.double (FP.i2d i1)), .second, .val (.double (FP.dneg (FP.i2d i0))), .second, .val (.double (FP.dneg (FP.i2d i1))), .second, .val (.int (1 : Int32)), .unset, .unset] [(.int (1 : Int32))]))
      refine own_st (fun t k => XS.goto X7.here hx rfl (pc0 := 91) (pc' := 95) rfl (hb hby at_91) (by decide) (by decide) k) ?_
      show own_Run p e below s _ _ _ (T7.setTop (mkF m 95 #[.val (.int i0), .val (.int i1), .val (.int i2), .val (.int (0 : Int32)), .val (.ref tl), .val (.double (FP.i2d i0)), .second, .val (.double (FP.i2d i1)), .second, .val (.double (FP.dneg (FP.i2d i0))), .second, .val (.double (FP.dneg (FP.i2d i1))), .second, .val (.int (1 : Int32)), .unset, .unset] [(.int (1 : Int32))]))
      refine own_st (fun t k => XS.istore X7.here hx rfl (hb hby at_95) rfl (l' := #[.val (.int i0), .val (.int i1), .val (.int i2), .val (.int (0 : Int32)), .val (.ref tl), .val (.double (FP.i2d i0)), .second, .val (.double (FP.i2d i1)), .second, .val (.double (FP.dneg (FP.i2d i0))), .second, .val (.double (FP.dneg (FP.i2d i1))), .second, .val (.int (1 : Int32)), .val (.int (1 : Int32)), .unset]) rfl k) ?_
      show own_Run p e below s _ _ _ (T7.setTop (mkF m 97 #[.val (.int i0), .val (.int i1), .val (.int i2), .val (.int (0 : Int32)), .val (.ref tl), .val (.double (FP.i2d i0)), .second, .val (.double (FP.i2d i1)), .second, .val (.double (FP.dneg (FP.i2d i0))), .second, .val (.double (FP.dneg (FP.i2d i1))), .second, .val (.int (1 : Int32)), .val (.int (1 : Int32)), .unset] []))
      refine own_st (fun t k => XS.iloadN X7.here hx rfl (hb hby at_97) rfl k) ?_
      show own_Run p e below s _ _ _ (T7.setTop (mkF m 98 #[.val (.int i0), .val (.int i1), .val (.int i2), .val (.int (0 : Int32)), .val (.ref tl), .val (.double (FP.i2d i0)), .second, .val (.double (FP.i2d i1)), .second, .val (.double (FP.dneg (FP.i2d i0))), .second, .val (.double (FP.dneg (FP.i2d i1))), .second, .val (.int (1 : Int32)), .val (.int (1 : Int32)), .unset] [(.int (0 : Int32))]))
      refine own_st (fun t k => XS.ifYes X7.here hx rfl (pc0 := 98) (pc' := 140) rfl (hb hby at_98) rfl ((if0 _ _).trans (teq (by decide : (0 : Int32) = (0 : Int32))).1) (by decide) (by decide) k) ?_
      show own_Run p e below s _ _ _ (T7.setTop (mkF m 140 #[.val (.int i0), .val (.int i1), .val (.int i2), .val (.int (0 : Int32)), .val (.ref tl), .val (.double (FP.i2d i0)), .second, .val (.double (FP.i2d i1)), .second, .val (.double (FP.dneg (FP.i2d i0))), .second, .val (.double (FP.dneg (FP.i2d i1))), .second, .val (.int (1 : Int32)), .val (.int (1 : Int32)), .unset] []))
      refine own_st (fun t k => XS.dload X7.here hx rfl (hb hby at_140) rfl k) ?_
      show own_Run p e below s _ _ _ (T7.setTop (mkF m 142 #[.val (.int i0), .val (.int i1), .val (.int i2), .val (.int (0 : Int32)), .val (.ref tl), .val (.double (FP.i2d i0)), .second, .val (.double (FP.i2d i1)), .second, .val (.double (FP.dneg (FP.i2d i0))), .second, .val (.double (FP.dneg (FP.i2d i1))), .second, .val (.int (1 : Int32)), .val (.int (1 : Int32)), .unset] [(.double (FP.dneg (FP.i2d i0)))]))
      refine own_st (fun t k => XS.dload X7.here hx rfl (hb hby at_142) rfl k) ?_
      show own_Run p e below s _ _ _ (T7.setTop (mkF m 144 #[.val (.int i0), .val (.int i1), .val (.int i2), .val (.int (0 : Int32)), .val (.ref tl), .val (.double (FP.i2d i0)), .second, .val (.double (FP.i2d i1)), .second, .val (.double (FP.dneg (FP.i2d i0))), .second, .val (.double (FP.dneg (FP.i2d i1))), .second, .val (.int (1 : Int32)), .val (.int (1 : Int32)), .unset] [(.double (FP.dneg (FP.i2d i1))), (.double (FP.dneg (FP.i2d i0)))]))
      refine own_st (fun t k => XS.dcmpS X7.here hx rfl (hb hby at_144) rfl (v := (cmpValue (FP.dcmp (FP.dneg (FP.i2d i0)) (FP.dneg (FP.i2d i1))) .g)) (rfl) k) ?_
      show own_Run p e below s _ _ _ (T7.setTop (mkF m 145 #[.val (.int i0), .val (.int i1), .val (.int i2), .val (.int (0 : Int32)), .val (.ref tl), .val (.double (FP.i2d i0)), .second, .val (.double (FP.i2d i1)), .second, .val (.double (FP.dneg (FP.i2d i0))), .second, .val (.double (FP.dneg (FP.i2d i1))), .second, .val (.int (1 : Int32)), .val (.int (1 : Int32)), .unset] [(.int (cmpValue (FP.dcmp (FP.dneg (FP.i2d i0)) (FP.dneg (FP.i2d i1))) .g))]))
      by_cases hA : i1 < i0
      · skip
        refine own_st (fun t k => XS.ifNo X7.here hx rfl (hb hby at_145) rfl ((if0 _ _).trans (tlt ((own_dneg_lt _ _ _).mpr hA : (cmpValue (FP.dcmp (FP.dneg (FP.i2d i0)) (FP.dneg (FP.i2d i1))) .g) < (0 : Int32))).2.1) k) ?_
        show own_Run p e below s _ _ _ (T7.setTop (mkF m 148 #[.val (.int i0), .val (.int i1), .val (.int i2), .val (.int (0 : Int32)), .val (.ref tl), .val (.double (FP.i2d i0)), .second, .val (.double (FP.i2d i1)), .second, .val (.double (FP.dneg (FP.i2d i0))), .second, .val (.double (FP.dneg (FP.i2d i1))), .second, .val (.int (1 : Int32)), .val (.int (1 : Int32)), .unset] []))
        refine own_st (fun t k => XS.iconst X7.here hx rfl (hb hby at_148) k) ?_
        show own_Run p e below s _ _ _ (T7.setTop (mkF m 149 #[.val (.int i0), .val (.int i1), .val (.int i2), .val (.int (0 : Int32)), .val (.ref tl), .val (.double (FP.i2d i0)), .second, .val (.double (FP.i2d i1)), .second, .val (.double (FP.dneg (FP.i2d i0))), .second, .val (.double (FP.dneg (FP.i2d i1))), .second, .val (.int (1 : Int32)), .val (.int (1 : Int32)), .unset] [(.int (1 : Int32))]))
        refine own_st (fun t k => XS.goto X7.here hx rfl (pc0 := 149) (pc' := 153) rfl (hb hby at_149) (by decide) (by decide) k) ?_
        show own_Run p e below s _ _ _ (T7.setTop (mkF m 153 #[.val (.int i0), .val (.int i1), .val (.int i2), .val (.int (0 : Int32)), .val (.ref tl), .val (.double (FP.i2d i0)), .second, .val (.double (FP.i2d i1)), .second, .val (.double (FP.dneg (FP.i2d i0))), .second, .val (.double (FP.dneg (FP.i2d i1))), .second, .val (.int (1 : Int32)), .val (.int (1 : Int32)), .unset] [(.int (1 : Int32))]))
        refine own_st (fun t k => XS.dload X7.here hx rfl (hb hby at_153) rfl k) ?_
        show own_Run p e below s _ _ _ (T7.setTop (mkF m 155 #[.val (.int i0), .val (.int i1), .val (.int i2), .val (.int (0 : Int32)), .val (.ref tl), .val (.double (FP.i2d i0)), .second, .val (.double (FP.i2d i1)), .second, .val (.double (FP.dneg (FP.i2d i0))), .second, .val (.double (FP.dneg (FP.i2d i1))), .second, .val (.int (1 : Int32)), .val (.int (1 : Int32)), .unset] [(.double (FP.i2d i1)), (.int (1 : Int32))]))
        refine own_st (fun t k => XS.dload X7.here hx rfl (hb hby at_155) rfl k) ?_
        show own_Run p e below s _ _ _ (T7.setTop (mkF m 157 #[.val (.int i0), .val (.int i1), .val (.int i2), .val (.int (0 : Int32)), .val (.ref tl), .val (.double (FP.i2d i0)), .second, .val (.double (FP.i2d i1)), .second, .val (.double (FP.dneg (FP.i2d i0))), .second, .val (.double (FP.dneg (FP.i2d i1))), .second, .val (.int (1 : Int32)), .val (.int (1 : Int32)), .unset] [(.double (FP.i2d i0)), (.double (FP.i2d i1)), (.int (1 : Int32))]))
        refine own_st (fun t k => XS.dcmpS X7.here hx rfl (hb hby at_157) rfl (v := (cmpValue (FP.dcmp (FP.i2d i1) (FP.i2d i0)) .g)) (rfl) k) ?_
        show own_Run p e below s _ _ _ (T7.setTop (mkF m 158 #[.val (.int i0), .val (.int i1), .val (.int i2), .val (.int (0 : Int32)), .val (.ref tl), .val (.double (FP.i2d i0)), .second, .val (.double (FP.i2d i1)), .second, .val (.double (FP.dneg (FP.i2d i0))), .second, .val (.double (FP.dneg (FP.i2d i1))), .second, .val (.int (1 : Int32)), .val (.int (1 : Int32)), .unset] [(.int (cmpValue (FP.dcmp (FP.i2d i1) (FP.i2d i0)) .g)), (.int (1 : Int32))]))
        refine own_st (fun t k => XS.ifNo X7.here hx rfl (hb hby at_158) rfl ((if0 _ _).trans (tlt ((own_dcmp_lt _ _ _).mpr hA : (cmpValue (FP.dcmp (FP.i2d i1) (FP.i2d i0)) .g) < (0 : Int32))).2.1) k) ?_
        show own_Run p e below s _ _ _ (T7.setTop (mkF m 161 #[.val (.int i0), .val (.int i1), .val (.int i2), .val (.int (0 : Int32)), .val (.ref tl), .val (.double (FP.i2d i0)), .second, .val (.double (FP.i2d i1)), .second, .val (.double (FP.dneg (FP.i2d i0))), .second, .val (.double (FP.dneg (FP.i2d i1))), .second, .val (.int (1 : Int32)), .val (.int (1 : Int32)), .unset] [(.int (1 : Int32))]))
        refine own_st (fun t k => XS.iconst X7.here hx rfl (hb hby at_161) k) ?_
        show own_Run p e below s _ _ _ (T7.setTop (mkF m 162 #[.val (.int i0), .val (.int i1), .val (.int i2), .val (.int (0 : Int32)), .val (.ref tl), .val (.double (FP.i2d i0)), .second, .val (.double (FP.i2d i1)), .second, .val (.double (FP.dneg (FP.i2d i0))), .second, .val (.double (FP.dneg (FP.i2d i1))), .second, .val (.int (1 : Int32)), .val (.int (1 : Int32)), .unset] [(.int (1 : Int32)), (.int (1 : Int32))]))
        refine own_st (fun t k => XS.goto X7.here hx rfl (pc0 := 162) (pc' := 166) rfl (hb hby at_162) (by decide) (by decide) k) ?_
        show own_Run p e below s _ _ _ (T7.setTop (mkF m 166 #[.val (.int i0), .val (.int i1), .val (.int i2), .val (.int (0 : Int32)), .val (.ref tl), .val (.double (FP.i2d i0)), .second, .val (.double (FP.i2d i1)), .second, .val (.double (FP.dneg (FP.i2d i0))), .second, .val (.double (FP.dneg (FP.i2d i1))), .second, .val (.int (1 : Int32)), .val (.int (1 : Int32)), .unset] [(.int (1 : Int32)), (.int (1 : Int32))]))
        refine own_st (fun t k => XS.icmpNo X7.here hx rfl (hb hby at_166) rfl (teq (by decide : (1 : Int32) = (1 : Int32))).2 k) ?_
        show own_Run p e below s _ _ _ (T7.setTop (mkF m 169 #[.val (.int i0), .val (.int i1), .val (.int i2), .val (.int (0 : Int32)), .val (.ref tl), .val (.double (FP.i2d i0)), .second, .val (.double (FP.i2d i1)), .second, .val (.double (FP.dneg (FP.i2d i0))), .second, .val (.double (FP.dneg (FP.i2d i1))), .second, .val (.int (1 : Int32)), .val (.int (1 : Int32)), .unset] []))
        refine own_st (fun t k => XS.iconst X7.here hx rfl (hb hby at_169) k) ?_
        show own_Run p e below s _ _ _ (T7.setTop (mkF m 170 #[.val (.int i0), .val (.int i1), .val (.int i2), .val (.int (0 : Int32)), .val (.ref tl), .val (.double (FP.i2d i0)), .second, .val (.double (FP.i2d i1)), .second, .val (.double (FP.dneg (FP.i2d i0))), .second, .val (.double (FP.dneg (FP.i2d i1))), .second, .val (.int (1 : Int32)), .val (.int (1 : Int32)), .unset] [(.int (1 : Int32))]))
        refine own_st (fun t k => XS.goto X7.here hx rfl (pc0 := 170) (pc' := 174) rfl (hb hby at_170) (by decide) (by decide) k) ?_
        show own_Run p e below s _ _ _ (T7.setTop (mkF m 174 #[.val (.int i0), .val (.int i1), .val (.int i2), .val (.int (0 : Int32)), .val (.ref tl), .val (.double (FP.i2d i0)), .second, .val (.double (FP.i2d i1)), .second, .val (.double (FP.dneg (FP.i2d i0))), .second, .val (.double (FP.dneg (FP.i2d i1))), .second, .val (.int (1 : Int32)), .val (.int (1 : Int32)), .unset] [(.int (1 : Int32))]))
        refine own_st (fun t k => XS.istore X7.here hx rfl (hb hby at_174) rfl (l' := #[.val (.int i0), .val (.int i1), .val (.int i2), .val (.int (0 : Int32)), .val (.ref tl), .val (.double (FP.i2d i0)), .second, .val (.double (FP.i2d i1)), .second, .val (.double (FP.dneg (FP.i2d i0))), .second, .val (.double (FP.dneg (FP.i2d i1))), .second, .val (.int (1 : Int32)), .val (.int (1 : Int32)), .val (.int (1 : Int32))]) rfl k) ?_
        show own_Run p e below s _ _ _ (T7.setTop (mkF m 176 #[.val (.int i0), .val (.int i1), .val (.int i2), .val (.int (0 : Int32)), .val (.ref tl), .val (.double (FP.i2d i0)), .second, .val (.double (FP.i2d i1)), .second, .val (.double (FP.dneg (FP.i2d i0))), .second, .val (.double (FP.dneg (FP.i2d i1))), .second, .val (.int (1 : Int32)), .val (.int (1 : Int32)), .val (.int (1 : Int32))] []))
        refine own_st (fun t k => XS.iload X7.here hx rfl (hb hby at_176) rfl k) ?_
        show own_Run p e below s _ _ _ (T7.setTop (mkF m 178 #[.val (.int i0), .val (.int i1), .val (.int i2), .val (.int (0 : Int32)), .val (.ref tl), .val (.double (FP.i2d i0)), .second, .val (.double (FP.i2d i1)), .second, .val (.double (FP.dneg (FP.i2d i0))), .second, .val (.double (FP.dneg (FP.i2d i1))), .second, .val (.int (1 : Int32)), .val (.int (1 : Int32)), .val (.int (1 : Int32))] [(.int (1 : Int32))]))
        refine own_st (fun t k => XS.ifNo X7.here hx rfl (hb hby at_178) rfl ((if0 _ _).trans (feq (by decide : ¬ ((1 : Int32) = (0 : Int32)))).1) k) ?_
        show own_Run p e below s _ _ _ (T7.setTop (mkF m 181 #[.val (.int i0), .val (.int i1), .val (.int i2), .val (.int (0 : Int32)), .val (.ref tl), .val (.double (FP.i2d i0)), .second, .val (.double (FP.i2d i1)), .second, .val (.double (FP.dneg (FP.i2d i0))), .second, .val (.double (FP.dneg (FP.i2d i1))), .second, .val (.int (1 : Int32)), .val (.int (1 : Int32)), .val (.int (1 : Int32))] []))
        refine own_st (fun t k => XS.iload X7.here hx rfl (hb hby at_181) rfl k) ?_
        show own_Run p e below s _ _ _ (T7.setTop (mkF m 183 #[.val (.int i0), .val (.int i1), .val (.int i2), .val (.int (0 : Int32)), .val (.ref tl), .val (.double (FP.i2d i0)), .second, .val (.double (FP.i2d i1)), .second, .val (.double (FP.dneg (FP.i2d i0))), .second, .val (.double (FP.dneg (FP.i2d i1))), .second, .val (.int (1 : Int32)), .val (.int (1 : Int32)), .val (.int (1 : Int32))] [(.int (1 : Int32))]))
        refine own_st (fun t k => XS.ifNo X7.here hx rfl (hb hby at_183) rfl ((if0 _ _).trans (feq (by decide : ¬ ((1 : Int32) = (0 : Int32)))).1) k) ?_
        show own_Run p e below s _ _ _ (T7.setTop (mkF m 186 #[.val (.int i0), .val (.int i1), .val (.int i2), .val (.int (0 : Int32)), .val (.ref tl), .val (.double (FP.i2d i0)), .second, .val (.double (FP.i2d i1)), .second, .val (.double (FP.dneg (FP.i2d i0))), .second, .val (.double (FP.dneg (FP.i2d i1))), .second, .val (.int (1 : Int32)), .val (.int (1 : Int32)), .val (.int (1 : Int32))] []))
        refine own_st (fun t k => XS.iload X7.here hx rfl (hb hby at_186) rfl k) ?_
        show own_Run p e below s _ _ _ (T7.setTop (mkF m 188 #[.val (.int i0), .val (.int i1), .val (.int i2), .val (.int (0 : Int32)), .val (.ref tl), .val (.double (FP.i2d i0)), .second, .val (.double (FP.i2d i1)), .second, .val (.double (FP.dneg (FP.i2d i0))), .second, .val (.double (FP.dneg (FP.i2d i1))), .second, .val (.int (1 : Int32)), .val (.int (1 : Int32)), .val (.int (1 : Int32))] [(.int (1 : Int32))]))
        refine own_st (fun t k => XS.ifNo X7.here hx rfl (hb hby at_188) rfl ((if0 _ _).trans (feq (by decide : ¬ ((1 : Int32) = (0 : Int32)))).1) k) ?_
        show own_Run p e below s _ _ _ (T7.setTop (mkF m 191 #[.val (.int i0), .val (.int i1), .val (.int i2), .val (.int (0 : Int32)), .val (.ref tl), .val (.double (FP.i2d i0)), .second, .val (.double (FP.i2d i1)), .second, .val (.double (FP.dneg (FP.i2d i0))), .second, .val (.double (FP.dneg (FP.i2d i1))), .second, .val (.int (1 : Int32)), .val (.int (1 : Int32)), .val (.int (1 : Int32))] []))
        refine own_st (fun t k => XS.iconst X7.here hx rfl (hb hby at_191) k) ?_
        show own_Run p e below s _ _ _ (T7.setTop (mkF m 192 #[.val (.int i0), .val (.int i1), .val (.int i2), .val (.int (0 : Int32)), .val (.ref tl), .val (.double (FP.i2d i0)), .second, .val (.double (FP.i2d i1)), .second, .val (.double (FP.dneg (FP.i2d i0))), .second, .val (.double (FP.dneg (FP.i2d i1))), .second, .val (.int (1 : Int32)), .val (.int (1 : Int32)), .val (.int (1 : Int32))] [(.int (1 : Int32))]))
        refine own_st (fun t k => XS.goto X7.here hx rfl (pc0 := 192) (pc' := 196) rfl (hb hby at_192) (by decide) (by decide) k) ?_
        show own_Run p e below s _ _ _ (T7.setTop (mkF m 196 #[.val (.int i0), .val (.int i1), .val (.int i2), .val (.int (0 : Int32)), .val (.ref tl), .val (.double (FP.i2d i0)), .second, .val (.double (FP.i2d i1)), .second, .val (.double (FP.dneg (FP.i2d i0))), .second, .val (.double (FP.dneg (FP.i2d i1))), .second, .val (.int (1 : Int32)), .val (.int (1 : Int32)), .val (.int (1 : Int32))] [(.int (1 : Int32))]))
        exact own_ret X7 hx hlk (t := .boolean) hret rfl (Or.inl ⟨rfl, by simp, _, rfl⟩) (hb hby at_196) (by decide) (by decide) ⟨rfl, N7⟩
      · skip
        refine own_st (fun t k => XS.ifYes X7.here hx rfl (pc0 := 145) (pc' := 152) rfl (hb hby at_145) rfl ((if0 _ _).trans (flt (fun q => hA ((own_dneg_lt _ _ _).mp q) : ¬ ((cmpValue (FP.dcmp (FP.dneg (FP.i2d i0)) (FP.dneg (FP.i2d i1))) .g) < (0 : Int32)))).2.1) (by decide) (by decide) k) ?_
        show own_Run p e below s _ _ _ (T7.setTop (mkF m 152 #[.val (.int i0), .val (.int i1), .val (.int i2), .val (.int (0 : Int32)), .val (.ref tl), .val (.double (FP.i2d i0)), .second, .val (.double (FP.i2d i1)), .second, .val (.double (FP.dneg (FP.i2d i0))), .second, .val (.double (FP.dneg (FP.i2d i1))), .second, .val (.int (1 : Int32)), .val (.int (1 : Int32)), .unset] []))
        refine own_st (fun t k => XS.iconst X7.here hx rfl (hb hby at_152) k) ?_
        show own_Run p e below s _ _ _ (T7.setTop (mkF m 153 #[.val (.int i0), .val (.int i1), .val (.int i2), .val (.int (0 : Int32)), .val (.ref tl), .val (.double (FP.i2d i0)), .second, .val (.double (FP.i2d i1)), .second, .val (.double (FP.dneg (FP.i2d i0))), .second, .val (.double (FP.dneg (FP.i2d i1))), .second, .val (.int (1 : Int32)), .val (.int (1 : Int32)), .unset] [(.int (0 : Int32))]))
        refine own_st (fun t k => XS.dload X7.here hx rfl (hb hby at_153) rfl k) ?_
        show own_Run p e below s _ _ _ (T7.setTop (mkF m 155 #[.val (.int i0), .val (.int i1), .val (.int i2), .val (.int (0 : Int32)), .val (.ref tl), .val (.double (FP.i2d i0)), .second, .val (.double (FP.i2d i1)), .second, .val (.double (FP.dneg (FP.i2d i0))), .second, .val (.double (FP.dneg (FP.i2d i1))), .second, .val (.int (1 : Int32)), .val (.int (1 : Int32)), .unset] [(.double (FP.i2d i1)), (.int (0 : Int32))]))
        refine own_st (fun t k => XS.dload X7.here hx rfl (hb hby at_155) rfl k) ?_
        show own_Run p e below s _ _ _ (T7.setTop (mkF m 157 #[.val (.int i0), .val (.int i1), .val (.int i2), .val (.int (0 : Int32)), .val (.ref tl), .val (.double (FP.i2d i0)), .second, .val (.double (FP.i2d i1)), .second, .val (.double (FP.dneg (FP.i2d i0))), .second, .val (.double (FP.dneg (FP.i2d i1))), .second, .val (.int (1 : Int32)), .val (.int (1 : Int32)), .unset] [(.double (FP.i2d i0)), (.double (FP.i2d i1)), (.int (0 : Int32))]))
        refine own_st (fun t k => XS.dcmpS X7.here hx rfl (hb hby at_157) rfl (v := (cmpValue (FP.dcmp (FP.i2d i1) (FP.i2d i0)) .g)) (rfl) k) ?_
        show own_Run p e below s _ _ _ (T7.setTop (mkF m 158 #[.val (.int i0), .val (.int i1), .val (.int i2), .val (.int (0 : Int32)), .val (.ref tl), .val (.double (FP.i2d i0)), .second, .val (.double (FP.i2d i1)), .second, .val (.double (FP.dneg (FP.i2d i0))), .second, .val (.double (FP.dneg (FP.i2d i1))), .second, .val (.int (1 : Int32)), .val (.int (1 : Int32)), .unset] [(.int (cmpValue (FP.dcmp (FP.i2d i1) (FP.i2d i0)) .g)), (.int (0 : Int32))]))
        refine own_st (fun t k => XS.ifYes X7.here hx rfl (pc0 := 158) (pc' := 165) rfl (hb hby at_158) rfl ((if0 _ _).trans (flt (fun q => hA ((own_dcmp_lt _ _ _).mp q) : ¬ ((cmpValue (FP.dcmp (FP.i2d i1) (FP.i2d i0)) .g) < (0 : Int32)))).2.1) (by decide) (by decide) k) ?_
        show own_Run p e below s _ _ _ (T7.setTop (mkF m 165 #[.val (.int i0), .val (.int i1), .val (.int i2), .val (.int (0 : Int32)), .val (.ref tl), .val (.double (FP.i2d i0)), .second, .val (.double (FP.i2d i1)), .second, .val (.double (FP.dneg (FP.i2d i0))), .second, .val (.double (FP.dneg (FP.i2d i1))), .second, .val (.int (1 : Int32)), .val (.int (1 : Int32)), .unset] [(.int (0 : Int32))]))
        refine own_st (fun t k => XS.iconst X7.here hx rfl (hb hby at_165) k) ?_
        show own_Run p e below s _ _ _ (T7.setTop (mkF m 166 #[.val (.int i0), .val (.int i1), .val (.int i2), .val (.int (0 : Int32)), .val (.ref tl), .val (.double (FP.i2d i0)), .second, .val (.double (FP.i2d i1)), .second, .val (.double (FP.dneg (FP.i2d i0))), .second, .val (.double (FP.dneg (FP.i2d i1))), .second, .val (.int (1 : Int32)), .val (.int (1 : Int32)), .unset] [(.int (0 : Int32)), (.int (0 : Int32))]))
        refine own_st (fun t k => XS.icmpNo X7.here hx rfl (hb hby at_166) rfl (teq (by decide : (0 : Int32) = (0 : Int32))).2 k) ?_
        show own_Run p e below s _ _ _ (T7.setTop (mkF m 169 #[.val (.int i0), .val (.int i1), .val (.int i2), .val (.int (0 : Int32)), .val (.ref tl), .val (.double (FP.i2d i0)), .second, .val (.double (FP.i2d i1)), .second, .val (.double (FP.dneg (FP.i2d i0))), .second, .val (.double (FP.dneg (FP.i2d i1))), .second, .val (.int (1 : Int32)), .val (.int (1 : Int32)), .unset] []))
        refine own_st (fun t k => XS.iconst X7.here hx rfl (hb hby at_169) k) ?_
        show own_Run p e below s _ _ _ (T7.setTop (mkF m 170 #[.val (.int i0), .val (.int i1), .val (.int i2), .val (.int (0 : Int32)), .val (.ref tl), .val (.double (FP.i2d i0)), .second, .val (.double (FP.i2d i1)), .second, .val (.double (FP.dneg (FP.i2d i0))), .second, .val (.double (FP.dneg (FP.i2d i1))), .second, .val (.int (1 : Int32)), .val (.int (1 : Int32)), .unset] [(.int (1 : Int32))]))
        refine own_st (fun t k => XS.goto X7.here hx rfl (pc0 := 170) (pc' := 174) rfl (hb hby at_170) (by decide) (by decide) k) ?_
        show own_Run p e below s _ _ _ (T7.setTop (mkF m 174 #[.val (.int i0), .val (.int i1), .val (.int i2), .val (.int (0 : Int32)), .val (.ref tl), .val (.double (FP.i2d i0)), .second, .val (.double (FP.i2d i1)), .second, .val (.double (FP.dneg (FP.i2d i0))), .second, .val (.double (FP.dneg (FP.i2d i1))), .second, .val (.int (1 : Int32)), .val (.int (1 : Int32)), .unset] [(.int (1 : Int32))]))
        refine own_st (fun t k => XS.istore X7.here hx rfl (hb hby at_174) rfl (l' := #[.val (.int i0), .val (.int i1), .val (.int i2), .val (.int (0 : Int32)), .val (.ref tl), .val (.double (FP.i2d i0)), .second, .val (.double (FP.i2d i1)), .second, .val (.double (FP.dneg (FP.i2d i0))), .second, .val (.double (FP.dneg (FP.i2d i1))), .second, .val (.int (1 : Int32)), .val (.int (1 : Int32)), .val (.int (1 : Int32))]) rfl k) ?_
        show own_Run p e below s _ _ _ (T7.setTop (mkF m 176 #[.val (.int i0), .val (.int i1), .val (.int i2), .val (.int (0 : Int32)), .val (.ref tl), .val (.double (FP.i2d i0)), .second, .val (.double (FP.i2d i1)), .second, .val (.double (FP.dneg (FP.i2d i0))), .second, .val (.double (FP.dneg (FP.i2d i1))), .second, .val (.int (1 : Int32)), .val (.int (1 : Int32)), .val (.int (1 : Int32))] []))
        refine own_st (fun t k => XS.iload X7.here hx rfl (hb hby at_176) rfl k) ?_
        show own_Run p e below s _ _ _ (T7.setTop (mkF m 178 #[.val (.int i0), .val (.int i1), .val (.int i2), .val (.int (0 : Int32)), .val (.ref tl), .val (.double (FP.i2d i0)), .second, .val (.double (FP.i2d i1)), .second, .val (.double (FP.dneg (FP.i2d i0))), .second, .val (.double (FP.dneg (FP.i2d i1))), .second, .val (.int (1 : Int32)), .val (.int (1 : Int32)), .val (.int (1 : Int32))] [(.int (1 : Int32))]))
        refine own_st (fun t k => XS.ifNo X7.here hx rfl (hb hby at_178) rfl ((if0 _ _).trans (feq (by decide : ¬ ((1 : Int32) = (0 : Int32)))).1) k) ?_
        show own_Run p e below s _ _ _ (T7.setTop (mkF m 181 #[.val (.int i0), .val (.int i1), .val (.int i2), .val (.int (0 : Int32)), .val (.ref tl), .val (.double (FP.i2d i0)), .second, .val (.double (FP.i2d i1)), .second, .val (.double (FP.dneg (FP.i2d i0))), .second, .val (.double (FP.dneg (FP.i2d i1))), .second, .val (.int (1 : Int32)), .val (.int (1 : Int32)), .val (.int (1 : Int32))] []))
        refine own_st (fun t k => XS.iload X7.here hx rfl (hb hby at_181) rfl k) ?_
        show own_Run p e below s _ _ _ (T7.setTop (mkF m 183 #[.val (.int i0), .val (.int i1), .val (.int i2), .val (.int (0 : Int32)), .val (.ref tl), .val (.double (FP.i2d i0)), .second, .val (.double (FP.i2d i1)), .second, .val (.double (FP.dneg (FP.i2d i0))), .second, .val (.double (FP.dneg (FP.i2d i1))), .second, .val (.int (1 : Int32)), .val (.int (1 : Int32)), .val (.int (1 : Int32))] [(.int (1 : Int32))]))
        refine own_st (fun t k => XS.ifNo X7.here hx rfl (hb hby at_183) rfl ((if0 _ _).trans (feq (by decide : ¬ ((1 : Int32) = (0 : Int32)))).1) k) ?_
        show own_Run p e below s _ _ _ (T7.setTop (mkF m 186 #[.val (.int i0), .val (.int i1), .val (.int i2), .val (.int (0 : Int32)), .val (.ref tl), .val (.double (FP.i2d i0)), .second, .val (.double (FP.i2d i1)), .second, .val (.double (FP.dneg (FP.i2d i0))), .second, .val (.double (FP.dneg (FP.i2d i1))), .second, .val (.int (1 : Int32)), .val (.int (1 : Int32)), .val (.int (1 : Int32))] []))
        refine own_st (fun t k => XS.iload X7.here hx rfl (hb hby at_186) rfl k) ?_
        show own_Run p e below s _ _ _ (T7.setTop (mkF m 188 #[.val (.int i0), .val (.int i1), .val (.int i2), .val (.int (0 : Int32)), .val (.ref tl), .val (.double (FP.i2d i0)), .second, .val (.double (FP.i2d i1)), .second, .val (.double (FP.dneg (FP.i2d i0))), .second, .val (.double (FP.dneg (FP.i2d i1))), .second, .val (.int (1 : Int32)), .val (.int (1 : Int32)), .val (.int (1 : Int32))] [(.int (1 : Int32))]))
        refine own_st (fun t k => XS.ifNo X7.here hx rfl (hb hby at_188) rfl ((if0 _ _).trans (feq (by decide : ¬ ((1 : Int32) = (0 : Int32)))).1) k) ?_
        show own_Run p e below s _ _ _ (T7.setTop (mkF m 191 #[.val (.int i0), .val (.int i1), .val (.int i2), .val (.int (0 : Int32)), .val (.ref tl), .val (.double (FP.i2d i0)), .second, .val (.double (FP.i2d i1)), .second, .val (.double (FP.dneg (FP.i2d i0))), .second, .val (.double (FP.dneg (FP.i2d i1))), .second, .val (.int (1 : Int32)), .val (.int (1 : Int32)), .val (.int (1 : Int32))] []))
        refine own_st (fun t k => XS.iconst X7.here hx rfl (hb hby at_191) k) ?_
        show own_Run p e below s _ _ _ (T7.setTop (mkF m 192 #[.val (.int i0), .val (.int i1), .val (.int i2), .val (.int (0 : Int32)), .val (.ref tl), .val (.double (FP.i2d i0)), .second, .val (.double (FP.i2d i1)), .second, .val (.double (FP.dneg (FP.i2d i0))), .second, .val (.double (FP.dneg (FP.i2d i1))), .second, .val (.int (1 : Int32)), .val (.int (1 : Int32)), .val (.int (1 : Int32))] [(.int (1 : Int32))]))
        refine own_st (fun t k => XS.goto X7.here hx rfl (pc0 := 192) (pc' := 196) rfl (hb hby at_192) (by decide) (by decide) k) ?_
        show own_Run p e below s _ _ _ (T7.setTop (mkF m 196 #[.val (.int i0), .val (.int i1), .val (.int i2), .val (.int (0 : Int32)), .val (.ref tl), .val (.double (FP.i2d i0)), .second, .val (.double (FP.i2d i1)), .second, .val (.double (FP.dneg (FP.i2d i0))), .second, .val (.double (FP.dneg (FP.i2d i1))), .second, .val (.int (1 : Int32)), .val (.int (1 : Int32)), .val (.int (1 : Int32))] [(.int (1 : Int32))]))
        exact own_ret X7 hx hlk (t := .boolean) hret rfl (Or.inl ⟨rfl, by simp, _, rfl⟩) (hb hby at_196) (by decide) (by decide) ⟨rfl, N7⟩
    · skip
      refine own_st (fun t k => XS.ifNo X7.here hx rfl (hb hby at_78) rfl ((if0 _ _).trans (feq (hc8 : ¬ ((cmpValue (FP.dcmp (FP.dneg (FP.i2d i0)) (FP.i2d i0)) .l) = (0 : Int32)))).1) k) ?_
      show own_Run p e below s _ _ _ (T7.setTop (mkF m 81 #[.val (.int i0), .val (.int i1), .val (.int i2), .val (.int (0 : Int32)), .val (.ref tl), .val (.double (FP.i2d i0)), .second, .val (.double (FP.i2d i1)), .second, .val (.double (FP.dneg (FP.i2d i0))), .second, .val (.double (FP.dneg (FP.i2d i1))), .second, .val (.int (1 : Int32)), .unset, .unset] []))
      refine own_st (fun t k => XS.dload X7.here hx rfl (hb hby at_81) rfl k) ?_
      show own_Run p e below s _ _ _ (T7.setTop (mkF m 83 #[.val (.int i0), .val (.int i1), .val (.int i2), .val (.int (0 : Int32)), .val (.ref tl), .val (.double (FP.i2d i0)), .second, .val (.double (FP.i2d i1)), .second, .val (.double (FP.dneg (FP.i2d i0))), .second, .val (.double (FP.dneg (FP.i2d i1))), .second, .val (.int (1 : Int32)), .unset, .unset] [(.double (FP.dneg (FP.i2d i0)))]))
      refine own_st (fun t k => XS.dload X7.here hx rfl (hb hby at_83) rfl k) ?_
      show own_Run p e below s _ _ _ (T7.setTop (mkF m 85 #[.val (.int i0), .val (.int i1), .val (.int i2), .val (.int (0 : Int32)), .val (.ref tl), .val (.double (FP.i2d i0)), .second, .val (.double (FP.i2d i1)), .second, .val (.double (FP.dneg (FP.i2d i0))), .second, .val (.double (FP.dneg (FP.i2d i1))), .second, .val (.int (1 : Int32)), .unset, .unset] [(.double (FP.i2d i0)), (.double (FP.dneg (FP.i2d i0)))]))
      refine own_st (fun t k => XS.dnegS X7.here hx rfl (hb hby at_85) rfl (v := (FP.dneg (FP.i2d i0))) (rfl) k) ?_
      show own_Run p e below s _ _ _ (T7.setTop (mkF m 86 #[.val (.int i0), .val (.int i1), .val (.int i2), .val (.int (0 : Int32)), .val (.ref tl), .val (.double (FP.i2d i0)), .second, .val (.double (FP.i2d i1)), .second, .val (.double (FP.dneg (FP.i2d i0))), .second, .val (.double (FP.dneg (FP.i2d i1))), .second, .val (.int (1 : Int32)), .unset, .unset] [(.double (FP.dneg (FP.i2d i0))), (.double (FP.dneg (FP.i2d i0)))]))
      refine own_st (fun t k => XS.dcmpS X7.here hx rfl (hb hby at_86) rfl (v := (0 : Int32)) (dcmpV_self (own_Z.i2d i0).neg.nn _) k) ?_
      show own_Run p e below s _ _ _ (T7.setTop (mkF m 87 #[.val (.int i0), .val (.int i1), .val (.int i2), .val (.int (0 : Int32)), .val (.ref tl), .val (.double (FP.i2d i0)), .second, .val (.double (FP.i2d i1)), .second, .val (.double (FP.dneg (FP.i2d i0))), .second, .val (.double (FP.dneg (FP.i2d i1))), .second, .val (.int (1 : Int32)), .unset, .unset] [(.int (0 : Int32))]))
      refine own_st (fun t k => XS.ifNo X7.here hx rfl (hb hby at_87) rfl ((if0 _ _).trans (teq (by decide : (0 : Int32) = (0 : Int32))).2) k) ?_
      show own_Run p e below s _ _ _ (T7.setTop (mkF m 90 #[.val (.int i0), .val (.int i1), .val (.int i2), .val (.int (0 : Int32)), .val (.ref tl), .val (.double (FP.i2d i0)), .second, .val (.double (FP.i2d i1)), .second, .val (.double (FP.dneg (FP.i2d i0))), .second, .val (.double (FP.dneg (FP.i2d i1))), .second, .val (.int (1 : Int32)), .unset, .unset] []))
      refine own_st (fun t k => XS.iconst X7.here hx rfl (hb hby at_90) k) ?_
      show own_Run p e below s _ _ _ (T7.setTop (mkF m 91 #[.val (.int i0), .val (.int i1), .val (.int i2), .val (.int (0 : Int32)), .val (.ref tl), .val (.double (FP.i2d i0)), .second, .val (.double (FP.i2d i1)), .second, .val (.double (FP.dneg (FP.i2d i0))), .second, .val (.double (FP.dneg (FP.i2d i1))), .second, .val (.int (1 : Int32)), .unset, .unset] [(.int (1 : Int32))]))
      refine own_st (fun t k => XS.goto X7.here hx rfl (pc0 := 91) (pc' := 95) rfl (hb hby at_91) (by decide) (by decide) k) ?_
      show own_Run p e below s _ _ _ (T7.setTop (mkF m 95 #[.val (.int i0), .val (.int i1), .val (.int i2), .val (.int (0 : Int32)), .val (.ref tl), .val (.double (FP.i2d i0)), .second, .val (.double (FP.i2d i1)), .second, .val (.double (FP.dneg (FP.i2d i0))), .second, .val (.double (FP.dneg (FP.i2d i1))), .second, .val (.int (1 : Int32)), .unset, .unset] [(.int (1 : Int32))]))
      refine own_st (fun t k => XS.istore X7.here hx rfl (hb hby at_95) rfl (l' := #[.val (.int i0), .val (.int i1), .val (.int i2), .val (.int (0 : Int32)), .val (.ref tl), .val (.double (FP.i2d i0)), .second, .val (.double (FP.i2d i1)), .second, .val (.double (FP.dneg (FP.i2d i0))), .second, .val (.double (FP.dneg (FP.i2d i1))), .second, .val (.int (1 : Int32)), .val (.int (1 : Int32)), .unset]) rfl k) ?_
      show own_Run p e below s _ _ _ (T7.setTop (mkF m 97 #[.val (.int i0), .val (.int i1), .val (.int i2), .val (.int (0 : Int32)), .val (.ref tl), .val (.double (FP.i2d i0)), .second, .val (.double (FP.i2d i1)), .second, .val (.double (FP.dneg (FP.i2d i0))), .second, .val (.double (FP.dneg (FP.i2d i1))), .second, .val (.int (1 : Int32)), .val (.int (1 : Int32)), .unset] []))
      refine own_st (fun t k => XS.iloadN X7.here hx rfl (hb hby at_97) rfl k) ?_
      show own_Run p e below s _ _ _ (T7.setTop (mkF m 98 #[.val (.int i0), .val (.int i1), .val (.int i2), .val (.int (0 : Int32)), .val (.ref tl), .val (.double (FP.i2d i0)), .second, .val (.double (FP.i2d i1)), .second, .val (.double (FP.dneg (FP.i2d i0))), .second, .val (.double (FP.dneg (FP.i2d i1))), .second, .val (.int (1 : Int32)), .val (.int (1 : Int32)), .unset] [(.int (0 : Int32))]))
      refine own_st (fun t k => XS.ifYes X7.here hx rfl (pc0 := 98) (pc' := 140) rfl (hb hby at_98) rfl ((if0 _ _).trans (teq (by decide : (0 : Int32) = (0 : Int32))).1) (by decide) (by decide) k) ?_
      show own_Run p e below s _ _ _ (T7.setTop (mkF m 140 #[.val (.int i0), .val (.int i1), .val (.int i2), .val (.int (0 : Int32)), .val (.ref tl), .val (.double (FP.i2d i0)), .second, .val (.double (FP.i2d i1)), .second, .val (.double (FP.dneg (FP.i2d i0))), .second, .val (.double (FP.dneg (FP.i2d i1))), .second, .val (.int (1 : Int32)), .val (.int (1 : Int32)), .unset] []))
      refine own_st (fun t k => XS.dload X7.here hx rfl (hb hby at_140) rfl k) ?_
      show own_Run p e below s _ _ _ (T7.setTop (mkF m 142 #[.val (.int i0), .val (.int i1), .val (.int i2), .val (.int (0 : Int32)), .val (.ref tl), .val (.double (FP.i2d i0)), .second, .val (.double (FP.i2d i1)), .second, .val (.double (FP.dneg (FP.i2d i0))), .second, .val (.double (FP.dneg (FP.i2d i1))), .second, .val (.int (1 : Int32)), .val (.int (1 : Int32)), .unset] [(.double (FP.dneg (FP.i2d i0)))]))
      refine own_st (fun t k => XS.dload X7.here hx rfl (hb hby at_142) rfl k) ?_
      show own_Run p e below s _ _ _ (T7.setTop (mkF m 144 #[.val (.int i0), .val (.int i1), .val (.int i2), .val (.int (0 : Int32)), .val (.ref tl), .val (.double (FP.i2d i0)), .second, .val (.double (FP.i2d i1)), .second, .val (.double (FP.dneg (FP.i2d i0))), .second, .val (.double (FP.dneg (FP.i2d i1))), .second, .val (.int (1 : Int32)), .val (.int (1 : Int32)), .unset] [(.double (FP.dneg (FP.i2d i1))), (.double (FP.dneg (FP.i2d i0)))]))
      refine own_st (fun t k => XS.dcmpS X7.here hx rfl (hb hby at_144) rfl (v := (cmpValue (FP.dcmp (FP.dneg (FP.i2d i0)) (FP.dneg (FP.i2d i1))) .g)) (rfl) k) ?_
      show own_Run p e below s _ _ _ (T7.setTop (mkF m 145 #[.val (.int i0), .val (.int i1), .val (.int i2), .val (.int (0 : Int32)), .val (.ref tl), .val (.double (FP.i2d i0)), .second, .val (.double (FP.i2d i1)), .second, .val (.double (FP.dneg (FP.i2d i0))), .second, .val (.double (FP.dneg (FP.i2d i1))), .second, .val (.int (1 : Int32)), .val (.int (1 : Int32)), .unset] [(.int (cmpValue (FP.dcmp (FP.dneg (FP.i2d i0)) (FP.dneg (FP.i2d i1))) .g))]))
      by_cases hA : i1 < i0
      · skip
        refine own_st (fun t k => XS.ifNo X7.here hx rfl (hb hby at_145) rfl ((if0 _ _).trans (tlt ((own_dneg_lt _ _ _).mpr hA : (cmpValue (FP.dcmp (FP.dneg (FP.i2d i0)) (FP.dneg (FP.i2d i1))) .g) < (0 : Int32))).2.1) k) ?_
        show own_Run p e below s _ _ _ (T7.setTop (mkF m 148 #[.val (.int i0), .val (.int i1), .val (.int i2), .val (.int (0 : Int32)), .val (.ref tl), .val (.double (FP.i2d i0)), .second, .val (.double (FP.i2d i1)), .second, .val (.double (FP.dneg (FP.i2d i0))), .second, .val (.double (FP.dneg (FP.i2d i1))), .second, .val (.int (1 : Int32)), .val (.int (1 : Int32)), .unset] []))
        refine own_st (fun t k => XS.iconst X7.here hx rfl (hb hby at_148) k) ?_
        show own_Run p e below s _ _ _ (T7.setTop (mkF m 149 #[.val (.int i0), .val (.int i1), .val (.int i2), .val (.int (0 : Int32)), .val (.ref tl), .val (.double (FP.i2d i0)), .second, .val (.double (FP.i2d i1)), .second, .val (.double (FP.dneg (FP.i2d i0))), .second, .val (.double (FP.dneg (FP.i2d i1))), .second, .val (.int (1 : Int32)), .val (.int (1 : Int32)), .unset] [(.int (1 : Int32))]))
        refine own_st (fun t k => XS.goto X7.here hx rfl (pc0 := 149) (pc' := 153) rfl (hb hby at_149) (by decide) (by decide) k) ?_
        show own_Run p e below s _ _ _ (T7.setTop (mkF m 153 #[.val (.int i0), .val (.int i1), .val (.int i2), .val (.int (0 : Int32)), .val (.ref tl), .val (.double (FP.i2d i0)), .second, .val (.double (FP.i2d i1)), .second, .val (.double (FP.dneg (FP.i2d i0))), .second, .val (.double (FP.dneg (FP.i2d i1))), .second, .val (.int (1 : Int32)), .val (.int (1 : Int32)), .unset] [(.int (1 : Int32))]))
        refine own_st (fun t k => XS.dload X7.here hx rfl (hb hby at_153) rfl k) ?_
        show own_Run p e below s _ _ _ (T7.setTop (mkF m 155 #[.val (.int i0), .val (.int i1), .val (.int i2), .val (.int (0 : Int32)), .val (.ref tl), .val (.double (FP.i2d i0)), .second, .val (.double (FP.i2d i1)), .second, .val (.double (FP.dneg (FP.i2d i0))), .second, .val (.double (FP.dneg (FP.i2d i1))), .second, .val (.int (1 : Int32)), .val (.int (1 : Int32)), .unset] [(.double (FP.i2d i1)), (.int (1 : Int32))]))
        refine own_st (fun t k => XS.dload X7.here hx rfl (hb hby at_155) rfl k) ?_
        show own_Run p e below s _ _ _ (T7.setTop (mkF m 157 #[.val (.int i0), .val (.int i1), .val (.int i2), .val (.int (0 : Int32)), .val (.ref tl), .val (.double (FP.i2d i0)), .second, .val (.double (FP.i2d i1)), .second, .val (.double (FP.dneg (FP.i2d i0))), .second, .val (.double (FP.dneg (FP.i2d i1))), .second, .val (.int (1 : Int32)), .val (.int (1 : Int32)), .unset] [(.double (FP.i2d i0)), (.double (FP.i2d i1)), (.int (1 : Int32))]))
        refine own_st (fun t k => XS.dcmpS X7.here hx rfl (hb hby at_157) rfl (v := (cmpValue (FP.dcmp (FP.i2d i1) (FP.i2d i0)) .g)) (rfl) k) ?_
        show own_Run p e below s _ _ _ (T7.setTop (mkF m 158 #[.val (.int i0), .val (.int i1), .val (.int i2), .val (.int (0 : Int32)), .val (.ref tl), .val (.double (FP.i2d i0)), .second, .val (.double (FP.i2d i1)), .second, .val (.double (FP.dneg (FP.i2d i0))), .second, .val (.double (FP.dneg (FP.i2d i1))), .second, .val (.int (1 : Int32)), .val (.int (1 : Int32)), .unset] [(.int (cmpValue (FP.dcmp (FP.i2d i1) (FP.i2d i0)) .g)), (.int (1 : Int32))]))
        refine own_st (fun t k => XS.ifNo X7.here hx rfl (hb hby at_158) rfl ((if0 _ _).trans (tlt ((own_dcmp_lt _ _ _).mpr hA : (cmpValue (FP.dcmp (FP.i2d i1) (FP.i2d i0)) .g) < (0 : Int32))).2.1) k) ?_
        show own_Run p e below s _ _ _ (T7.setTop (mkF m 161 #[.val (.int i0), .val (.int i1), .val (.int i2), .val (.int (0 : Int32)), .val (.ref tl), .val (.double (FP.i2d i0)), .second, .val (.double (FP.i2d i1)), .second, .val (.double (FP.dneg (FP.i2d i0))), .second, .val (.double (FP.dneg (FP.i2d i1))), .second, .val (.int (1 : Int32)), .val (.int (1 : Int32)), .unset] [(.int (1 : Int32))]))
        refine own_st (fun t k => XS.iconst X7.here hx rfl (hb hby at_161) k) ?_
        show own_Run p e below s _ _ _ (T7.setTop (mkF m 162 #[.val (.int i0), .val (.int i1), .val (.int i2), .val (.int (0 : Int32)), .val (.ref tl), .val (.double (FP.i2d i0)), .second, .val (.double (FP.i2d i1)), .second, .val (.double (FP.dneg (FP.i2d i0))), .second, .val (.double (FP.dneg (FP.i2d i1))), .second, .val (.int (1 : Int32)), .val (.int (1 : Int32)), .unset] [(.int (1 : Int32)), (.int (1 : Int32))]))
        refine own_st (fun t k => XS.goto X7.here hx rfl (pc0 := 162) (pc' := 166) rfl (hb hby at_162) (by decide) (by decide) k) ?_
        show own_Run p e below s _ _ _ (T7.setTop (mkF m 166 #[.val (.int i0), .val (.int i1), .val (.int i2), .val (.int (0 : Int32)), .val (.ref tl), .val (.double (FP.i2d i0)), .second, .val (.double (FP.i2d i1)), .second, .val (.double (FP.dneg (FP.i2d i0))), .second, .val (.double (FP.dneg (FP.i2d i1))), .second, .val (.int (1 : Int32)), .val (.int (1 : Int32)), .unset] [(.int (1 : Int32)), (.int (1 : Int32))]))
        refine own_st (fun t k => XS.icmpNo X7.here hx rfl (hb hby at_166) rfl (teq (by decide : (1 : Int32) = (1 : Int32))).2 k) ?_
        show own_Run p e below s _ _ _ (T7.setTop (mkF m 169 #[.val (.int i0), .val (.int i1), .val (.int i2), .val (.int (0 : Int32)), .val (.ref tl), .val (.double (FP.i2d i0)), .second, .val (.double (FP.i2d i1)), .second, .val (.double (FP.dneg (FP.i2d i0))), .second, .val (.double (FP.dneg (FP.i2d i1))), .second, .val (.int (1 : Int32)), .val (.int (1 : Int32)), .unset] []))
        refine own_st (fun t k => XS.iconst X7.here hx rfl (hb hby at_169) k) ?_
        show own_Run p e below s _ _ _ (T7.setTop (mkF m 170 #[.val (.int i0), .val (.int i1), .val (.int i2), .val (.int (0 : Int32)), .val (.ref tl), .val (.double (FP.i2d i0)), .second, .val (.double (FP.i2d i1)), .second, .val (.double (FP.dneg (FP.i2d i0))), .second, .val (.double (FP.dneg (FP.i2d i1))), .second, .val (.int (1 : Int32)), .val (.int (1 : Int32)), .unset] [(.int (1 : Int32))]))
        refine own_st (fun t k => XS.goto X7.here hx rfl (pc0 := 170) (pc' := 174) rfl (hb hby at_170) (by decide) (by decide) k) ?_
        show own_Run p e below s _ _ _ (T7.setTop (mkF m 174 #[.val (.int i0), .val (.int i1), .val (.int i2), .val (.int (0 : Int32)), .val (.ref tl), .val (.double (FP.i2d i0)), .second, .val (.double (FP.i2d i1)), .second, .val (.double (FP.dneg (FP.i2d i0))), .second, .val (.double (FP.dneg (FP.i2d i1))), .second, .val (.int (1 : Int32)), .val (.int (1 : Int32)), .unset] [(.int (1 : Int32))]))
        refine own_st (fun t k => XS.istore X7.here hx rfl (hb hby at_174) rfl (l' := #[.val (.int i0), .val (.int i1), .val (.int i2), .val (.int (0 : Int32)), .val (.ref tl), .val (.double (FP.i2d i0)), .second, .val (.double (FP.i2d i1)), .second, .val (.double (FP.dneg (FP.i2d i0))), .second, .val (.double (FP.dneg (FP.i2d i1))), .second, .val (.int (1 : Int32)), .val (.int (1 : Int32)), .val (.int (1 : Int32))]) rfl k) ?_
        show own_Run p e below s _ _ _ (T7.setTop (mkF m 176 #[.val (.int i0), .val (.int i1), .val (.int i2), .val (.int (0 : Int32)), .val (.ref tl), .val (.double (FP.i2d i0)), .second, .val (.double (FP.i2d i1)), .second, .val (.double (FP.dneg (FP.i2d i0))), .second, .val (.double (FP.dneg (FP.i2d i1))), .second, .val (.int (1 : Int32)), .val (.int (1 : Int32)), .val (.int (1 : Int32))] []))
        refine own_st (fun t k => XS.iload X7.here hx rfl (hb hby at_176) rfl k) ?_
        show own_Run p e below s _ _ _ (T7.setTop (mkF m 178 #[.val (.int i0), .val (.int i1), .val (.int i2), .val (.int (0 : Int32)), .val (.ref tl), .val (.double (FP.i2d i0)), .second, .val (.double (FP.i2d i1)), .second, .val (.double (FP.dneg (FP.i2d i0))), .second, .val (.double (FP.dneg (FP.i2d i1))), .second, .val (.int (1 : Int32)), .val (.int (1 : Int32)), .val (.int (1 : Int32))] [(.int (1 : Int32))]))
        refine own_st (fun t k => XS.ifNo X7.here hx rfl (hb hby at_178) rfl ((if0 _ _).trans (feq (by decide : ¬ ((1 : Int32) = (0 : Int32)))).1) k) ?_
        show own_Run p e below s _ _ _ (T7.setTop (mkF m 181 #[.val (.int i0), .val (.int i1), .val (.int i2), .val (.int (0 : Int32)), .val (.ref tl), .val (.double (FP.i2d i0)), .second, .val (.double (FP.i2d i1)), .second, .val (.double (FP.dneg (FP.i2d i0))), .second, .val (.double (FP.dneg (FP.i2d i1))), .second, .val (.int (1 : Int32)), .val (.int (1 : Int32)), .val (.int (1 : Int32))] []))
        refine own_st (fun t k => XS.iload X7.here hx rfl (hb hby at_181) rfl k) ?_
        show own_Run p e below s _ _ _ (T7.setTop (mkF m 183 #[.val (.int i0), .val (.int i1), .val (.int i2), .val (.int (0 : Int32)), .val (.ref tl), .val (.double (FP.i2d i0)), .second, .val (.double (FP.i2d i1)), .second, .val (.double (FP.dneg (FP.i2d i0))), .second, .val (.double (FP.dneg (FP.i2d i1))), .second, .val (.int (1 : Int32)), .val (.int (1 : Int32)), .val (.int (1 : Int32))] [(.int (1 : Int32))]))
        refine own_st (fun t k => XS.ifNo X7.here hx rfl (hb hby at_183) rfl ((if0 _ _).trans (feq (by decide : ¬ ((1 : Int32) = (0 : Int32)))).1) k) ?_
        show own_Run p e below s _ _ _ (T7.setTop (mkF m 186 #[.val (.int i0), .val (.int i1), .val (.int i2), .val (.int (0 : Int32)), .val (.ref tl), .val (.double (FP.i2d i0)), .second, .val (.double (FP.i2d i1)), .second, .val (.double (FP.dneg (FP.i2d i0))), .second, .val (.double (FP.dneg (FP.i2d i1))), .second, .val (.int (1 : Int32)), .val (.int (1 : Int32)), .val (.int (1 : Int32))] []))
        refine own_st (fun t k => XS.iload X7.here hx rfl (hb hby at_186) rfl k) ?_
        show own_Run p e below s _ _ _ (T7.setTop (mkF m 188 #[.val (.int i0), .val (.int i1), .val (.int i2), .val (.int (0 : Int32)), .val (.ref tl), .val (.double (FP.i2d i0)), .second, .val (.double (FP.i2d i1)), .second, .val (.double (FP.dneg (FP.i2d i0))), .second, .val (.double (FP.dneg (FP.i2d i1))), .second, .val (.int (1 : Int32)), .val (.int (1 : Int32)), .val (.int (1 : Int32))] [(.int (1 : Int32))]))
        refine own_st (fun t k => XS.ifNo X7.here hx rfl (hb hby at_188) rfl ((if0 _ _).trans (feq (by decide : ¬ ((1 : Int32) = (0 : Int32)))).1) k) ?_
        show own_Run p e below s _ _ _ (T7.setTop (mkF m 191 #[.val (.int i0), .val (.int i1), .val (.int i2), .val (.int (0 : Int32)), .val (.ref tl), .val (.double (FP.i2d i0)), .second, .val (.double (FP.i2d i1)), .second, .val (.double (FP.dneg (FP.i2d i0))), .second, .val (.double (FP.dneg (FP.i2d i1))), .second, .val (.int (1 : Int32)), .val (.int (1 : Int32)), .val (.int (1 : Int32))] []))
        refine own_st (fun t k => XS.iconst X7.here hx rfl (hb hby at_191) k) ?_
        show own_Run p e below s _ _ _ (T7.setTop (mkF m 192 #[.val (.int i0), .val (.int i1), .val (.int i2), .val (.int (0 : Int32)), .val (.ref tl), .val (.double (FP.i2d i0)), .second, .val (.double (FP.i2d i1)), .second, .val (.double (FP.dneg (FP.i2d i0))), .second, .val (.double (FP.dneg (FP.i2d i1))), .second, .val (.int (1 : Int32)), .val (.int (1 : Int32)), .val (.int (1 : Int32))] [(.int (1 : Int32))]))
        refine own_st (fun t k => XS.goto X7.here hx rfl (pc0 := 192) (pc' := 196) rfl (hb hby at_192) (by decide) (by decide) k) ?_
        show own_Run p e below s _ _ _ (T7.setTop (mkF m 196 #[.val (.int i0), .val (.int i1), .val (.int i2), .val (.int (0 : Int32)), .val (.ref tl), .val (.double (FP.i2d i0)), .second, .val (.double (FP.i2d i1)), .second, .val (.double (FP.dneg (FP.i2d i0))), .second, .val (.double (FP.dneg (FP.i2d i1))), .second, .val (.int (1 : Int32)), .val (.int (1 : Int32)), .val (.int (1 : Int32))] [(.int (1 : Int32))]))
        exact own_ret X7 hx hlk (t := .boolean) hret rfl (Or.inl ⟨rfl, by simp, _, rfl⟩) (hb hby at_196) (by decide) (by decide) ⟨rfl, N7⟩
      · skip
        refine own_st (fun t k => XS.ifYes X7.here hx rfl (pc0 := 145) (pc' := 152) rfl (hb hby at_145) rfl ((if0 _ _).trans (flt (fun q => hA ((own_dneg_lt _ _ _).mp q) : ¬ ((cmpValue (FP.dcmp (FP.dneg (FP.i2d i0)) (FP.dneg (FP.i2d i1))) .g) < (0 : Int32)))).2.1) (by decide) (by decide) k) ?_
        show own_Run p e below s _ _ _ (T7.setTop (mkF m 152 #[.val (.int i0), .val (.int i1), .val (.int i2), .val (.int (0 : Int32)), .val (.ref tl), .val (.double (FP.i2d i0)), .second, .val (.double (FP.i2d i1)), .second, .val (.double (FP.dneg (FP.i2d i0))), .second, .val (.double (FP.dneg (FP.i2d i1))), .second, .val (.int (1 : Int32)), .val (.int (1 : Int32)), .unset] []))
        refine own_st (fun t k => XS.iconst X7.here hx rfl (hb hby at_152) k) ?_
        show own_Run p e below s _ _ _ (T7.setTop (mkF m 153 #[.val (.int i0), .val (.int i1), .val (.int i2), .val (.int (0 : Int32)), .val (.ref tl), .val (.double (FP.i2d i0)), .second, .val (.double (FP.i2d i1)), .second, .val (.double (FP.dneg (FP.i2d i0))), .second, .val (.double (FP.dneg (FP.i2d i1))), .second, .val (.int (1 : Int32)), .val (.int (1 : Int32)), .unset] [(.int (0 : Int32))]))
        refine own_st (fun t k => XS.dload X7.here hx rfl (hb hby at_153) rfl k) ?_
        show own_Run p e below s _ _ _ (T7.setTop (mkF m 155 #[.val (.int i0), .val (.int i1), .val (.int i2), .val (.int (0 : Int32)), .val (.ref tl), .val (.double (FP.i2d i0)), .second, .val (.double (FP.i2d i1)), .second, .val (.double (FP.dneg (FP.i2d i0))), .second, .val (.double (FP.dneg (FP.i2d i1))), .second, .val (.int (1 : Int32)), .val (.int (1 : Int32)), .unset] [(.double (FP.i2d i1)), (.int (0 : Int32))]))
        refine own_st (fun t k => XS.dload X7.here hx rfl (hb hby at_155) rfl k) ?_
        show own_Run p e below s _ _ _ (T7.setTop (mkF m 157 #[.val (.int i0), .val (.int i1), .val (.int i2), .val (.int (0 : Int32)), .val (.ref tl), .val (.double (FP.i2d i0)), .second, .val (.double (FP.i2d i1)), .second, .val (.double (FP.dneg (FP.i2d i0))), .second, .val (.double (FP.dneg (FP.i2d i1))), .second, .val (.int (1 : Int32)), .val (.int (1 : Int32)), .unset] [(.double (FP.i2d i0)), (.double (FP.i2d i1)), (.int (0 : Int32))]))
        refine own_st (fun t k => XS.dcmpS X7.here hx rfl (hb hby at_157) rfl (v := (cmpValue (FP.dcmp (FP.i2d i1) (FP.i2d i0)) .g)) (rfl) k) ?_
        show own_Run p e below s _ _ _ (T7.setTop (mkF m 158 #[.val (.int i0), .val (.int i1), .val (.int i2), .val (.int (0 : Int32)), .val (.ref tl), .val (.double (FP.i2d i0)), .second, .val (.double (FP.i2d i1)), .second, .val (.double (FP.dneg (FP.i2d i0))), .second, .val (.double (FP.dneg (FP.i2d i1))), .second, .val (.int (1 : Int32)), .val (.int (1 : Int32)), .unset] [(.int (cmpValue (FP.dcmp (FP.i2d i1) (FP.i2d i0)) .g)), (.int (0 : Int32))]))
        refine own_st (fun t k => XS.ifYes X7.here hx rfl (pc0 := 158) (pc' := 165) rfl (hb hby at_158) rfl ((if0 _ _).trans (flt (fun q => hA ((own_dcmp_lt _ _ _).mp q) : ¬ ((cmpValue (FP.dcmp (FP.i2d i1) (FP.i2d i0)) .g) < (0 : Int32)))).2.1) (by decide) (by decide) k) ?_
        show own_Run p e below s _ _ _ (T7.setTop (mkF m 165 #[.val (.int i0), .val (.int i1), .val (.int i2), .val (.int (0 : Int32)), .val (.ref tl), .val (.double (FP.i2d i0)), .second, .val (.double (FP.i2d i1)), .second, .val (.double (FP.dneg (FP.i2d i0))), .second, .val (.double (FP.dneg (FP.i2d i1))), .second, .val (.int (1 : Int32)), .val (.int (1 : Int32)), .unset] [(.int (0 : Int32))]))
        refine own_st (fun t k => XS.iconst X7.here hx rfl (hb hby at_165) k) ?_
        show own_Run p e below s _ _ _ (T7.setTop (mkF m 166 #[.val (.int i0), .val (.int i1), .val (.int i2), .val (.int (0 : Int32)), .val (.ref tl), .val (.double (FP.i2d i0)), .second, .val (.double (FP.i2d i1)), .second, .val (.double (FP.dneg (FP.i2d i0))), .second, .val (.double (FP.dneg (FP.i2d i1))), .second, .val (.int (1 : Int32)), .val (.int (1 : Int32)), .unset] [(.int (0 : Int32)), (.int (0 : Int32))]))
        refine own_st (fun t k => XS.icmpNo X7.here hx rfl (hb hby at_166) rfl (teq (by decide : (0 : Int32) = (0 : Int32))).2 k) ?_
        show own_Run p e below s _ _ _ (T7.setTop (mkF m 169 #[.val (.int i0), .val (.int i1), .val (.int i2), .val (.int (0 : Int32)), .val (.ref tl), .val (.double (FP.i2d i0)), .second, .val (.double (FP.i2d i1)), .second, .val (.double (FP.dneg (FP.i2d i0))), .second, .val (.double (FP.dneg (FP.i2d i1))), .second, .val (.int (1 : Int32)), .val (.int (1 : Int32)), .unset] []))
        refine own_st (fun t k => XS.iconst X7.here hx rfl (hb hby at_169) k) ?_
        show own_Run p e below s _ _ _ (T7.setTop (mkF m 170 #[.val (.int i0), .val (.int i1), .val (.int i2), .val (.int (0 : Int32)), .val (.ref tl), .val (.double (FP.i2d i0)), .second, .val (.double (FP.i2d i1)), .second, .val (.double (FP.dneg (FP.i2d i0))), .second, .val (.double (FP.dneg (FP.i2d i1))), .second, .val (.int (1 : Int32)), .val (.int (1 : Int32)), .unset] [(.int (1 : Int32))]))
        refine own_st (fun t k => XS.goto X7.here hx rfl (pc0 := 170) (pc' := 174) rfl (hb hby at_170) (by decide) (by decide) k) ?_
        show own_Run p e below s _ _ _ (T7.setTop (mkF m 174 #[.val (.int i0), .val (.int i1), .val (.int i2), .val (.int (0 : Int32)), .val (.ref tl), .val (.double (FP.i2d i0)), .second, .val (.double (FP.i2d i1)), .second, .val (.double (FP.dneg (FP.i2d i0))), .second, .val (.double (FP.dneg (FP.i2d i1))), .second, .val (.int (1 : Int32)), .val (.int (1 : Int32)), .unset] [(.int (1 : Int32))]))
        refine own_st (fun t k => XS.istore X7.here hx rfl (hb hby at_174) rfl (l' := #[.val (.int i0), .val (.int i1), .val (.int i2), .val (.int (0 : Int32)), .val (.ref tl), .val (.double (FP.i2d i0)), .second, .val (.double (FP.i2d i1)), .second, .val (.double (FP.dneg (FP.i2d i0))), .second, .val (.double (FP.dneg (FP.i2d i1))), .second, .val (.int (1 : Int32)), .val (.int (1 : Int32)), .val (.int (1 : Int32))]) rfl k) ?_
        show own_Run p e below s _ _ _ (T7.setTop (mkF m 176 #[.val (.int i0), .val (.int i1), .val (.int i2), .val (.int (0 : Int32)), .val (.ref tl), .val (.double (FP.i2d i0)), .second, .val (.double (FP.i2d i1)), .second, .val (.double (FP.dneg (FP.i2d i0))), .second, .val (.double (FP.dneg (FP.i2d i1))), .second, .val (.int (1 : Int32)), .val (.int (1 : Int32)), .val (.int (1 : Int32))] []))
        refine own_st (fun t k => XS.iload X7.here hx rfl (hb hby at_176) rfl k) ?_
        show own_Run p e below s _ _ _ (T7.setTop (mkF m 178 #[.val (.int i0), .val (.int i1), .val (.int i2), .val (.int (0 : Int32)), .val (.ref tl), .val (.double (FP.i2d i0)), .second, .val (.double (FP.i2d i1)), .second, .val (.double (FP.dneg (FP.i2d i0))), .second, .val (.double (FP.dneg (FP.i2d i1))), .second, .val (.int (1 : Int32)), .val (.int (1 : Int32)), .val (.int (1 : Int32))] [(.int (1 : Int32))]))
        refine own_st (fun t k => XS.ifNo X7.here hx rfl (hb hby at_178) rfl ((if0 _ _).trans (feq (by decide : ¬ ((1 : Int32) = (0 : Int32)))).1) k) ?_
        show own_Run p e below s _ _ _ (T7.setTop (mkF m 181 #[.val (.int i0), .val (.int i1), .val (.int i2), .val (.int (0 : Int32)), .val (.ref tl), .val (.double (FP.i2d i0)), .second, .val (.double (FP.i2d i1)), .second, .val (.double (FP.dneg (FP.i2d i0))), .second, .val (.double (FP.dneg (FP.i2d i1))), .second, .val (.int (1 : Int32)), .val (.int (1 : Int32)), .val (.int (1 : Int32))] []))
        refine own_st (fun t k => XS.iload X7.here hx rfl (hb hby at_181) rfl k) ?_
        show own_Run p e below s _ _ _ (T7.setTop (mkF m 183 #[.val (.int i0), .val (.int i1), .val (.int i2), .val (.int (0 : Int32)), .val (.ref tl), .val (.double (FP.i2d i0)), .second, .val (.double (FP.i2d i1)), .second, .val (.double (FP.dneg (FP.i2d i0))), .second, .val (.double (FP.dneg (FP.i2d i1))), .second, .val (.int (1 : Int32)), .val (.int (1 : Int32)), .val (.int (1 : Int32))] [(.int (1 : Int32))]))
        refine own_st (fun t k => XS.ifNo X7.here hx rfl (hb hby at_183) rfl ((if0 _ _).trans (feq (by decide : ¬ ((1 : Int32) = (0 : Int32)))).1) k) ?_
        show own_Run p e below s _ _ _ (T7.setTop (mkF m 186 #[.val (.int i0), .val (.int i1), .val (.int i2), .val (.int (0 : Int32)), .val (.ref tl), .val (.double (FP.i2d i0)), .second, .val (.double (FP.i2d i1)), .second, .val (.double (FP.dneg (FP.i2d i0))), .second, .val (.double (FP.dneg (FP.i2d i1))), .second, .val (.int (1 : Int32)), .val (.int (1 : Int32)), .val (.int (1 : Int32))] []))
        refine own_st (fun t k => XS.iload X7.here hx rfl (hb hby at_186) rfl k) ?_
        show own_Run p e below s _ _ _ (T7.setTop (mkF m 188 #[.val (.int i0), .val (.int i1), .val (.int i2), .val (.int (0 : Int32)), .val (.ref tl), .val (.double (FP.i2d i0)), .second, .val (.double (FP.i2d i1)), .second, .val (.double (FP.dneg (FP.i2d i0))), .second, .val (.double (FP.dneg (FP.i2d i1))), .second, .val (.int (1 : Int32)), .val (.int (1 : Int32)), .val (.int (1 : Int32))] [(.int (1 : Int32))]))
        refine own_st (fun t k => XS.ifNo X7.here hx rfl (hb hby at_188) rfl ((if0 _ _).trans (feq (by decide : ¬ ((1 : Int32) = (0 : Int32)))).1) k) ?_
        show own_Run p e below s _ _ _ (T7.setTop (mkF m 191 #[.val (.int i0), .val (.int i1), .val (.int i2), .val (.int (0 : Int32)), .val (.ref tl), .val (.double (FP.i2d i0)), .second, .val (.double (FP.i2d i1)), .second, .val (.double (FP.dneg (FP.i2d i0))), .second, .val (.double (FP.dneg (FP.i2d i1))), .second, .val (.int (1 : Int32)), .val (.int (1 : Int32)), .val (.int (1 : Int32))] []))
        refine own_st (fun t k => XS.iconst X7.here hx rfl (hb hby at_191) k) ?_
        show own_Run p e below s _ _ _ (T7.setTop (mkF m 192 #[.val (.int i0), .val (.int i1), .val (.int i2), .val (.int (0 : Int32)), .val (.ref tl), .val (.double (FP.i2d i0)), .second, .val (.double (FP.i2d i1)), .second, .val (.double (FP.dneg (FP.i2d i0))), .second, .val (.double (FP.dneg (FP.i2d i1))), .second, .val (.int (1 : Int32)), .val (.int (1 : Int32)), .val (.int (1 : Int32))] [(.int (1 : Int32))]))
        refine own_st (fun t k => XS.goto X7.here hx rfl (pc0 := 192) (pc' := 196) rfl (hb hby at_192) (by decide) (by decide) k) ?_
        show own_Run p e below s _ _ _ (T7.setTop (mkF m 196 #[.val (.int i0), .val (.int i1), .val (.int i2), .val (.int (0 : Int32)), .val (.ref tl), .val (.double (FP.i2d i0)), .second, .val (.double (FP.i2d i1)), .second, .val (.double (FP.dneg (FP.i2d i0))), .second, .val (.double (FP.dneg (FP.i2d i1))), .second, .val (.int (1 : Int32)), .val (.int (1 : Int32)), .val (.int (1 : Int32))] [(.int (1 : Int32))]))
        exact own_ret X7 hx hlk (t := .boolean) hret rfl (Or.inl ⟨rfl, by simp, _, rfl⟩) (hb hby at_196) (by decide) (by decide) ⟨rfl, N7⟩
  · skip
    refine own_st (fun t k => XS.ifNo X0.here hx rfl (hb hby at_3) rfl ((if0 _ _).trans (feq (hc3 : ¬ ((i2 &&& (1 : Int32)) = (0 : Int32)))).1) k) ?_
    show own_Run p e below s _ _ _ (s₁.setTop (mkF m 6 #[.val (.int i0), .val (.int i1), .val (.int i2), .unset, .unset, .unset, .unset, .unset, .unset, .unset, .unset, .unset, .unset, .unset, .unset, .unset] []))
    refine own_st (fun t k => XS.iconst X0.here hx rfl (hb hby at_6) k) ?_
    show own_Run p e below s _ _ _ (s₁.setTop (mkF m 7 #[.val (.int i0), .val (.int i1), .val (.int i2), .unset, .unset, .unset, .unset, .unset, .unset, .unset, .unset, .unset, .unset, .unset, .unset, .unset] [(.int (1 : Int32))]))
    refine own_st (fun t k => XS.goto X0.here hx rfl (pc0 := 7) (pc' := 11) rfl (hb hby at_7) (by decide) (by decide) k) ?_
    show own_Run p e below s _ _ _ (s₁.setTop (mkF m 11 #[.val (.int i0), .val (.int i1), .val (.int i2), .unset, .unset, .unset, .unset, .unset, .unset, .unset, .unset, .unset, .unset, .unset, .unset, .unset] [(.int (1 : Int32))]))
    refine own_st (fun t k => XS.istoreN X0.here hx rfl (hb hby at_11) rfl (l' := #[.val (.int i0), .val (.int i1), .val (.int i2), .val (.int (1 : Int32)), .unset, .unset, .unset, .unset, .unset, .unset, .unset, .unset, .unset, .unset, .unset, .unset]) rfl k) ?_
    show own_Run p e below s _ _ _ (s₁.setTop (mkF m 12 #[.val (.int i0), .val (.int i1), .val (.int i2), .val (.int (1 : Int32)), .unset, .unset, .unset, .unset, .unset, .unset, .unset, .unset, .unset, .unset, .unset, .unset] []))
    refine own_st (fun t k => XS.iloadN X0.here hx rfl (hb hby at_12) rfl k) ?_
    show own_Run p e below s _ _ _ (s₁.setTop (mkF m 13 #[.val (.int i0), .val (.int i1), .val (.int i2), .val (.int (1 : Int32)), .unset, .unset, .unset, .unset, .unset, .unset, .unset, .unset, .unset, .unset, .unset, .unset] [(.int (1 : Int32))]))
    refine own_st (fun t k => XS.ifNo X0.here hx rfl (hb hby at_13) rfl ((if0 _ _).trans (feq (by decide : ¬ ((1 : Int32) = (0 : Int32)))).1) k) ?_
    show own_Run p e below s _ _ _ (s₁.setTop (mkF m 16 #[.val (.int i0), .val (.int i1), .val (.int i2), .val (.int (1 : Int32)), .unset, .unset, .unset, .unset, .unset, .unset, .unset, .unset, .unset, .unset, .unset, .unset] []))
    obtain ⟨T9, X9, e9, st9⟩ := getS2 X0 hx hZ hown (host := "") (Or.inl (hw _ (List.mem_of_getElem? (i := 10) rfl))) Via.refl e0 (S_H.ext O0.2) (g := (mkF m 16 #[.val (.int i0), .val (.int i1), .val (.int i2), .val (.int (1 : Int32)), .unset, .unset, .unset, .unset, .unset, .unset, .unset, .unset, .unset, .unset, .unset, .unset] [])) rfl (hb hby at_16)
    refine own_st st9 ?_
    show own_Run p e below s _ _ _ (T9.setTop (mkF m 19 #[.val (.int i0), .val (.int i1), .val (.int i2), .val (.int (1 : Int32)), .unset, .unset, .unset, .unset, .unset, .unset, .unset, .unset, .unset, .unset, .unset, .unset] [(.ref th)]))
    refine own_st (fun t k => XS.goto X9.here hx rfl (pc0 := 19) (pc' := 25) rfl (hb hby at_19) (by decide) (by decide) k) ?_
    show own_Run p e below s _ _ _ (T9.setTop (mkF m 25 #[.val (.int i0), .val (.int i1), .val (.int i2), .val (.int (1 : Int32)), .unset, .unset, .unset, .unset, .unset, .unset, .unset, .unset, .unset, .unset, .unset, .unset] [(.ref th)]))
    refine own_st (fun t k => XS.astore X9.here hx rfl (hb hby at_25) rfl rfl (l' := #[.val (.int i0), .val (.int i1), .val (.int i2), .val (.int (1 : Int32)), .val (.ref th), .unset, .unset, .unset, .unset, .unset, .unset, .unset, .unset, .unset, .unset, .unset]) rfl k) ?_
    show own_Run p e below s _ _ _ (T9.setTop (mkF m 27 #[.val (.int i0), .val (.int i1), .val (.int i2), .val (.int (1 : Int32)), .val (.ref th), .unset, .unset, .unset, .unset, .unset, .unset, .unset, .unset, .unset, .unset, .unset] []))
    refine own_st (fun t k => XS.iloadN X9.here hx rfl (hb hby at_27) rfl k) ?_
    show own_Run p e below s _ _ _ (T9.setTop (mkF m 28 #[.val (.int i0), .val (.int i1), .val (.int i2), .val (.int (1 : Int32)), .val (.ref th), .unset, .unset, .unset, .unset, .unset, .unset, .unset, .unset, .unset, .unset, .unset] [(.int i0)]))
    refine own_st (fun t k => XS.i2dS X9.here hx rfl (hb hby at_28) rfl (v := (FP.i2d i0)) (rfl) k) ?_
    show own_Run p e below s _ _ _ (T9.setTop (mkF m 29 #[.val (.int i0), .val (.int i1), .val (.int i2), .val (.int (1 : Int32)), .val (.ref th), .unset, .unset, .unset, .unset, .unset, .unset, .unset, .unset, .unset, .unset, .unset] [(.double (FP.i2d i0))]))
    refine own_st (fun t k => XS.dstore X9.here hx rfl (hb hby at_29) rfl (l' := #[.val (.int i0), .val (.int i1), .val (.int i2), .val (.int (1 : Int32)), .val (.ref th), .val (.double (FP.i2d i0)), .second, .unset, .unset, .unset, .unset, .unset, .unset, .unset, .unset, .unset]) rfl k) ?_
    show own_Run p e below s _ _ _ (T9.setTop (mkF m 31 #[.val (.int i0), .val (.int i1), .val (.int i2), .val (.int (1 : Int32)), .val (.ref th), .val (.double (FP.i2d i0)), .second, .unset, .unset, .unset, .unset, .unset, .unset, .unset, .unset, .unset] []))
    refine own_st (fun t k => XS.iloadN X9.here hx rfl (hb hby at_31) rfl k) ?_
    show own_Run p e below s _ _ _ (T9.setTop (mkF m 32 #[.val (.int i0), .val (.int i1), .val (.int i2), .val (.int (1 : Int32)), .val (.ref th), .val (.double (FP.i2d i0)), .second, .unset, .unset, .unset, .unset, .unset, .unset, .unset, .unset, .unset] [(.int i1)]))
    refine own_st (fun t k => XS.i2dS X9.here hx rfl (hb hby at_32) rfl (v := (FP.i2d i1)) (rfl) k) ?_
    show own_Run p e below s _ _ _ (T9.setTop (mkF m 33 #[.val (.int i0), .val (.int i1), .val (.int i2), .val (.int (1 : Int32)), .val (.ref th), .val (.double (FP.i2d i0)), .second, .unset, .unset, .unset, .unset, .unset, .unset, .unset, .unset, .unset] [(.double (FP.i2d i1))]))
    refine own_st (fun t k => XS.dstore X9.here hx rfl (hb hby at_33) rfl (l' := #[.val (.int i0), .val (.int i1), .val (.int i2), .val (.int (1 : Int32)), .val (.ref th), .val (.double (FP.i2d i0)), .second, .val (.double (FP.i2d i1)), .second, .unset, .unset, .unset, .unset, .unset, .unset, .unset]) rfl k) ?_
    show own_Run p e below s _ _ _ (T9.setTop (mkF m 35 #[.val (.int i0), .val (.int i1), .val (.int i2), .val (.int (1 : Int32)), .val (.ref th), .val (.double (FP.i2d i0)), .second, .val (.double (FP.i2d i1)), .second, .unset, .unset, .unset, .unset, .unset, .unset, .unset] []))
    refine own_st (fun t k => XS.aload X9.here hx rfl (hb hby at_35) rfl rfl k) ?_
    show own_Run p e below s _ _ _ (T9.setTop (mkF m 37 #[.val (.int i0), .val (.int i1), .val (.int i2), .val (.int (1 : Int32)), .val (.ref th), .val (.double (FP.i2d i0)), .second, .val (.double (FP.i2d i1)), .second, .unset, .unset, .unset, .unset, .unset, .unset, .unset] [(.ref th)]))
    refine own_st (fun t k => XS.dload X9.here hx rfl (hb hby at_37) rfl k) ?_
    show own_Run p e below s _ _ _ (T9.setTop (mkF m 39 #[.val (.int i0), .val (.int i1), .val (.int i2), .val (.int (1 : Int32)), .val (.ref th), .val (.double (FP.i2d i0)), .second, .val (.double (FP.i2d i1)), .second, .unset, .unset, .unset, .unset, .unset, .unset, .unset] [(.double (FP.i2d i0)), (.ref th)]))
    refine own_callV X9 hx hZ (y := (⟨"com/example/usurf/usurf/Evaluation$SpamWhen", "suspicion", "(D)D"⟩ : MethodName)) (C := "com/example/usurf/usurf/Evaluation$SpamWhen") hown (hw _ (List.mem_of_getElem? (i := 3) rfl)) (hw _ (List.mem_of_getElem? (i := 4) rfl)) (hw _ (List.mem_of_getElem? (i := 6) rfl)) (hw _ (List.mem_of_getElem? (i := 5) rfl)) (hw _ (List.mem_of_getElem? (i := 7) rfl)) (hw _ (List.mem_of_getElem? (i := 1) rfl)) (by decide) e9 (a := th) E_th (argsL := [(.double (FP.i2d i0))]) (rest := []) (W := 0) (own_rm1H l Z a0 hw [] th (FP.i2d i0) h0 n0 (Nat.le_trans Z0 K0.1) O0 S_H) (by decide) (by decide) (by rw [hml]; rfl) (lenOf own_pd1 rfl) rfl (by exact Nat.le_of_eq rfl) (hb hby at_39) (by decide) (by decide) ?_
    intro T10 v10 L10 X10 hq10
    obtain ⟨rfl, N10q, hh10⟩ := hq10
    have N10 := Fr.app N0 N10q
    show own_Run p e below s _ _ _ (T10.setTop (mkF m 42 #[.val (.int i0), .val (.int i1), .val (.int i2), .val (.int (1 : Int32)), .val (.ref th), .val (.double (FP.i2d i0)), .second, .val (.double (FP.i2d i1)), .second, .unset, .unset, .unset, .unset, .unset, .unset, .unset] [(.double (FP.i2d i0))]))
    refine own_st (fun t k => XS.dstore X10.here hx rfl (hb hby at_42) rfl (l' := #[.val (.int i0), .val (.int i1), .val (.int i2), .val (.int (1 : Int32)), .val (.ref th), .val (.double (FP.i2d i0)), .second, .val (.double (FP.i2d i1)), .second, .val (.double (FP.i2d i0)), .second, .unset, .unset, .unset, .unset, .unset]) rfl k) ?_
    show own_Run p e below s _ _ _ (T10.setTop (mkF m 44 #[.val (.int i0), .val (.int i1), .val (.int i2), .val (.int (1 : Int32)), .val (.ref th), .val (.double (FP.i2d i0)), .second, .val (.double (FP.i2d i1)), .second, .val (.double (FP.i2d i0)), .second, .unset, .unset, .unset, .unset, .unset] []))
    refine own_st (fun t k => XS.aload X10.here hx rfl (hb hby at_44) rfl rfl k) ?_
    show own_Run p e below s _ _ _ (T10.setTop (mkF m 46 #[.val (.int i0), .val (.int i1), .val (.int i2), .val (.int (1 : Int32)), .val (.ref th), .val (.double (FP.i2d i0)), .second, .val (.double (FP.i2d i1)), .second, .val (.double (FP.i2d i0)), .second, .unset, .unset, .unset, .unset, .unset] [(.ref th)]))
    refine own_st (fun t k => XS.dload X10.here hx rfl (hb hby at_46) rfl k) ?_
    show own_Run p e below s _ _ _ (T10.setTop (mkF m 48 #[.val (.int i0), .val (.int i1), .val (.int i2), .val (.int (1 : Int32)), .val (.ref th), .val (.double (FP.i2d i0)), .second, .val (.double (FP.i2d i1)), .second, .val (.double (FP.i2d i0)), .second, .unset, .unset, .unset, .unset, .unset] [(.double (FP.i2d i1)), (.ref th)]))
    refine own_callV X10 hx hZ (y := (⟨"com/example/usurf/usurf/Evaluation$SpamWhen", "suspicion", "(D)D"⟩ : MethodName)) (C := "com/example/usurf/usurf/Evaluation$SpamWhen") hown (hw _ (List.mem_of_getElem? (i := 3) rfl)) (hw _ (List.mem_of_getElem? (i := 4) rfl)) (hw _ (List.mem_of_getElem? (i := 6) rfl)) (hw _ (List.mem_of_getElem? (i := 5) rfl)) (hw _ (List.mem_of_getElem? (i := 7) rfl)) (hw _ (List.mem_of_getElem? (i := 1) rfl)) (by decide) hh10 (a := th) E_th (argsL := [(.double (FP.i2d i1))]) (rest := []) (W := 0) (own_rm1H l Z a0 hw [] th (FP.i2d i1) h0 n0 (Nat.le_trans Z0 K0.1) O0 S_H) (by decide) (by decide) (by rw [hml]; rfl) (lenOf own_pd1 rfl) rfl (by exact Nat.le_of_eq rfl) (hb hby at_48) (by decide) (by decide) ?_
    intro T11 v11 L11 X11 hq11
    obtain ⟨rfl, N11q, hh11⟩ := hq11
    have N11 := Fr.app N10 N11q
    show own_Run p e below s _ _ _ (T11.setTop (mkF m 51 #[.val (.int i0), .val (.int i1), .val (.int i2), .val (.int (1 : Int32)), .val (.ref th), .val (.double (FP.i2d i0)), .second, .val (.double (FP.i2d i1)), .second, .val (.double (FP.i2d i0)), .second, .unset, .unset, .unset, .unset, .unset] [(.double (FP.i2d i1))]))
    refine own_st (fun t k => XS.dstore X11.here hx rfl (hb hby at_51) rfl (l' := #[.val (.int i0), .val (.int i1), .val (.int i2), .val (.int (1 : Int32)), .val (.ref th), .val (.double (FP.i2d i0)), .second, .val (.double (FP.i2d i1)), .second, .val (.double (FP.i2d i0)), .second, .val (.double (FP.i2d i1)), .second, .unset, .unset, .unset]) rfl k) ?_
    show own_Run p e below s _ _ _ (T11.setTop (mkF m 53 #[.val (.int i0), .val (.int i1), .val (.int i2), .val (.int (1 : Int32)), .val (.ref th), .val (.double (FP.i2d i0)), .second, .val (.double (FP.i2d i1)), .second, .val (.double (FP.i2d i0)), .second, .val (.double (FP.i2d i1)), .second, .unset, .unset, .unset] []))
    refine own_st (fun t k => XS.aload X11.here hx rfl (hb hby at_53) rfl rfl k) ?_
    show own_Run p e below s _ _ _ (T11.setTop (mkF m 55 #[.val (.int i0), .val (.int i1), .val (.int i2), .val (.int (1 : Int32)), .val (.ref th), .val (.double (FP.i2d i0)), .second, .val (.double (FP.i2d i1)), .second, .val (.double (FP.i2d i0)), .second, .val (.double (FP.i2d i1)), .second, .unset, .unset, .unset] [(.ref th)]))
    refine own_st (fun t k => XS.dload X11.here hx rfl (hb hby at_55) rfl k) ?_
    show own_Run p e below s _ _ _ (T11.setTop (mkF m 57 #[.val (.int i0), .val (.int i1), .val (.int i2), .val (.int (1 : Int32)), .val (.ref th), .val (.double (FP.i2d i0)), .second, .val (.double (FP.i2d i1)), .second, .val (.double (FP.i2d i0)), .second, .val (.double (FP.i2d i1)), .second, .unset, .unset, .unset] [(.double (FP.i2d i0)), (.ref th)]))
    refine own_callV X11 hx hZ (y := (⟨"com/example/usurf/usurf/Evaluation$SpamWhen", "suspicion", "(D)D"⟩ : MethodName)) (C := "com/example/usurf/usurf/Evaluation$SpamWhen") hown (hw _ (List.mem_of_getElem? (i := 3) rfl)) (hw _ (List.mem_of_getElem? (i := 4) rfl)) (hw _ (List.mem_of_getElem? (i := 6) rfl)) (hw _ (List.mem_of_getElem? (i := 5) rfl)) (hw _ (List.mem_of_getElem? (i := 7) rfl)) (hw _ (List.mem_of_getElem? (i := 1) rfl)) (by decide) hh11 (a := th) E_th (argsL := [(.double (FP.i2d i0))]) (rest := []) (W := 0) (own_rm1H l Z a0 hw [] th (FP.i2d i0) h0 n0 (Nat.le_trans Z0 K0.1) O0 S_H) (by decide) (by decide) (by rw [hml]; rfl) (lenOf own_pd1 rfl) rfl (by exact Nat.le_of_eq rfl) (hb hby at_57) (by decide) (by decide) ?_
    intro T12 v12 L12 X12 hq12
    obtain ⟨rfl, N12q, hh12⟩ := hq12
    have N12 := Fr.app N11 N12q
    show own_Run p e below s _ _ _ (T12.setTop (mkF m 60 #[.val (.int i0), .val (.int i1), .val (.int i2), .val (.int (1 : Int32)), .val (.ref th), .val (.double (FP.i2d i0)), .second, .val (.double (FP.i2d i1)), .second, .val (.double (FP.i2d i0)), .second, .val (.double (FP.i2d i1)), .second, .unset, .unset, .unset] [(.double (FP.i2d i0))]))
    refine own_st (fun t k => XS.dload X12.here hx rfl (hb hby at_60) rfl k) ?_
    show own_Run p e below s _ _ _ (T12.setTop (mkF m 62 #[.val (.int i0), .val (.int i1), .val (.int i2), .val (.int (1 : Int32)), .val (.ref th), .val (.double (FP.i2d i0)), .second, .val (.double (FP.i2d i1)), .second, .val (.double (FP.i2d i0)), .second, .val (.double (FP.i2d i1)), .second, .unset, .unset, .unset] [(.double (FP.i2d i0)), (.double (FP.i2d i0))]))
    refine own_st (fun t k => XS.dcmpS X12.here hx rfl (hb hby at_62) rfl (v := (0 : Int32)) (dcmpV_self (own_Z.i2d i0).nn _) k) ?_
    show own_Run p e below s _ _ _ (T12.setTop (mkF m 63 #[.val (.int i0), .val (.int i1), .val (.int i2), .val (.int (1 : Int32)), .val (.ref th), .val (.double (FP.i2d i0)), .second, .val (.double (FP.i2d i1)), .second, .val (.double (FP.i2d i0)), .second, .val (.double (FP.i2d i1)), .second, .unset, .unset, .unset] [(.int (0 : Int32))]))
    refine own_st (fun t k => XS.ifNo X12.here hx rfl (hb hby at_63) rfl ((if0 _ _).trans (teq (by decide : (0 : Int32) = (0 : Int32))).2) k) ?_
    show own_Run p e below s _ _ _ (T12.setTop (mkF m 66 #[.val (.int i0), .val (.int i1), .val (.int i2), .val (.int (1 : Int32)), .val (.ref th), .val (.double (FP.i2d i0)), .second, .val (.double (FP.i2d i1)), .second, .val (.double (FP.i2d i0)), .second, .val (.double (FP.i2d i1)), .second, .unset, .unset, .unset] []))
    refine own_st (fun t k => XS.iconst X12.here hx rfl (hb hby at_66) k) ?_
    show own_Run p e below s _ _ _ (T12.setTop (mkF m 67 #[.val (.int i0), .val (.int i1), .val (.int i2), .val (.int (1 : Int32)), .val (.ref th), .val (.double (FP.i2d i0)), .second, .val (.double (FP.i2d i1)), .second, .val (.double (FP.i2d i0)), .second, .val (.double (FP.i2d i1)), .second, .unset, .unset, .unset] [(.int (1 : Int32))]))
    refine own_st (fun t k => XS.goto X12.here hx rfl (pc0 := 67) (pc' := 71) rfl (hb hby at_67) (by decide) (by decide) k) ?_
    show own_Run p e below s _ _ _ (T12.setTop (mkF m 71 #[.val (.int i0), .val (.int i1), .val (.int i2), .val (.int (1 : Int32)), .val (.ref th), .val (.double (FP.i2d i0)), .second, .val (.double (FP.i2d i1)), .second, .val (.double (FP.i2d i0)), .second, .val (.double (FP.i2d i1)), .second, .unset, .unset, .unset] [(.int (1 : Int32))]))
    refine own_st (fun t k => XS.istore X12.here hx rfl (hb hby at_71) rfl (l' := #[.val (.int i0), .val (.int i1), .val (.int i2), .val (.int (1 : Int32)), .val (.ref th), .val (.double (FP.i2d i0)), .second, .val (.double (FP.i2d i1)), .second, .val (.double (FP.i2d i0)), .second, .val (.double (FP.i2d i1)), .second, .val (.int (1 : Int32)), .unset, .unset]) rfl k) ?_
    show own_Run p e below s _ _ _ (T12.setTop (mkF m 73 #[.val (.int i0), .val (.int i1), .val (.int i2), .val (.int (1 : Int32)), .val (.ref th), .val (.double (FP.i2d i0)), .second, .val (.double (FP.i2d i1)), .second, .val (.double (FP.i2d i0)), .second, .val (.double (FP.i2d i1)), .second, .val (.int (1 : Int32)), .unset, .unset] []))
    refine own_st (fun t k => XS.dload X12.here hx rfl (hb hby at_73) rfl k) ?_
    show own_Run p e below s _ _ _ (T12.setTop (mkF m 75 #[.val (.int i0), .val (.int i1), .val (.int i2), .val (.int (1 : Int32)), .val (.ref th), .val (.double (FP.i2d i0)), .second, .val (.double (FP.i2d i1)), .second, .val (.double (FP.i2d i0)), .second, .val (.double (FP.i2d i1)), .second, .val (.int (1 : Int32)), .unset, .unset] [(.double (FP.i2d i0))]))
    refine own_st (fun t k => XS.dload X12.here hx rfl (hb hby at_75) rfl k) ?_
    show own_Run p e below s _ _ _ (T12.setTop (mkF m 77 #[.val (.int i0), .val (.int i1), .val (.int i2), .val (.int (1 : Int32)), .val (.ref th), .val (.double (FP.i2d i0)), .second, .val (.double (FP.i2d i1)), .second, .val (.double (FP.i2d i0)), .second, .val (.double (FP.i2d i1)), .second, .val (.int (1 : Int32)), .unset, .unset] [(.double (FP.i2d i0)), (.double (FP.i2d i0))]))
    refine own_st (fun t k => XS.dcmpS X12.here hx rfl (hb hby at_77) rfl (v := (0 : Int32)) (dcmpV_self (own_Z.i2d i0).nn _) k) ?_
    show own_Run p e below s _ _ _ (T12.setTop (mkF m 78 #[.val (.int i0), .val (.int i1), .val (.int i2), .val (.int (1 : Int32)), .val (.ref th), .val (.double (FP.i2d i0)), .second, .val (.double (FP.i2d i1)), .second, .val (.double (FP.i2d i0)), .second, .val (.double (FP.i2d i1)), .second, .val (.int (1 : Int32)), .unset, .unset] [(.int (0 : Int32))]))
    refine own_st (fun t k => XS.ifYes X12.here hx rfl (pc0 := 78) (pc' := 90) rfl (hb hby at_78) rfl ((if0 _ _).trans (teq (by decide : (0 : Int32) = (0 : Int32))).1) (by decide) (by decide) k) ?_
    show own_Run p e below s _ _ _ (T12.setTop (mkF m 90 #[.val (.int i0), .val (.int i1), .val (.int i2), .val (.int (1 : Int32)), .val (.ref th), .val (.double (FP.i2d i0)), .second, .val (.double (FP.i2d i1)), .second, .val (.double (FP.i2d i0)), .second, .val (.double (FP.i2d i1)), .second, .val (.int (1 : Int32)), .unset, .unset] []))
    refine own_st (fun t k => XS.iconst X12.here hx rfl (hb hby at_90) k) ?_
    show own_Run p e below s _ _ _ (T12.setTop (mkF m 91 #[.val (.int i0), .val (.int i1), .val (.int i2), .val (.int (1 : Int32)), .val (.ref th), .val (.double (FP.i2d i0)), .second, .val (.double (FP.i2d i1)), .second, .val (.double (FP.i2d i0)), .second, .val (.double (FP.i2d i1)), .second, .val (.int (1 : Int32)), .unset, .unset] [(.int (1 : Int32))]))
    refine own_st (fun t k => XS.goto X12.here hx rfl (pc0 := 91) (pc' := 95) rfl (hb hby at_91) (by decide) (by decide) k) ?_
    show own_Run p e below s _ _ _ (T12.setTop (mkF m 95 #[.val (.int i0), .val (.int i1), .val (.int i2), .val (.int (1 : Int32)), .val (.ref th), .val (.double (FP.i2d i0)), .second, .val (.double (FP.i2d i1)), .second, .val (.double (FP.i2d i0)), .second, .val (.double (FP.i2d i1)), .second, .val (.int (1 : Int32)), .unset, .unset] [(.int (1 : Int32))]))
    refine own_st (fun t k => XS.istore X12.here hx rfl (hb hby at_95) rfl (l' := #[.val (.int i0), .val (.int i1), .val (.int i2), .val (.int (1 : Int32)), .val (.ref th), .val (.double (FP.i2d i0)), .second, .val (.double (FP.i2d i1)), .second, .val (.double (FP.i2d i0)), .second, .val (.double (FP.i2d i1)), .second, .val (.int (1 : Int32)), .val (.int (1 : Int32)), .unset]) rfl k) ?_
    show own_Run p e below s _ _ _ (T12.setTop (mkF m 97 #[.val (.int i0), .val (.int i1), .val (.int i2), .val (.int (1 : Int32)), .val (.ref th), .val (.double (FP.i2d i0)), .second, .val (.double (FP.i2d i1)), .second, .val (.double (FP.i2d i0)), .second, .val (.double (FP.i2d i1)), .second, .val (.int (1 : Int32)), .val (.int (1 : Int32)), .unset] []))
    refine own_st (fun t k => XS.iloadN X12.here hx rfl (hb hby at_97) rfl k) ?_
    show own_Run p e below s _ _ _ (T12.setTop (mkF m 98 #[.val (.int i0), .val (.int i1), .val (.int i2), .val (.int (1 : Int32)), .val (.ref th), .val (.double (FP.i2d i0)), .second, .val (.double (FP.i2d i1)), .second, .val (.double (FP.i2d i0)), .second, .val (.double (FP.i2d i1)), .second, .val (.int (1 : Int32)), .val (.int (1 : Int32)), .unset] [(.int (1 : Int32))]))
    refine own_st (fun t k => XS.ifNo X12.here hx rfl (hb hby at_98) rfl ((if0 _ _).trans (feq (by decide : ¬ ((1 : Int32) = (0 : Int32)))).1) k) ?_
    show own_Run p e below s _ _ _ (T12.setTop (mkF m 101 #[.val (.int i0), .val (.int i1), .val (.int i2), .val (.int (1 : Int32)), .val (.ref th), .val (.double (FP.i2d i0)), .second, .val (.double (FP.i2d i1)), .second, .val (.double (FP.i2d i0)), .second, .val (.double (FP.i2d i1)), .second, .val (.int (1 : Int32)), .val (.int (1 : Int32)), .unset] []))
    refine own_st (fun t k => XS.dload X12.here hx rfl (hb hby at_101) rfl k) ?_
    show own_Run p e below s _ _ _ (T12.setTop (mkF m 103 #[.val (.int i0), .val (.int i1), .val (.int i2), .val (.int (1 : Int32)), .val (.ref th), .val (.double (FP.i2d i0)), .second, .val (.double (FP.i2d i1)), .second, .val (.double (FP.i2d i0)), .second, .val (.double (FP.i2d i1)), .second, .val (.int (1 : Int32)), .val (.int (1 : Int32)), .unset] [(.double (FP.i2d i0))]))
    refine own_st (fun t k => XS.dload X12.here hx rfl (hb hby at_103) rfl k) ?_
    show own_Run p e below s _ _ _ (T12.setTop (mkF m 105 #[.val (.int i0), .val (.int i1), .val (.int i2), .val (.int (1 : Int32)), .val (.ref th), .val (.double (FP.i2d i0)), .second, .val (.double (FP.i2d i1)), .second, .val (.double (FP.i2d i0)), .second, .val (.double (FP.i2d i1)), .second, .val (.int (1 : Int32)), .val (.int (1 : Int32)), .unset] [(.double (FP.i2d i1)), (.double (FP.i2d i0))]))
    refine own_st (fun t k => XS.dcmpS X12.here hx rfl (hb hby at_105) rfl (v := (cmpValue (FP.dcmp (FP.i2d i0) (FP.i2d i1)) .g)) (rfl) k) ?_
    show own_Run p e below s _ _ _ (T12.setTop (mkF m 106 #[.val (.int i0), .val (.int i1), .val (.int i2), .val (.int (1 : Int32)), .val (.ref th), .val (.double (FP.i2d i0)), .second, .val (.double (FP.i2d i1)), .second, .val (.double (FP.i2d i0)), .second, .val (.double (FP.i2d i1)), .second, .val (.int (1 : Int32)), .val (.int (1 : Int32)), .unset] [(.int (cmpValue (FP.dcmp (FP.i2d i0) (FP.i2d i1)) .g))]))
    by_cases hA : i0 < i1
    · skip
      refine own_st (fun t k => XS.ifNo X12.here hx rfl (hb hby at_106) rfl ((if0 _ _).trans (tlt ((own_dcmp_lt _ _ _).mpr hA : (cmpValue (FP.dcmp (FP.i2d i0) (FP.i2d i1)) .g) < (0 : Int32))).2.1) k) ?_
      show own_Run p e below s _ _ _ (T12.setTop (mkF m 109 #[.val (.int i0), .val (.int i1), .val (.int i2), .val (.int (1 : Int32)), .val (.ref th), .val (.double (FP.i2d i0)), .second, .val (.double (FP.i2d i1)), .second, .val (.double (FP.i2d i0)), .second, .val (.double (FP.i2d i1)), .second, .val (.int (1 : Int32)), .val (.int (1 : Int32)), .unset] []))
      refine own_st (fun t k => XS.iconst X12.here hx rfl (hb hby at_109) k) ?_
      show own_Run p e below s _ _ _ (T12.setTop (mkF m 110 #[.val (.int i0), .val (.int i1), .val (.int i2), .val (.int (1 : Int32)), .val (.ref th), .val (.double (FP.i2d i0)), .second, .val (.double (FP.i2d i1)), .second, .val (.double (FP.i2d i0)), .second, .val (.double (FP.i2d i1)), .second, .val (.int (1 : Int32)), .val (.int (1 : Int32)), .unset] [(.int (1 : Int32))]))
      refine own_st (fun t k => XS.goto X12.here hx rfl (pc0 := 110) (pc' := 114) rfl (hb hby at_110) (by decide) (by decide) k) ?_
      show own_Run p e below s _ _ _ (T12.setTop (mkF m 114 #[.val (.int i0), .val (.int i1), .val (.int i2), .val (.int (1 : Int32)), .val (.ref th), .val (.double (FP.i2d i0)), .second, .val (.double (FP.i2d i1)), .second, .val (.double (FP.i2d i0)), .second, .val (.double (FP.i2d i1)), .second, .val (.int (1 : Int32)), .val (.int (1 : Int32)), .unset] [(.int (1 : Int32))]))
      refine own_st (fun t k => XS.dload X12.here hx rfl (hb hby at_114) rfl k) ?_
      show own_Run p e below s _ _ _ (T12.setTop (mkF m 116 #[.val (.int i0), .val (.int i1), .val (.int i2), .val (.int (1 : Int32)), .val (.ref th), .val (.double (FP.i2d i0)), .second, .val (.double (FP.i2d i1)), .second, .val (.double (FP.i2d i0)), .second, .val (.double (FP.i2d i1)), .second, .val (.int (1 : Int32)), .val (.int (1 : Int32)), .unset] [(.double (FP.i2d i0)), (.int (1 : Int32))]))
      refine own_st (fun t k => XS.dload X12.here hx rfl (hb hby at_116) rfl k) ?_
      show own_Run p e below s _ _ _ (T12.setTop (mkF m 118 #[.val (.int i0), .val (.int i1), .val (.int i2), .val (.int (1 : Int32)), .val (.ref th), .val (.double (FP.i2d i0)), .second, .val (.double (FP.i2d i1)), .second, .val (.double (FP.i2d i0)), .second, .val (.double (FP.i2d i1)), .second, .val (.int (1 : Int32)), .val (.int (1 : Int32)), .unset] [(.double (FP.i2d i1)), (.double (FP.i2d i0)), (.int (1 : Int32))]))
      refine own_st (fun t k => XS.dcmpS X12.here hx rfl (hb hby at_118) rfl (v := (cmpValue (FP.dcmp (FP.i2d i0) (FP.i2d i1)) .g)) (rfl) k) ?_
      show own_Run p e below s _ _ _ (T12.setTop (mkF m 119 #[.val (.int i0), .val (.int i1), .val (.int i2), .val (.int (1 : Int32)), .val (.ref th), .val (.double (FP.i2d i0)), .second, .val (.double (FP.i2d i1)), .second, .val (.double (FP.i2d i0)), .second, .val (.double (FP.i2d i1)), .second, .val (.int (1 : Int32)), .val (.int (1 : Int32)), .unset] [(.int (cmpValue (FP.dcmp (FP.i2d i0) (FP.i2d i1)) .g)), (.int (1 : Int32))]))
      refine own_st (fun t k => XS.ifNo X12.here hx rfl (hb hby at_119) rfl ((if0 _ _).trans (tlt ((own_dcmp_lt _ _ _).mpr hA : (cmpValue (FP.dcmp (FP.i2d i0) (FP.i2d i1)) .g) < (0 : Int32))).2.1) k) ?_
      show own_Run p e below s _ _ _ (T12.setTop (mkF m 122 #[.val (.int i0), .val (.int i1), .val (.int i2), .val (.int (1 : Int32)), .val (.ref th), .val (.double (FP.i2d i0)), .second, .val (.double (FP.i2d i1)), .second, .val (.double (FP.i2d i0)), .second, .val (.double (FP.i2d i1)), .second, .val (.int (1 : Int32)), .val (.int (1 : Int32)), .unset] [(.int (1 : Int32))]))
      refine own_st (fun t k => XS.iconst X12.here hx rfl (hb hby at_122) k) ?_
      show own_Run p e below s _ _ _ (T12.setTop (mkF m 123 #[.val (.int i0), .val (.int i1), .val (.int i2), .val (.int (1 : Int32)), .val (.ref th), .val (.double (FP.i2d i0)), .second, .val (.double (FP.i2d i1)), .second, .val (.double (FP.i2d i0)), .second, .val (.double (FP.i2d i1)), .second, .val (.int (1 : Int32)), .val (.int (1 : Int32)), .unset] [(.int (1 : Int32)), (.int (1 : Int32))]))
      refine own_st (fun t k => XS.goto X12.here hx rfl (pc0 := 123) (pc' := 127) rfl (hb hby at_123) (by decide) (by decide) k) ?_
      show own_Run p e below s _ _ _ (T12.setTop (mkF m 127 #[.val (.int i0), .val (.int i1), .val (.int i2), .val (.int (1 : Int32)), .val (.ref th), .val (.double (FP.i2d i0)), .second, .val (.double (FP.i2d i1)), .second, .val (.double (FP.i2d i0)), .second, .val (.double (FP.i2d i1)), .second, .val (.int (1 : Int32)), .val (.int (1 : Int32)), .unset] [(.int (1 : Int32)), (.int (1 : Int32))]))
      refine own_st (fun t k => XS.icmpNo X12.here hx rfl (hb hby at_127) rfl (teq (by decide : (1 : Int32) = (1 : Int32))).2 k) ?_
      show own_Run p e below s _ _ _ (T12.setTop (mkF m 130 #[.val (.int i0), .val (.int i1), .val (.int i2), .val (.int (1 : Int32)), .val (.ref th), .val (.double (FP.i2d i0)), .second, .val (.double (FP.i2d i1)), .second, .val (.double (FP.i2d i0)), .second, .val (.double (FP.i2d i1)), .second, .val (.int (1 : Int32)), .val (.int (1 : Int32)), .unset] []))
      refine own_st (fun t k => XS.iconst X12.here hx rfl (hb hby at_130) k) ?_
      show own_Run p e below s _ _ _ (T12.setTop (mkF m 131 #[.val (.int i0), .val (.int i1), .val (.int i2), .val (.int (1 : Int32)), .val (.ref th), .val (.double (FP.i2d i0)), .second, .val (.double (FP.i2d i1)), .second, .val (.double (FP.i2d i0)), .second, .val (.double (FP.i2d i1)), .second, .val (.int (1 : Int32)), .val (.int (1 : Int32)), .unset] [(.int (1 : Int32))]))
      refine own_st (fun t k => XS.goto X12.here hx rfl (pc0 := 131) (pc' := 135) rfl (hb hby at_131) (by decide) (by decide) k) ?_
      show own_Run p e below s _ _ _ (T12.setTop (mkF m 135 #[.val (.int i0), .val (.int i1), .val (.int i2), .val (.int (1 : Int32)), .val (.ref th), .val (.double (FP.i2d i0)), .second, .val (.double (FP.i2d i1)), .second, .val (.double (FP.i2d i0)), .second, .val (.double (FP.i2d i1)), .second, .val (.int (1 : Int32)), .val (.int (1 : Int32)), .unset] [(.int (1 : Int32))]))
      refine own_st (fun t k => XS.istore X12.here hx rfl (hb hby at_135) rfl (l' := #[.val (.int i0), .val (.int i1), .val (.int i2), .val (.int (1 : Int32)), .val (.ref th), .val (.double (FP.i2d i0)), .second, .val (.double (FP.i2d i1)), .second, .val (.double (FP.i2d i0)), .second, .val (.double (FP.i2d i1)), .second, .val (.int (1 : Int32)), .val (.int (1 : Int32)), .val (.int (1 : Int32))]) rfl k) ?_
      show own_Run p e below s _ _ _ (T12.setTop (mkF m 137 #[.val (.int i0), .val (.int i1), .val (.int i2), .val (.int (1 : Int32)), .val (.ref th), .val (.double (FP.i2d i0)), .second, .val (.double (FP.i2d i1)), .second, .val (.double (FP.i2d i0)), .second, .val (.double (FP.i2d i1)), .second, .val (.int (1 : Int32)), .val (.int (1 : Int32)), .val (.int (1 : Int32))] []))
      refine own_st (fun t k => XS.goto X12.here hx rfl (pc0 := 137) (pc' := 176) rfl (hb hby at_137) (by decide) (by decide) k) ?_
      show own_Run p e below s _ _ _ (T12.setTop (mkF m 176 #[.val (.int i0), .val (.int i1), .val (.int i2), .val (.int (1 : Int32)), .val (.ref th), .val (.double (FP.i2d i0)), .second, .val (.double (FP.i2d i1)), .second, .val (.double (FP.i2d i0)), .second, .val (.double (FP.i2d i1)), .second, .val (.int (1 : Int32)), .val (.int (1 : Int32)), .val (.int (1 : Int32))] []))
      refine own_st (fun t k => XS.iload X12.here hx rfl (hb hby at_176) rfl k) ?_
      show own_Run p e below s _ _ _ (T12.setTop (mkF m 178 #[.val (.int i0), .val (.int i1), .val (.int i2), .val (.int (1 : Int32)), .val (.ref th), .val (.double (FP.i2d i0)), .second, .val (.double (FP.i2d i1)), .second, .val (.double (FP.i2d i0)), .second, .val (.double (FP.i2d i1)), .second, .val (.int (1 : Int32)), .val (.int (1 : Int32)), .val (.int (1 : Int32))] [(.int (1 : Int32))]))
      refine own_st (fun t k => XS.ifNo X12.here hx rfl (hb hby at_178) rfl ((if0 _ _).trans (feq (by decide : ¬ ((1 : Int32) = (0 : Int32)))).1) k) ?_
      show own_Run p e below s _ _ _ (T12.setTop (mkF m 181 #[.val (.int i0), .val (.int i1), .val (.int i2), .val (.int (1 : Int32)), .val (.ref th), .val (.double (FP.i2d i0)), .second, .val (.double (FP.i2d i1)), .second, .val (.double (FP.i2d i0)), .second, .val (.double (FP.i2d i1)), .second, .val (.int (1 : Int32)), .val (.int (1 : Int32)), .val (.int (1 : Int32))] []))
      refine own_st (fun t k => XS.iload X12.here hx rfl (hb hby at_181) rfl k) ?_
      show own_Run p e below s _ _ _ (T12.setTop (mkF m 183 #[.val (.int i0), .val (.int i1), .val (.int i2), .val (.int (1 : Int32)), .val (.ref th), .val (.double (FP.i2d i0)), .second, .val (.double (FP.i2d i1)), .second, .val (.double (FP.i2d i0)), .second, .val (.double (FP.i2d i1)), .second, .val (.int (1 : Int32)), .val (.int (1 : Int32)), .val (.int (1 : Int32))] [(.int (1 : Int32))]))
      refine own_st (fun t k => XS.ifNo X12.here hx rfl (hb hby at_183) rfl ((if0 _ _).trans (feq (by decide : ¬ ((1 : Int32) = (0 : Int32)))).1) k) ?_
      show own_Run p e below s _ _ _ (T12.setTop (mkF m 186 #[.val (.int i0), .val (.int i1), .val (.int i2), .val (.int (1 : Int32)), .val (.ref th), .val (.double (FP.i2d i0)), .second, .val (.double (FP.i2d i1)), .second, .val (.double (FP.i2d i0)), .second, .val (.double (FP.i2d i1)), .second, .val (.int (1 : Int32)), .val (.int (1 : Int32)), .val (.int (1 : Int32))] []))
      refine own_st (fun t k => XS.iload X12.here hx rfl (hb hby at_186) rfl k) ?_
      show own_Run p e below s _ _ _ (T12.setTop (mkF m 188 #[.val (.int i0), .val (.int i1), .val (.int i2), .val (.int (1 : Int32)), .val (.ref th), .val (.double (FP.i2d i0)), .second, .val (.double (FP.i2d i1)), .second, .val (.double (FP.i2d i0)), .second, .val (.double (FP.i2d i1)), .second, .val (.int (1 : Int32)), .val (.int (1 : Int32)), .val (.int (1 : Int32))] [(.int (1 : Int32))]))
      refine own_st (fun t k => XS.ifNo X12.here hx rfl (hb hby at_188) rfl ((if0 _ _).trans (feq (by decide : ¬ ((1 : Int32) = (0 : Int32)))).1) k) ?_
      show own_Run p e below s _ _ _ (T12.setTop (mkF m 191 #[.val (.int i0), .val (.int i1), .val (.int i2), .val (.int (1 : Int32)), .val (.ref th), .val (.double (FP.i2d i0)), .second, .val (.double (FP.i2d i1)), .second, .val (.double (FP.i2d i0)), .second, .val (.double (FP.i2d i1)), .second, .val (.int (1 : Int32)), .val (.int (1 : Int32)), .val (.int (1 : Int32))] []))
      refine own_st (fun t k => XS.iconst X12.here hx rfl (hb hby at_191) k) ?_
      show own_Run p e below s _ _ _ (T12.setTop (mkF m 192 #[.val (.int i0), .val (.int i1), .val (.int i2), .val (.int (1 : Int32)), .val (.ref th), .val (.double (FP.i2d i0)), .second, .val (.double (FP.i2d i1)), .second, .val (.double (FP.i2d i0)), .second, .val (.double (FP.i2d i1)), .second, .val (.int (1 : Int32)), .val (.int (1 : Int32)), .val (.int (1 : Int32))] [(.int (1 : Int32))]))
      refine own_st (fun t k => XS.goto X12.here hx rfl (pc0 := 192) (pc' := 196) rfl (hb hby at_192) (by decide) (by decide) k) ?_
      show own_Run p e below s _ _ _ (T12.setTop (mkF m 196 #[.val (.int i0), .val (.int i1), .val (.int i2), .val (.int (1 : Int32)), .val (.ref th), .val (.double (FP.i2d i0)), .second, .val (.double (FP.i2d i1)), .second, .val (.double (FP.i2d i0)), .second, .val (.double (FP.i2d i1)), .second, .val (.int (1 : Int32)), .val (.int (1 : Int32)), .val (.int (1 : Int32))] [(.int (1 : Int32))]))
      exact own_ret X12 hx hlk (t := .boolean) hret rfl (Or.inl ⟨rfl, by simp, _, rfl⟩) (hb hby at_196) (by decide) (by decide) ⟨rfl, N12⟩
    · skip
      refine own_st (fun t k => XS.ifYes X12.here hx rfl (pc0 := 106) (pc' := 113) rfl (hb hby at_106) rfl ((if0 _ _).trans (flt (fun q => hA ((own_dcmp_lt _ _ _).mp q) : ¬ ((cmpValue (FP.dcmp (FP.i2d i0) (FP.i2d i1)) .g) < (0 : Int32)))).2.1) (by decide) (by decide) k) ?_
      show own_Run p e below s _ _ _ (T12.setTop (mkF m 113 #[.val (.int i0), .val (.int i1), .val (.int i2), .val (.int (1 : Int32)), .val (.ref th), .val (.double (FP.i2d i0)), .second, .val (.double (FP.i2d i1)), .second, .val (.double (FP.i2d i0)), .second, .val (.double (FP.i2d i1)), .second, .val (.int (1 : Int32)), .val (.int (1 : Int32)), .unset] []))
      refine own_st (fun t k => XS.iconst X12.here hx rfl (hb hby at_113) k) ?_
      show own_Run p e below s _ _ _ (T12.setTop (mkF m 114 #[.val (.int i0), .val (.int i1), .val (.int i2), .val (.int (1 : Int32)), .val (.ref th), .val (.double (FP.i2d i0)), .second, .val (.double (FP.i2d i1)), .second, .val (.double (FP.i2d i0)), .second, .val (.double (FP.i2d i1)), .second, .val (.int (1 : Int32)), .val (.int (1 : Int32)), .unset] [(.int (0 : Int32))]))
      refine own_st (fun t k => XS.dload X12.here hx rfl (hb hby at_114) rfl k) ?_
      show own_Run p e below s _ _ _ (T12.setTop (mkF m 116 #[.val (.int i0), .val (.int i1), .val (.int i2), .val (.int (1 : Int32)), .val (.ref th), .val (.double (FP.i2d i0)), .second, .val (.double (FP.i2d i1)), .second, .val (.double (FP.i2d i0)), .second, .val (.double (FP.i2d i1)), .second, .val (.int (1 : Int32)), .val (.int (1 : Int32)), .unset] [(.double (FP.i2d i0)), (.int (0 : Int32))]))
      refine own_st (fun t k => XS.dload X12.here hx rfl (hb hby at_116) rfl k) ?_
      show own_Run p e below s _ _ _ (T12.setTop (mkF m 118 #[.val (.int i0), .val (.int i1), .val (.int i2), .val (.int (1 : Int32)), .val (.ref th), .val (.double (FP.i2d i0)), .second, .val (.double (FP.i2d i1)), .second, .val (.double (FP.i2d i0)), .second, .val (.double (FP.i2d i1)), .second, .val (.int (1 : Int32)), .val (.int (1 : Int32)), .unset] [(.double (FP.i2d i1)), (.double (FP.i2d i0)), (.int (0 : Int32))]))
      refine own_st (fun t k => XS.dcmpS X12.here hx rfl (hb hby at_118) rfl (v := (cmpValue (FP.dcmp (FP.i2d i0) (FP.i2d i1)) .g)) (rfl) k) ?_
      show own_Run p e below s _ _ _ (T12.setTop (mkF m 119 #[.val (.int i0), .val (.int i1), .val (.int i2), .val (.int (1 : Int32)), .val (.ref th), .val (.double (FP.i2d i0)), .second, .val (.double (FP.i2d i1)), .second, .val (.double (FP.i2d i0)), .second, .val (.double (FP.i2d i1)), .second, .val (.int (1 : Int32)), .val (.int (1 : Int32)), .unset] [(.int (cmpValue (FP.dcmp (FP.i2d i0) (FP.i2d i1)) .g)), (.int (0 : Int32))]))
      refine own_st (fun t k => XS.ifYes X12.here hx rfl (pc0 := 119) (pc' := 126) rfl (hb hby at_119) rfl ((if0 _ _).trans (flt (fun q => hA ((own_dcmp_lt _ _ _).mp q) : ¬ ((cmpValue (FP.dcmp (FP.i2d i0) (FP.i2d i1)) .g) < (0 : Int32)))).2.1) (by decide) (by decide) k) ?_
      show own_Run p e below s _ _ _ (T12.setTop (mkF m 126 #[.val (.int i0), .val (.int i1), .val (.int i2), .val (.int (1 : Int32)), .val (.ref th), .val (.double (FP.i2d i0)), .second, .val (.double (FP.i2d i1)), .second, .val (.double (FP.i2d i0)), .second, .val (.double (FP.i2d i1)), .second, .val (.int (1 : Int32)), .val (.int (1 : Int32)), .unset] [(.int (0 : Int32))]))
      refine own_st (fun t k => XS.iconst X12.here hx rfl (hb hby at_126) k) ?_
      show own_Run p e below s _ _ _ (T12.setTop (mkF m 127 #[.val (.int i0), .val (.int i1), .val (.int i2), .val (.int (1 : Int32)), .val (.ref th), .val (.double (FP.i2d i0)), .second, .val (.double (FP.i2d i1)), .second, .val (.double (FP.i2d i0)), .second, .val (.double (FP.i2d i1)), .second, .val (.int (1 : Int32)), .val (.int (1 : Int32)), .unset] [(.int (0 : Int32)), (.int (0 : Int32))]))
      refine own_st (fun t k => XS.icmpNo X12.here hx rfl (hb hby at_127) rfl (teq (by decide : (0 : Int32) = (0 : Int32))).2 k) ?_
      show own_Run p e below s _ _ _ (T12.setTop (mkF m 130 #[.val (.int i0), .val (.int i1), .val (.int i2), .val (.int (1 : Int32)), .val (.ref th), .val (.double (FP.i2d i0)), .second, .val (.double (FP.i2d i1)), .second, .val (.double (FP.i2d i0)), .second, .val (.double (FP.i2d i1)), .second, .val (.int (1 : Int32)), .val (.int (1 : Int32)), .unset] []))
      refine own_st (fun t k => XS.iconst X12.here hx rfl (hb hby at_130) k) ?_
      show own_Run p e below s _ _ _ (T12.setTop (mkF m 131 #[.val (.int i0), .val (.int i1), .val (.int i2), .val (.int (1 : Int32)), .val (.ref th), .val (.double (FP.i2d i0)), .second, .val (.double (FP.i2d i1)), .second, .val (.double (FP.i2d i0)), .second, .val (.double (FP.i2d i1)), .second, .val (.int (1 : Int32)), .val (.int (1 : Int32)), .unset] [(.int (1 : Int32))]))
      refine own_st (fun t k => XS.goto X12.here hx rfl (pc0 := 131) (pc' := 135) rfl (hb hby at_131) (by decide) (by decide) k) ?_
      show own_Run p e below s _ _ _ (T12.setTop (mkF m 135 #[.val (.int i0), .val (.int i1), .val (.int i2), .val (.int (1 : Int32)), .val (.ref th), .val (.double (FP.i2d i0)), .second, .val (.double (FP.i2d i1)), .second, .val (.double (FP.i2d i0)), .second, .val (.double (FP.i2d i1)), .second, .val (.int (1 : Int32)), .val (.int (1 : Int32)), .unset] [(.int (1 : Int32))]))
      refine own_st (fun t k => XS.istore X12.here hx rfl (hb hby at_135) rfl (l' := #[.val (.int i0), .val (.int i1), .val (.int i2), .val (.int (1 : Int32)), .val (.ref th), .val (.double (FP.i2d i0)), .second, .val (.double (FP.i2d i1)), .second, .val (.double (FP.i2d i0)), .second, .val (.double (FP.i2d i1)), .second, .val (.int (1 : Int32)), .val (.int (1 : Int32)), .val (.int (1 : Int32))]) rfl k) ?_
      show own_Run p e below s _ _ _ (T12.setTop (mkF m 137 #[.val (.int i0), .val (.int i1), .val (.int i2), .val (.int (1 : Int32)), .val (.ref th), .val (.double (FP.i2d i0)), .second, .val (.double (FP.i2d i1)), .second, .val (.double (FP.i2d i0)), .second, .val (.double (FP.i2d i1)), .second, .val (.int (1 : Int32)), .val (.int (1 : Int32)), .val (.int (1 : Int32))] []))
      refine own_st (fun t k => XS.goto X12.here hx rfl (pc0 := 137) (pc' := 176) rfl (hb hby at_137) (by decide) (by decide) k) ?_
      show own_Run p e below s _ _ _ (T12.setTop (mkF m 176 #[.val (.int i0), .val (.int i1), .val (.int i2), .val (.int (1 : Int32)), .val (.ref th), .val (.double (FP.i2d i0)), .second, .val (.double (FP.i2d i1)), .second, .val (.double (FP.i2d i0)), .second, .val (.double (FP.i2d i1)), .second, .val (.int (1 : Int32)), .val (.int (1 : Int32)), .val (.int (1 : Int32))] []))
      refine own_st (fun t k => XS.iload X12.here hx rfl (hb hby at_176) rfl k) ?_
      show own_Run p e below s _ _ _ (T12.setTop (mkF m 178 #[.val (.int i0), .val (.int i1), .val (.int i2), .val (.int (1 : Int32)), .val (.ref th), .val (.double (FP.i2d i0)), .second, .val (.double (FP.i2d i1)), .second, .val (.double (FP.i2d i0)), .second, .val (.double (FP.i2d i1)), .second, .val (.int (1 : Int32)), .val (.int (1 : Int32)), .val (.int (1 : Int32))] [(.int (1 : Int32))]))
      refine own_st (fun t k => XS.ifNo X12.here hx rfl (hb hby at_178) rfl ((if0 _ _).trans (feq (by decide : ¬ ((1 : Int32) = (0 : Int32)))).1) k) ?_
      show own_Run p e below s _ _ _ (T12.setTop (mkF m 181 #[.val (.int i0), .val (.int i1), .val (.int i2), .val (.int (1 : Int32)), .val (.ref th), .val (.double (FP.i2d i0)), .second, .val (.double (FP.i2d i1)), .second, .val (.double (FP.i2d i0)), .second, .val (.double (FP.i2d i1)), .second, .val (.int (1 : Int32)), .val (.int (1 : Int32)), .val (.int (1 : Int32))] []))
      refine own_st (fun t k => XS.iload X12.here hx rfl (hb hby at_181) rfl k) ?_
      show own_Run p e below s _ _ _ (T12.setTop (mkF m 183 #[.val (.int i0), .val (.int i1), .val (.int i2), .val (.int (1 : Int32)), .val (.ref th), .val (.double (FP.i2d i0)), .second, .val (.double (FP.i2d i1)), .second, .val (.double (FP.i2d i0)), .second, .val (.double (FP.i2d i1)), .second, .val (.int (1 : Int32)), .val (.int (1 : Int32)), .val (.int (1 : Int32))] [(.int (1 : Int32))]))
      refine own_st (fun t k => XS.ifNo X12.here hx rfl (hb hby at_183) rfl ((if0 _ _).trans (feq (by decide : ¬ ((1 : Int32) = (0 : Int32)))).1) k) ?_
      show own_Run p e below s _ _ _ (T12.setTop (mkF m 186 #[.val (.int i0), .val (.int i1), .val (.int i2), .val (.int (1 : Int32)), .val (.ref th), .val (.double (FP.i2d i0)), .second, .val (.double (FP.i2d i1)), .second, .val (.double (FP.i2d i0)), .second, .val (.double (FP.i2d i1)), .second, .val (.int (1 : Int32)), .val (.int (1 : Int32)), .val (.int (1 : Int32))] []))
      refine own_st (fun t k => XS.iload X12.here hx rfl (hb hby at_186) rfl k) ?_
      show own_Run p e below s _ _ _ (T12.setTop (mkF m 188 #[.val (.int i0), .val (.int i1), .val (.int i2), .val (.int (1 : Int32)), .val (.ref th), .val (.double (FP.i2d i0)), .second, .val (.double (FP.i2d i1)), .second, .val (.double (FP.i2d i0)), .second, .val (.double (FP.i2d i1)), .second, .val (.int (1 : Int32)), .val (.int (1 : Int32)), .val (.int (1 : Int32))] [(.int (1 : Int32))]))
      refine own_st (fun t k => XS.ifNo X12.here hx rfl (hb hby at_188) rfl ((if0 _ _).trans (feq (by decide : ¬ ((1 : Int32) = (0 : Int32)))).1) k) ?_
      show own_Run p e below s _ _ _ (T12.setTop (mkF m 191 #[.val (.int i0), .val (.int i1), .val (.int i2), .val (.int (1 : Int32)), .val (.ref th), .val (.double (FP.i2d i0)), .second, .val (.double (FP.i2d i1)), .second, .val (.double (FP.i2d i0)), .second, .val (.double (FP.i2d i1)), .second, .val (.int (1 : Int32)), .val (.int (1 : Int32)), .val (.int (1 : Int32))] []))
      refine own_st (fun t k => XS.iconst X12.here hx rfl (hb hby at_191) k) ?_
      show own_Run p e below s _ _ _ (T12.setTop (mkF m 192 #[.val (.int i0), .val (.int i1), .val (.int i2), .val (.int (1 : Int32)), .val (.ref th), .val (.double (FP.i2d i0)), .second, .val (.double (FP.i2d i1)), .second, .val (.double (FP.i2d i0)), .second, .val (.double (FP.i2d i1)), .second, .val (.int (1 : Int32)), .val (.int (1 : Int32)), .val (.int (1 : Int32))] [(.int (1 : Int32))]))
      refine own_st (fun t k => XS.goto X12.here hx rfl (pc0 := 192) (pc' := 196) rfl (hb hby at_192) (by decide) (by decide) k) ?_
      show own_Run p e below s _ _ _ (T12.setTop (mkF m 196 #[.val (.int i0), .val (.int i1), .val (.int i2), .val (.int (1 : Int32)), .val (.ref th), .val (.double (FP.i2d i0)), .second, .val (.double (FP.i2d i1)), .second, .val (.double (FP.i2d i0)), .second, .val (.double (FP.i2d i1)), .second, .val (.int (1 : Int32)), .val (.int (1 : Int32)), .val (.int (1 : Int32))] [(.int (1 : Int32))]))
      exact own_ret X12 hx hlk (t := .boolean) hret rfl (Or.inl ⟨rfl, by simp, _, rfl⟩) (hb hby at_196) (by decide) (by decide) ⟨rfl, N12⟩
set_option maxRecDepth 65536 in
set_option maxHeartbeats 40000000 in
theorem own_comes_1 {Post : Tables → Env → Array Value → State → Outcome → State → Prop} (hpost : ∀ tb e args s v u, (limb_1_1.after args s (.returned v) u = true ∧ limb_1_2.after args s (.returned v) u = true ∧ True) → FrameEnd s (.returned v) u (Jvm.fieldLocs frame_1_writes args s ++ Jvm.arrayLocs frame_1_arrays args s ++ Jvm.staticLocs frame_1_statics s) 0 0 → Post tb e args s (.returned v) u) :
    ArmFor flags0 classFile x code maxLocals ret World_1 tables_1 room_1 Calls_1 rest_1 Pre_1 Post := by
  intro l hfl _ _ p e ha hc hk s m args below hf hA hF happ hP
  obtain ⟨hcalls, hrest, hpre⟩ := hP
  obtain ⟨-, -, -, hnamed, -, -, -, hat⟩ := (Spec.applies_iff hf).mp happ
  obtain ⟨hg, hn⟩ := and_e (Cond.before_iff.mp (show (Jvm.Cond.and given_1 narrow_1).before args s = true from hpre))
  obtain ⟨gv1, gv2⟩ := and_e hg
  obtain ⟨gv3, gv4⟩ := and_e gv2
  obtain ⟨gv5, gv6⟩ := and_e gv4
  obtain ⟨w0, w1, w2, rfl⟩ : ∃ w0 w1 w2 : Value, args = #[w0, w1, w2] := by
    have hs : args.size = 3 := by simpa [Cond.value, given_1] using gv1
    obtain ⟨L⟩ := args
    match L, hs with
    | [w0, w1, w2], _ => exact ⟨w0, w1, w2, rfl⟩
  have hw := fun d (hd : d ∈ tables_1) => atoms_spec (ws := Jvm.Cond.code x code maxLocals ret :: tables_1) hat d (List.mem_cons_of_mem _ hd)
  have hfit : Fit s := fun {y c} hc i hi => by
    obtain ⟨ha, rfl⟩ := Array.getElem?_eq_some_iff.mp hc
    have q := List.all_eq_true.mp ((Array.all_eq_true_iff_forall_mem.mp hF) _ (Array.getElem_mem ha)) i (List.mem_range.mpr hi)
    simpa [Array.getElem?_eq_getElem hi] using q
  obtain ⟨i0, ei0⟩ := is_v gv3
  obtain rfl : w0 = (.int i0) := Option.some.inj ei0
  obtain ⟨i1, ei1⟩ := is_v gv5
  obtain rfl : w1 = (.int i1) := Option.some.inj ei1
  obtain ⟨i2, ei2⟩ := is_v gv6
  obtain rfl : w2 = (.int i2) := Option.some.inj ei2
  obtain ⟨hn1, hn2⟩ := and_e hn
  obtain ⟨hn3, hn4⟩ := and_e hn2
  obtain ⟨hn5, hn6⟩ := and_e hn4
  obtain ⟨tl, etl⟩ := exa_v hn1
  obtain ⟨th, eth⟩ := exa_v hn3
  have SL := Sta.start etl (Or.inr ⟨(hw _ (List.mem_of_getElem? (i := 1) rfl)), (hw _ (List.mem_of_getElem? (i := 2) rfl))⟩)
  have SH := Sta.start eth (Or.inr ⟨(hw _ (List.mem_of_getElem? (i := 1) rfl)), (hw _ (List.mem_of_getElem? (i := 9) rfl))⟩)
  have EL := Exa.start etl hn1
  have EH := Exa.start eth hn3
  have fl := own_eqint hn5
  have fh := own_eqint hn6
  rw [fld_at etl] at fl
  rw [fld_at eth] at fh
  have ne0 : tl ≠ th := fun q => by rw [q, fh] at fl; exact absurd (Value.int.inj (Option.some.inj fl)) (by decide)
  obtain ⟨n, o, h1, h2, h3, _, L, rfl, ⟨rfl, N⟩, hq⟩ := own_rm0 l s _ hw tables_1 i0 i1 i2 th tl s.heap s.heap.size (Nat.le_refl _) (Old.start s) SH SL EH EL ne0 p e ha hc hk s m _ below hf ((Spec.applies_iff_loose hf).mp happ).1 ⟨rfl, State.Warmed39.refl s, rfl⟩ trivial
  refine ⟨n, _, h1, h2, h3, hpost _ _ _ _ _ _ ⟨Cond.after_iff.mpr rfl, Cond.after_iff.mpr (eq_i res_at (Term.int_eval (1)) rfl), trivial⟩ ⟨hq.1, hq.2.1, (hq.2.2.sift fun y hy => Or.inr (N y hy)).mono (by decide) (by decide)⟩⟩
theorem main_1_1 : Claimed_1_1 := own_comes_1 fun _ _ _ _ _ _ h hF => ⟨h.1, hF⟩
theorem main_1_2 : Claimed_1_2 := own_comes_1 fun _ _ _ _ _ _ h hF => ⟨h.2.1, hF⟩
end Jvm.Pilot.@@N@@
namespace Jvm.Pilot.@@N@@
open Jvm Jvm.ClassFile Sem Op Lib Jvm.Free Jvm.Stand Jvm.Pilot.@@N@@.Jvm.D
/-! MADE BY PROGRAM (witnessworld.py) out of the Statement's table words and the real class files: 12 classes; the members and pool entries that the words name. The judged class is class 1, her method 1. -/
namespace start1
open Jvm.ClassFile
def u (s : String) : CpInfo := .utf8 (stringToUtf16 s)
/-- a pool by its gaps: so many unusable entries, then the entry; so many at the end -/
def gap : Nat → List CpInfo → List CpInfo
  | 0, r => r
  | n + 1, r => .unusable :: gap n r
def poolList (es : List (Nat × CpInfo)) (last : Nat) : List CpInfo := es.foldr (fun e r => gap e.1 (e.2 :: r)) (gap last [])
def pool (es : List (Nat × CpInfo)) (last : Nat) : Array CpInfo := ⟨poolList es last⟩
def fileOf (pool : Array CpInfo) (this : Nat) (attrs : Array Attribute := #[]) (ms : Array MethodInfo := #[]) (fl : Nat := 33) (sup : Nat := 0) (ifs : Array Nat := #[]) (fds : Array FieldInfo := #[]) : ClassFile where
  minorVersion := 0
  majorVersion := 65
  constantPool := pool
  accessFlags := fl
  thisClass := this
  superClass := sup
  interfaces := ifs
  fields := fds
  methods := ms
  attributes := attrs
def plain (name : String) (sup : Option ClassId) : Class where
  name := name
  kind := .ordinary
  loader := none
  accessFlags := 33
  super := sup
  interfaces := #[]
  cf := none
  fields := #[]
  methods := #[]
  instanceTypes := #[]
  staticTypes := #[]
  resolved := #[]
  callSites := []
  init := .initialized
  statics := none
  mirror := none

def pool0 : Array CpInfo := pool [(5, u "<init>"), (0, u "()V"), (1, .class_ 10), (1, u "java/lang/Object")] 113

def k0m0 : Method := { name := "<init>", desc := "()V", sig := { parameters := [], returnType := none }, accessFlags := 1, code := none }
/-- java/lang/Object -/
def k0 : Class := { plain "java/lang/Object" none with
  accessFlags := 33
  interfaces := #[]
  cf := some (fileOf pool0 8 #[] #[{ accessFlags := 1, nameIndex := 5, descriptorIndex := 6, attributes := #[] }] 33 0 #[] #[])
  fields := #[]
  methods := #[k0m0]
  instanceTypes := #[]
  staticTypes := #[]
  resolved := Array.replicate 124 none
  statics := none }

def pool1 : Array CpInfo := pool [(2, .class_ 4), (1, u "java/lang/Object"), (0, u "<init>"), (0, u "()V"), (0, .fieldref 8 9), (0, .class_ 10), (0, .nameAndType 11 12), (0, u "com/example/usurf/usurf/Evaluation$SpamWhen"), (0, u "HIGH"), (0, u "Lcom/example/usurf/usurf/Evaluation$SpamWhen;"), (0, .fieldref 8 14), (0, .nameAndType 15 12), (0, u "LOW"), (0, .methodref 8 17), (0, .nameAndType 18 19), (0, u "suspicion"), (0, u "(D)D"), (0, .class_ 21), (0, u "com/example/usurf/usurf/SpamWhenSuspicionPinLaw"), (2, u "law"), (0, u "(III)Z")] 7

def k1m0 : Method := { name := "<init>", desc := "()V", sig := { parameters := [], returnType := none }, accessFlags := 2, code := none }
def k1c1 : Code := { maxStack := 5, maxLocals := 16, code := code, exceptionTable := #[], attributes := #[] }
def k1m1 : Method := { name := "law", desc := "(III)Z", sig := { parameters := [.int, .int, .int], returnType := some .boolean }, accessFlags := 9, code := some k1c1 }
/-- com/example/usurf/usurf/SpamWhenSuspicionPinLaw -/
def k1 : Class := { plain "com/example/usurf/usurf/SpamWhenSuspicionPinLaw" (some 0) with
  accessFlags := 49
  interfaces := #[]
  cf := some (fileOf pool1 20 #[] #[{ accessFlags := 2, nameIndex := 5, descriptorIndex := 6, attributes := #[] }, { accessFlags := 9, nameIndex := 24, descriptorIndex := 25, attributes := #[] }] 49 2 #[] #[])
  fields := #[]
  methods := #[k1m0, k1m1]
  instanceTypes := #[]
  staticTypes := #[]
  resolved := Array.replicate 33 none
  statics := none }

def pool2 : Array CpInfo := pool [(1, .class_ 2), (0, u "java/lang/constant/Constable"), (0, .class_ 4), (0, u "java/lang/Object")] 6

/-- java/lang/constant/Constable -/
def k2 : Class := { plain "java/lang/constant/Constable" (some 0) with
  accessFlags := 1537
  interfaces := #[]
  cf := some (fileOf pool2 1 #[] #[] 1537 3 #[] #[])
  fields := #[]
  methods := #[]
  instanceTypes := #[]
  staticTypes := #[]
  resolved := Array.replicate 11 none
  statics := none }

def pool3 : Array CpInfo := pool [(1, .class_ 2), (0, u "java/lang/Comparable"), (0, .class_ 4), (0, u "java/lang/Object")] 7

/-- java/lang/Comparable -/
def k3 : Class := { plain "java/lang/Comparable" (some 0) with
  accessFlags := 1537
  interfaces := #[]
  cf := some (fileOf pool3 1 #[] #[] 1537 3 #[] #[])
  fields := #[]
  methods := #[]
  instanceTypes := #[]
  staticTypes := #[]
  resolved := Array.replicate 12 none
  statics := none }

def pool4 : Array CpInfo := pool [(1, .class_ 2), (0, u "java/io/Serializable"), (0, .class_ 4), (0, u "java/lang/Object")] 2

/-- java/io/Serializable -/
def k4 : Class := { plain "java/io/Serializable" (some 0) with
  accessFlags := 1537
  interfaces := #[]
  cf := some (fileOf pool4 1 #[] #[] 1537 3 #[] #[])
  fields := #[]
  methods := #[]
  instanceTypes := #[]
  staticTypes := #[]
  resolved := Array.replicate 7 none
  statics := none }

def pool5 : Array CpInfo := pool [(2, .class_ 4), (1, u "java/lang/Enum"), (0, u "name"), (0, u "Ljava/lang/String;"), (2, u "ordinal"), (0, u "I"), (1, .class_ 14), (1, u "java/lang/Object"), (4, u "hash"), (86, .class_ 108), (1, u "java/lang/Enum$EnumDesc"), (2, .class_ 112), (0, u "java/lang/constant/Constable"), (0, .class_ 114), (0, u "java/lang/Comparable"), (0, .class_ 116), (0, u "java/io/Serializable")] 87

/-- java/lang/Enum -/
def k5 : Class := { plain "java/lang/Enum" (some 0) with
  accessFlags := 1057
  interfaces := #[2, 3, 4]
  cf := some (fileOf pool5 2 #[.nestMembers #[106]] #[] 1057 12 #[111, 113, 115] #[{ accessFlags := 18, nameIndex := 5, descriptorIndex := 6, attributes := #[] }, { accessFlags := 18, nameIndex := 9, descriptorIndex := 10, attributes := #[] }, { accessFlags := 2, nameIndex := 19, descriptorIndex := 10, attributes := #[] }])
  fields := #[{ name := "name", type := (.object "java/lang/String"), accessFlags := 18, slot := 0, constantValue := 0 }, { name := "ordinal", type := .int, accessFlags := 18, slot := 1, constantValue := 0 }, { name := "hash", type := .int, accessFlags := 2, slot := 2, constantValue := 0 }]
  methods := #[]
  instanceTypes := #[(.object "java/lang/String"), .int, .int]
  staticTypes := #[]
  resolved := Array.replicate 204 none
  statics := none }

def pool6 : Array CpInfo := pool [(1, .class_ 2), (0, u "com/example/usurf/usurf/Evaluation$SpamWhen"), (0, .fieldref 1 4), (0, .nameAndType 5 6), (0, u "HIGH"), (0, u "Lcom/example/usurf/usurf/Evaluation$SpamWhen;"), (2, u "LOW"), (2, u "$VALUES"), (0, u "[Lcom/example/usurf/usurf/Evaluation$SpamWhen;"), (6, .class_ 22), (1, u "java/lang/Enum"), (20, u "suspicion"), (0, u "(D)D"), (6, .class_ 52), (0, u "com/example/usurf/usurf/Evaluation")] 2

def k6c0 : Code := { maxStack := 2, maxLocals := 3, code := prog_11_method_4_code, exceptionTable := #[], attributes := #[] }
def k6m0 : Method := { name := "suspicion", desc := "(D)D", sig := { parameters := [.double], returnType := some .double }, accessFlags := 0, code := some k6c0 }
/-- com/example/usurf/usurf/Evaluation$SpamWhen -/
def k6 : Class := { plain "com/example/usurf/usurf/Evaluation$SpamWhen" (some 5) with
  accessFlags := 16433
  interfaces := #[]
  cf := some (fileOf pool6 1 #[.nestHost 51] #[{ accessFlags := 0, nameIndex := 43, descriptorIndex := 44, attributes := #[] }] 16433 20 #[] #[{ accessFlags := 16409, nameIndex := 5, descriptorIndex := 6, attributes := #[] }, { accessFlags := 16409, nameIndex := 9, descriptorIndex := 6, attributes := #[] }, { accessFlags := 4122, nameIndex := 12, descriptorIndex := 13, attributes := #[] }])
  fields := #[{ name := "HIGH", type := (.object "com/example/usurf/usurf/Evaluation$SpamWhen"), accessFlags := 16409, slot := 0, constantValue := 0 }, { name := "LOW", type := (.object "com/example/usurf/usurf/Evaluation$SpamWhen"), accessFlags := 16409, slot := 1, constantValue := 0 }, { name := "$VALUES", type := (.array (.object "com/example/usurf/usurf/Evaluation$SpamWhen")), accessFlags := 4122, slot := 2, constantValue := 0 }]
  methods := #[k6m0]
  instanceTypes := #[(.object "java/lang/String"), .int, .int]
  staticTypes := #[(.object "com/example/usurf/usurf/Evaluation$SpamWhen"), (.object "com/example/usurf/usurf/Evaluation$SpamWhen"), (.array (.object "com/example/usurf/usurf/Evaluation$SpamWhen"))]
  resolved := Array.replicate 55 none
  statics := some 0 }

def pool7 : Array CpInfo := pool [(1, u "java/lang/Cloneable"), (0, .class_ 1), (0, u "java/lang/Object"), (0, .class_ 3)] 3

/-- java/lang/Cloneable -/
def k7 : Class := { plain "java/lang/Cloneable" (some 0) with
  accessFlags := 1537
  interfaces := #[]
  cf := some (fileOf pool7 2 #[] #[] 1537 4 #[] #[])
  fields := #[]
  methods := #[]
  instanceTypes := #[]
  staticTypes := #[]
  resolved := Array.replicate 8 none
  statics := none }

/-- the primitive byte -/
def k8 : Class := { plain "byte" none with kind := .primitive 'B', accessFlags := 0x411 }
/-- [B -/
def k9 : Class := { plain "[B" (some 0) with kind := .array 8 .byte, interfaces := #[7, 4], accessFlags := 1041 }

/-- the primitive int -/
def k10 : Class := { plain "int" none with kind := .primitive 'I', accessFlags := 0x411 }
/-- [I -/
def k11 : Class := { plain "[I" (some 0) with kind := .array 10 .int, interfaces := #[7, 4], accessFlags := 1041 }

def heap : Heap := #[{ cls := 6, slots := #[.ref 1, .ref 2, .null], vm := .statics 6 },
  { cls := 6, slots := #[.null, .int 0, .int 0], vm := .none },
  { cls := 6, slots := #[.null, .int 1, .int 0], vm := .none }]
def classes : Array Class := #[k0, k1, k2, k3, k4, k5, k6, k7, k8, k9, k10, k11]
def interned : List (Array UInt16 × Addr) := []
def slotsUsed : Nat := 9
def theMethod : MethodId := ⟨1, 1⟩
def args0 : Array Value := #[.int 1, .int 2, .int 3]
def aboutOver (below : List Frame) : State where
  vm := { classes := classes, interned := interned.toArray }
  heap := heap
  slotsUsed := slotsUsed
  threads := #[{ frames := .invoking theMethod args0 :: below }]
def below0 : List Frame := [.native { method := ⟨0, 0⟩, args := #[] }]
def about1 : State := aboutOver below0
def p0 : Program := .bare "" "" ""
def e0 : Env := launch0.env 0 0 0
theorem w_frames : about1.frames = Frame.invoking theMethod args0 :: below0 := rfl
set_option maxRecDepth 65536 in
theorem w_args : argsFit about1.vm theMethod args0 = true := by decide +kernel
set_option maxRecDepth 65536 in
theorem w_heap : heapFits about1 = true := by decide +kernel
set_option maxRecDepth 65536 in
theorem w_runnable : about1.curStatus? = some .runnable := by decide +kernel
set_option maxRecDepth 65536 in
theorem w_alone : about1.alone = true := by decide +kernel
set_option maxRecDepth 65536 in
theorem w_named : about1.methodNamed? x = some theMethod := by decide +kernel
set_option maxRecDepth 65536 in
theorem w_hears : about1.hears theMethod below0 = true := by decide +kernel
set_option maxRecDepth 65536 in
theorem w_ripe : about1.ripe theMethod args0 below0 = true := by decide +kernel
theorem w_running : about1.status = .running := rfl
set_option maxRecDepth 65536 in
theorem w_room : about1.hasRoom e0.platform room_1 = true :=
  launch0.hasRoom_least _ room_1 (by decide +kernel) (by decide +kernel) (by decide +kernel) (by decide +kernel) (by decide +kernel) (by decide +kernel)
theorem allAtoms_all (ts : List Jvm.Cond) (a : Array Jvm.Value) (st : Jvm.State) : (allAtoms ts).before a st = ts.all (fun c => c.before a st) := by
  induction ts with
  | nil => rfl
  | cons c t ih =>
    show (Jvm.Cond.and c (allAtoms t)).before a st = _
    rw [Jvm.Cond.before_and, ih, List.all_cons]
def words1 : List Jvm.Cond := Jvm.Cond.code x code maxLocals ret :: tables_1
/-- a 'code' word, met by the world's own term for the bytes: nothing is compared byte by byte -/
theorem code_word {y : MethodName} {bytes : ByteArray} {mx : Nat} {rt : Option FieldType} {a : Array Value} {s : State} {m : MethodId} {meth : Method} {c : Code} (h1 : s.methodNamed? y = some m) (h2 : s.vm.method? m = some meth) (h3 : meth.code = some c) (h4 : c.code = bytes)
    (h5 : (c.maxLocals == mx && c.exceptionTable.isEmpty && decide (c.maxStack ≤ mostOperands) && decide (meth.sig.returnType = rt) && !meth.locks && decide (parseMethodDescriptor y.desc = some meth.sig)) = true) : (Jvm.Cond.code y bytes mx rt).before a s = true := by
  simp only [Bool.and_eq_true, beq_iff_eq, Bool.not_eq_true', decide_eq_true_eq] at h5
  obtain ⟨⟨⟨⟨⟨g1, g2⟩, g3⟩, g4⟩, g5⟩, g6⟩ := h5
  simp [Cond.before, Cond.holds, Cond.value, h1, h2, h3, h4, g1, g2, g3, g4, g5, g6]
def isCode : Jvm.Cond → Bool
  | .code _ _ _ _ => true
  | _ => false
theorem all_split {L : List Jvm.Cond} {P : Jvm.Cond → Bool} (h1 : L.all (fun c => isCode c || P c) = true) (h2 : ∀ c ∈ L.filter isCode, P c = true) : L.all P = true := by
  refine List.all_eq_true.mpr fun c hc => ?_
  have h := List.all_eq_true.mp h1 c hc
  rcases Bool.eq_false_or_eq_true (isCode c) with hi | hi
  · exact h2 c (List.mem_filter.mpr ⟨hc, hi⟩)
  · simpa [hi] using h
set_option maxRecDepth 65536 in
theorem w_c0 : (Jvm.Cond.code x code maxLocals ret).before args0 about1 = true := code_word (m := ⟨1, 1⟩) (meth := k1m1) (c := k1c1) (by decide +kernel) rfl rfl rfl (by decide +kernel)
set_option maxRecDepth 65536 in
theorem w_c1 : (Jvm.Cond.code ({ cls := "com/example/usurf/usurf/Evaluation$SpamWhen", name := "suspicion", desc := "(D)D" } : Jvm.MethodName) prog_11_method_4_code (3 : Nat) (Option.some Jvm.ClassFile.FieldType.double)).before args0 about1 = true := code_word (m := ⟨6, 0⟩) (meth := k6m0) (c := k6c0) (by decide +kernel) rfl rfl rfl (by decide +kernel)
def codes1 : List Jvm.Cond := [Jvm.Cond.code x code maxLocals ret, Jvm.Cond.code ({ cls := "com/example/usurf/usurf/Evaluation$SpamWhen", name := "suspicion", desc := "(D)D" } : Jvm.MethodName) prog_11_method_4_code (3 : Nat) (Option.some Jvm.ClassFile.FieldType.double)]
set_option maxRecDepth 65536 in
theorem codes_eq : words1.filter isCode = codes1 := rfl
theorem w_codes : ∀ c ∈ words1.filter isCode, c.before args0 about1 = true := by
  rw [codes_eq]
  intro c hc
  simp only [codes1, List.mem_cons, List.not_mem_nil, or_false] at hc
  rcases hc with rfl | rfl
  · exact w_c0
  · exact w_c1
set_option maxRecDepth 65536 in
theorem w_t1 : words1.all (fun c => isCode c || c.before args0 about1) = true := by decide +kernel
theorem w_tables : (allAtoms (Jvm.Cond.code x code maxLocals ret :: tables_1)).before args0 about1 = true := by
  rw [allAtoms_all]
  show words1.all (fun c => c.before args0 about1) = true
  refine all_split ?_ w_codes
  rw [w_t1]
set_option maxRecDepth 65536 in
theorem w_case : (Jvm.Cond.and given_1 narrow_1).before args0 about1 = true := by decide +kernel
theorem w_applies : (headSpec (Jvm.Cond.code x code maxLocals ret :: tables_1) room_1).applies x e0.platform about1 = true :=
  (Spec.applies_iff w_frames).mpr ⟨w_running, w_runnable, w_alone, w_named, w_hears, w_ripe, w_room, w_tables⟩
theorem atStart : AtStart classFile x code maxLocals ret World_1 tables_1 room_1 Calls_1 rest_1 Pre_1 launch0 p0 e0 about1 theMethod args0 below0 :=
  ⟨lists_1, trivial, launch0.admits_env _ _ _, launch0.least_env, fairChoices_fair.cas, fairChoices_fair.clock, w_frames, w_args, w_heap, w_applies, trivial, trivial, w_case⟩
end start1
theorem witness_1 : WitnessClaimed_1 := ⟨start1.p0, start1.e0, start1.about1, start1.theMethod, start1.args0, start1.below0, start1.atStart⟩
end Jvm.Pilot.@@N@@
