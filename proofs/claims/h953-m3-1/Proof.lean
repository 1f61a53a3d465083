import JvmDerived
import JvmDerived.Pilot.@@N@@Statement
import JvmDerived.Pilot.@@N@@Code
set_option linter.unusedVariables false
set_option linter.unusedSimpArgs false
namespace Jvm.Pilot.@@N@@
open Jvm Jvm.ClassFile Sem Op Lib Jvm.Free Jvm.Stand Jvm.LawKit Jvm.RoadKit Bundle Jvm.Pilot.@@N@@.Jvm.D
def own_Run (p : Program) (e : Env) (below : List Frame) (s : State) (Q : Option Value → Heap → List Loc → Prop) (ck sk : Nat) (U : State) : Prop :=
  ∃ s₂ o, Steps p.tables e below U s₂ ∧ s₂.status = .running ∧ Ended s₂ below o ∧ ∃ v L, o = .returned v ∧ Q v s₂.heap L ∧ FrameEnd s o s₂ L ck sk
section OwnLayer
variable {p : Program} {l : Launch} {e : Env} {R : Room} {s : State} {m : MethodId} {args : Array Value} {below : List Frame} {meth : Method} {c : Code} {T : State} {locs : List Loc} {cells slots : Nat} {Z : State} {a0 : Array Value} {h : Heap} {Q : Option Value → Heap → List Loc → Prop} {ck sk : Nat}
theorem own_st {U U' : State} (hh : ∀ t, Steps p.tables e below U' t → Steps p.tables e below U t) (K : own_Run p e below s Q ck sk U') : own_Run p e below s Q ck sk U := by
  obtain ⟨s2, o, h1, r⟩ := K
  exact ⟨s2, o, hh _ h1, r⟩
theorem own_topI {pc : Nat} {Ls : Array Slot} {st : List Value} {v v' : Int32} (hv : v = v') (K : own_Run p e below s Q ck sk (T.setTop (mkF m pc Ls (.int v' :: st)))) : own_Run p e below s Q ck sk (T.setTop (mkF m pc Ls (.int v :: st))) := hv ▸ K
theorem own_topJ {pc : Nat} {Ls : Array Slot} {st : List Value} {v v' : Int64} (hv : v = v') (K : own_Run p e below s Q ck sk (T.setTop (mkF m pc Ls (.long v' :: st)))) : own_Run p e below s Q ck sk (T.setTop (mkF m pc Ls (.long v :: st))) := hv ▸ K
theorem own_topD {pc : Nat} {Ls : Array Slot} {st : List Value} {v v' : UInt64} (hv : v = v') (K : own_Run p e below s Q ck sk (T.setTop (mkF m pc Ls (.double v' :: st)))) : own_Run p e below s Q ck sk (T.setTop (mkF m pc Ls (.double v :: st))) := hv ▸ K
theorem own_ret (X : Stand p l e R s m args below meth c T locs cells slots) (hx : p.tables.exec = Jvm.exec) (hlk : meth.locks = false) {pc : Nat} {Ls : Array Slot} {w : Value} {t : FieldType} {i : Instr} {rest : List Value} (hret : meth.sig.returnType = some t) (hn : narrow t w = w)
    (hi : (i = .ireturn ∧ (t = .int ∨ t = .boolean ∨ t = .byte ∨ t = .char ∨ t = .short) ∧ ∃ z, w = .int z) ∨ (i = .lreturn ∧ t = .long ∧ ∃ z, w = .long z) ∨ (i = .dreturn ∧ t = .double ∧ ∃ z, w = .double z) ∨ (i = .freturn ∧ t = .float ∧ ∃ z, w = .float z) ∨ (i = .areturn ∧ t.isReference = true ∧ w.isRef = true))
    (hd : decode c.code pc = .ok (i, 1)) (hc : cells ≤ ck) (hs : slots ≤ sk) (hq : Q (some w) T.heap locs) : own_Run p e below s Q ck sk (T.setTop (mkF m pc Ls (w :: rest))) := by
  obtain ⟨fs, hr, hrun, hended, hW, hsame⟩ := X.leave (v := some w) (fun q => by rw [hret] at q; cases q) hlk
  exact ⟨_, _, retOut X hx hret hn hi hd hr, hrun, hended, _, _, rfl, hq, ⟨_, rfl⟩, hW, hsame.mono hc hs⟩
theorem own_retV (X : Stand p l e R s m args below meth c T locs cells slots) (hx : p.tables.exec = Jvm.exec) (hlk : meth.locks = false) {pc : Nat} {Ls : Array Slot} (hret : meth.sig.returnType = none)
    (hd : decode c.code pc = .ok (.return_, 1)) (hc : cells ≤ ck) (hs : slots ≤ sk) (hq : Q none T.heap locs) : own_Run p e below s Q ck sk (T.setTop (mkF m pc Ls [])) := by
  obtain ⟨fs, hr, hrun, hended, hW, hsame⟩ := X.leave (v := none) (fun _ => rfl) hlk
  exact ⟨_, _, X.returnOut hx hret hd hr, hrun, hended, _, _, rfl, hq, ⟨_, rfl⟩, hW, hsame.mono hc hs⟩
theorem own_body {y : MethodName} {bytes : ByteArray} {maxL : Nat} {ret : Option FieldType} {ws : List Jvm.Cond} {rm : Room} {as' : Array Value} {h0 : Heap} (hpl : plainFor y = true)
    (hbody : ∀ (p : Program) (e : Env) (s : State) (m : MethodId) (below : List Frame) (meth : Method) (c : Code) (s₁ : State), p.tables.exec = Jvm.exec → c.code = bytes → c.maxLocals = maxL → Z.Warmed39 s.vm → s.vm.findClass y.cls = some m.cls → meth.name = y.name → meth.sig.returnType = ret → meth.locks = false → Stand p l e rm s m as' below meth c s₁ [] 0 0 → s₁.heap = h0 → own_Run p e below s Q rm.cells rm.slots (s₁.setTop (entryFrame m as' maxL))) :
    MetFree l y (head1 (Jvm.Cond.code y bytes maxL ret :: ws) rm) (fun a U => a = as' ∧ Z.Warmed39 U.vm ∧ U.heap = h0) (fun _ _ _ _ _ => True) (fun _ U o U' => ∃ v L, o = .returned v ∧ Q v U'.heap L ∧ FrameEnd U o U' L rm.cells rm.slots) := by
  refine MetFree.of_bodySF hpl hisR ?_
  intro p e s m args below meth c s₁ Bd hml0 hP hK
  obtain ⟨rfl, hZ, hh⟩ := hP
  exact hbody p e s m below meth c s₁ Bd.exec Bd.bytes hml0 hZ (findClass_of_methodNamed Bd.named) (name_of_methodNamed Bd.named Bd.method).1 Bd.returns Bd.notSynchronized (Stand.of_body Bd) (by rw [← hh, Bd.state]; rfl)
theorem own_callI (X : Stand p l e R s m args below meth c T locs cells slots) (hx : p.tables.exec = Jvm.exec) (hZ : Z.Warmed39 s.vm) {own : String} {idx : Nat} {y : MethodName} (hy1 : y.name = "<init>") (hown : s.vm.findClass own = some m.cls) (w1 : (Jvm.Cond.methodLink own idx y).before a0 Z = true) (w2 : (Jvm.Cond.instanceMethod y).before a0 Z = true)
    {bytes : ByteArray} {maxL : Nat} (w3 : (Jvm.Cond.code y bytes maxL none).before a0 Z = true) (wz : (Jvm.Cond.initialized y.cls).before a0 Z = true) (hy : y.cls ≠ "java/lang/invoke/MethodHandle" ∧ y.cls ≠ "java/lang/invoke/VarHandle") (eT : T.heap = h) {rm : Room} {Qc : Option Value → Heap → List Loc → Prop} {a : Addr} {argsL rest : List Value}
    (hM : MetFree l y (head1 [Jvm.Cond.code y bytes maxL none] rm) (fun b U => b = (Value.ref a :: argsL).toArray ∧ Z.Warmed39 U.vm ∧ U.heap = h) (fun _ _ _ _ _ => True) (fun _ U o U' => ∃ v L, o = .returned v ∧ Qc v U'.heap L ∧ FrameEnd U o U' L rm.cells rm.slots))
    {W : Nat} (hf : rm.frames + 1 ≤ R.frames) (hl : W + (maxL + 11) + rm.locals ≤ R.locals) {pc : Nat} {Ls : Array Slot} {st : List Value} (hsize : Ls.size = c.maxLocals) (hlen : ∀ sig, parseMethodDescriptor y.desc = some sig → argsL.length = sig.parameters.length) (hst : st = argsL.reverse ++ .ref a :: rest) (hW : (rest.map fun v => v.category).sum ≤ W) (hd : decode c.code pc = .ok (.invokespecial idx, 3)) (hc : cells + rm.cells ≤ R.cells) (hs : slots + rm.slots ≤ R.slots)
    (K : ∀ (T' : State) (v : Option Value) (L : List Loc), Stand p l e R s m args below meth c T' (locs ++ L) (cells + rm.cells) (slots + rm.slots) → Qc v T'.heap L → own_Run p e below s Q ck sk (T'.setTop (mkF m (pc + 3) Ls (v.toList ++ rest)))) :
    own_Run p e below s Q ck sk (T.setTop (mkF m pc Ls st)) := by
  obtain ⟨v, _, ⟨T', L', k', n'⟩, -, X', ⟨Lc, hQ, hl', hk', hn'⟩, st'⟩ := X.specialBack hx (y := y) hy1 hown (mvT hZ w1) (mvT hZ w2) (mvT hZ w3) hy (backOf (W := W) hM hZ w3 wz hf hl) (g := mkF m pc Ls st) rfl hsize (Steps.refl _) (a := a) (argsL := argsL) (rest := rest) hlen hst (by show 2 * 0 + _ ≤ _; omega) hd (fun _ _ => ⟨rfl, eT, hc, hs⟩)
  dsimp only [Pt.U, Pt.locs, Pt.cells, Pt.slots] at X' hl' hk' hn' st' hQ
  subst hl' hk' hn'
  exact own_st (fun t k => st'.trans k) (K T' v Lc X' hQ)
theorem own_callV (X : Stand p l e R s m args below meth c T locs cells slots) (hx : p.tables.exec = Jvm.exec) (hZ : Z.Warmed39 s.vm) {own C : String} {idx : Nat} {y : MethodName} (hown : s.vm.findClass own = some m.cls) (w1 : (Jvm.Cond.methodLink own idx y).before a0 Z = true) (w2 : (Jvm.Cond.declares y).before a0 Z = true) (w3 : (Jvm.Cond.selects C y y).before a0 Z = true) (w4 : (Jvm.Cond.instanceMethod y).before a0 Z = true)
    {bytes : ByteArray} {maxL : Nat} {ret : Option FieldType} (w5 : (Jvm.Cond.code y bytes maxL ret).before a0 Z = true) (wz : (Jvm.Cond.initialized y.cls).before a0 Z = true) (hy : y.cls ≠ "java/lang/invoke/MethodHandle" ∧ y.cls ≠ "java/lang/invoke/VarHandle") (eT : T.heap = h) {a : Addr} (E : Exa Z h a C) {rm : Room} {Qc : Option Value → Heap → List Loc → Prop} {argsL rest : List Value}
    (hM : MetFree l y (head1 [Jvm.Cond.code y bytes maxL ret] rm) (fun b U => b = (Value.ref a :: argsL).toArray ∧ Z.Warmed39 U.vm ∧ U.heap = h) (fun _ _ _ _ _ => True) (fun _ U o U' => ∃ v L, o = .returned v ∧ Qc v U'.heap L ∧ FrameEnd U o U' L rm.cells rm.slots))
    {W : Nat} (hf : rm.frames + 1 ≤ R.frames) (hl : W + (maxL + 11) + rm.locals ≤ R.locals) {pc : Nat} {Ls : Array Slot} {st : List Value} (hsize : Ls.size = c.maxLocals) (hlen : ∀ sig, parseMethodDescriptor y.desc = some sig → argsL.length = sig.parameters.length) (hst : st = argsL.reverse ++ .ref a :: rest) (hW : (rest.map fun v => v.category).sum ≤ W) (hd : decode c.code pc = .ok (.invokevirtual idx, 3)) (hc : cells + rm.cells ≤ R.cells) (hs : slots + rm.slots ≤ R.slots)
    (K : ∀ (T' : State) (v : Option Value) (L : List Loc), Stand p l e R s m args below meth c T' (locs ++ L) (cells + rm.cells) (slots + rm.slots) → Qc v T'.heap L → own_Run p e below s Q ck sk (T'.setTop (mkF m (pc + 3) Ls (v.toList ++ rest)))) :
    own_Run p e below s Q ck sk (T.setTop (mkF m pc Ls st)) := by
  obtain ⟨cq, kq, qa, qb, qc⟩ := isOf hZ eT E
  obtain ⟨v, _, ⟨T', L', k', n'⟩, -, X', ⟨Lc, hQ, hl', hk', hn'⟩, st'⟩ := X.virtualBack hx (y := y) (z := y) hown (mvT hZ w1) (mvT hZ w2) (notFace_of_selects (args := #[]) (mvT hZ w3)) (mvT hZ w3) (mvT hZ w4) hy (backOf (W := W) hM hZ w5 wz hf hl) qa qc (g := mkF m pc Ls st) rfl hsize (Steps.refl _) (argsL := argsL) (rest := rest) hlen hst (by show 2 * 0 + _ ≤ _; omega) hd (fun _ _ => ⟨rfl, eT, hc, hs⟩)
  dsimp only [Pt.U, Pt.locs, Pt.cells, Pt.slots] at X' hl' hk' hn' st' hQ
  subst hl' hk' hn'
  exact own_st (fun t k => st'.trans k) (K T' v Lc X' hQ)
theorem own_callS (X : Stand p l e R s m args below meth c T locs cells slots) (hx : p.tables.exec = Jvm.exec) (hZ : Z.Warmed39 s.vm) {own : String} {idx : Nat} {y : MethodName} (hown : s.vm.findClass own = some m.cls) (w1 : (Jvm.Cond.methodLink own idx y).before a0 Z = true) (w2 : (Jvm.Cond.static y).before a0 Z = true)
    {bytes : ByteArray} {maxL : Nat} {ret : Option FieldType} (w5 : (Jvm.Cond.code y bytes maxL ret).before a0 Z = true) (wz : (Jvm.Cond.initialized y.cls).before a0 Z = true) (hy : y.cls ≠ "java/lang/invoke/MethodHandle" ∧ y.cls ≠ "java/lang/invoke/VarHandle") (eT : T.heap = h) {rm : Room} {Qc : Option Value → Heap → List Loc → Prop} {argsL rest : List Value}
    (hM : MetFree l y (head1 [Jvm.Cond.code y bytes maxL ret] rm) (fun b U => b = argsL.toArray ∧ Z.Warmed39 U.vm ∧ U.heap = h) (fun _ _ _ _ _ => True) (fun _ U o U' => ∃ v L, o = .returned v ∧ Qc v U'.heap L ∧ FrameEnd U o U' L rm.cells rm.slots))
    {W : Nat} (hf : rm.frames + 1 ≤ R.frames) (hl : W + (maxL + 11) + rm.locals ≤ R.locals) {pc : Nat} {Ls : Array Slot} {st : List Value} (hsize : Ls.size = c.maxLocals) (hlen : ∀ sig, parseMethodDescriptor y.desc = some sig → argsL.length = sig.parameters.length) (hst : st = argsL.reverse ++ rest) (hW : (rest.map fun v => v.category).sum ≤ W) (hd : decode c.code pc = .ok (.invokestatic idx, 3)) (hc : cells + rm.cells ≤ R.cells) (hs : slots + rm.slots ≤ R.slots)
    (K : ∀ (T' : State) (v : Option Value) (L : List Loc), Stand p l e R s m args below meth c T' (locs ++ L) (cells + rm.cells) (slots + rm.slots) → Qc v T'.heap L → own_Run p e below s Q ck sk (T'.setTop (mkF m (pc + 3) Ls (v.toList ++ rest)))) :
    own_Run p e below s Q ck sk (T.setTop (mkF m pc Ls st)) := by
  obtain ⟨v, _, ⟨T', L', k', n'⟩, -, X', ⟨Lc, hQ, hl', hk', hn'⟩, st'⟩ := Jvm.LawKit.callS X hx (y := y) hown (mvT hZ w1) (mvT hZ w2) (mvT hZ wz) (mvT hZ w5) hy (backOf (W := W) hM hZ w5 wz hf hl) (g := mkF m pc Ls st) rfl hsize (argsL := argsL) (rest := rest) hlen hst (by show 2 * 0 + _ ≤ _; omega) hd (fun _ _ => ⟨rfl, eT, hc, hs⟩)
  dsimp only [Pt.U, Pt.locs, Pt.cells, Pt.slots] at X' hl' hk' hn' st' hQ
  subst hl' hk' hn'
  exact own_st st' (K T' v Lc X' hQ)
end OwnLayer
section OwnNums
open Jvm.FP Jvm.Free.Fl
theorem own_b53 (x : Int32) : B53 x.toInt64 := by
  have := x.le_toInt; have := x.toInt_lt
  unfold B53; rw [Int32.toInt_toInt64]; omega
theorem own_i64lt (x y : Int32) : x.toInt64 < y.toInt64 ↔ x < y := by
  rw [Int64.lt_iff_toInt_lt, Int32.lt_iff_toInt_lt, Int32.toInt_toInt64, Int32.toInt_toInt64]
theorem own_i64eq (x y : Int32) : x.toInt64 = y.toInt64 ↔ x = y := by
  rw [← Int64.toInt_inj, ← Int32.toInt_inj, Int32.toInt_toInt64, Int32.toInt_toInt64]
theorem own_dcmp_lt (x y : Int32) (o : CmpOp) : cmpValue (FP.dcmp (FP.i2d x) (FP.i2d y)) o < 0 ↔ x < y := by
  rw [i2d_w, i2d_w, dcmpV_w (own_b53 x) (own_b53 y), lw_lt, own_i64lt]
theorem own_dcmp_gt (x y : Int32) (o : CmpOp) : 0 < cmpValue (FP.dcmp (FP.i2d x) (FP.i2d y)) o ↔ y < x := by
  rw [i2d_w, i2d_w, dcmpV_w (own_b53 x) (own_b53 y), lw_gt, own_i64lt]
theorem own_dcmp_eq (x y : Int32) (o : CmpOp) : cmpValue (FP.dcmp (FP.i2d x) (FP.i2d y)) o = 0 ↔ x = y := by
  rw [i2d_w, i2d_w, dcmpV_w (own_b53 x) (own_b53 y), lw_eq, own_i64eq]
theorem own_sub_lt (x y : Int32) : lcmpW (x.toInt64 - y.toInt64) 0 < 0 ↔ x < y := by
  have h := sub64 (own_b53 x) (own_b53 y)
  rw [lw_lt, Int64.lt_iff_toInt_lt, Int32.lt_iff_toInt_lt, h, Int32.toInt_toInt64, Int32.toInt_toInt64]
  have : (0 : Int64).toInt = 0 := rfl
  omega
end OwnNums
section OwnWords
theorem own_eqint {args : Array Value} {first s : State} {o : Option Outcome} {idx : List Nat} {t : Term} {k : Int32} (h : (Jvm.Cond.eq t (.int k)).value args first o s idx = some true) : t.eval args first o idx s = some (.int k) := by
  simp only [Cond.value, Term.eval] at h
  cases ht : t.eval args first o idx s with
  | none => simp [ht] at h
  | some x => cases x <;> simp [ht] at h ⊢; exact h
end OwnWords
section OwnInts
theorem own_prod {a b : Int} {A B : Nat} (ha : a.natAbs ≤ A) (hb : b.natAbs ≤ B) : (a * b).natAbs ≤ A * B := by
  rw [Int.natAbs_mul]; exact Nat.mul_le_mul ha hb
theorem own_shr (x : Int32) : (x >>> ((11 : Int32) &&& 31)).toInt.natAbs ≤ 1048576 := by
  rw [c_ishr x 11 11 (by decide)]
  have := x.le_toInt; have := x.toInt_lt
  show (x.toInt / (2048 : Nat)).natAbs ≤ _
  omega
end OwnInts
section OwnFl
open Jvm.FP Jvm.Free.Fl
abbrev own_zv (a : UInt64) : Int := Core.zval Core.b64 (Core.val64 a)
abbrev own_zm (a : UInt64) : Nat := Core.zmag Core.b64 (Core.val64 a)
theorem own_one : (Core.one64 : Nat) = 2 ^ 1074 := rfl
theorem own_finnn {a : UInt64} (h : Core.DFin a) : NoNaN64 a := (fin64_core.mpr h).noNaN
theorem own_finne {a : UInt64} (h : Core.DFin a) : Core.val64 a ≠ .nan := h.ne_nan
theorem own_addle {a b V : UInt64} (ha : Core.DFin a) (hb : Core.DFin b) (hV : Core.val64 V ≠ .nan) (h : own_zv a + own_zv b ≤ own_zv V) : own_zv (FP.dadd a b) ≤ own_zv V := by
  show Core.zval Core.b64 (Core.val64 (Core.dadd a b)) ≤ _
  rw [Core.val64_dadd]
  exact Core.sum_le Core.good_b64 ha hb (Core.val64_fits a) (Core.val64_fits b) (Core.val64_fits V) hV h
theorem own_addge {a b V : UInt64} (ha : Core.DFin a) (hb : Core.DFin b) (hV : Core.val64 V ≠ .nan) (h : own_zv V ≤ own_zv a + own_zv b) : own_zv V ≤ own_zv (FP.dadd a b) := by
  show _ ≤ Core.zval Core.b64 (Core.val64 (Core.dadd a b))
  rw [Core.val64_dadd]
  exact Core.sum_ge Core.good_b64 ha hb (Core.val64_fits a) (Core.val64_fits b) (Core.val64_fits V) hV h
theorem own_negfin {b : UInt64} (hb : Core.DFin b) : ∃ s c q, Core.negate (Core.val64 b) = .fin s c q := by
  obtain ⟨s, c, q, h⟩ := hb
  exact ⟨!s, c, q, by rw [h]; rfl⟩
theorem own_suble {a b V : UInt64} (ha : Core.DFin a) (hb : Core.DFin b) (hV : Core.val64 V ≠ .nan) (h : own_zv a - own_zv b ≤ own_zv V) : own_zv (FP.dsub a b) ≤ own_zv V := by
  show Core.zval Core.b64 (Core.val64 (Core.dsub a b)) ≤ _
  rw [Core.val64_dsub]
  exact Core.sum_le Core.good_b64 ha (own_negfin hb) (Core.val64_fits a) (Core.negate_fits (Core.val64_fits b)) (Core.val64_fits V) hV (by rw [Core.zval_negate]; exact h)
theorem own_subge {a b V : UInt64} (ha : Core.DFin a) (hb : Core.DFin b) (hV : Core.val64 V ≠ .nan) (h : own_zv V ≤ own_zv a - own_zv b) : own_zv V ≤ own_zv (FP.dsub a b) := by
  show _ ≤ Core.zval Core.b64 (Core.val64 (Core.dsub a b))
  rw [Core.val64_dsub]
  exact Core.sum_ge Core.good_b64 ha (own_negfin hb) (Core.val64_fits a) (Core.negate_fits (Core.val64_fits b)) (Core.val64_fits V) hV (by rw [Core.zval_negate]; exact h)
theorem own_pow2q : (2 ^ (Core.b64.qmin - 2 * Core.b64.qmin).toNat : Nat) = Core.one64 := by
  rw [show Core.b64.qmin - 2 * Core.b64.qmin = -Core.b64.qmin by omega]; exact Core.pow_qmin64
theorem own_mulle {a b V : UInt64} (ha : Core.DFin a) (hb : Core.DFin b) (hV : Core.val64 V ≠ .nan) (h : own_zv a * own_zv b ≤ own_zv V * (Core.one64 : Int)) : own_zv (FP.dmul a b) ≤ own_zv V := by
  obtain ⟨s, c, q, ea⟩ := ha
  obtain ⟨t, d, r, eb⟩ := hb
  have fa := Core.val64_fits a
  have fb := Core.val64_fits b
  rw [ea] at fa; rw [eb] at fb
  obtain ⟨h1, h2, h3⟩ := Core.product_units fa fb
  show Core.zval Core.b64 (Core.val64 (Core.dmul a b)) ≤ _
  rw [Core.val64_dmul, ea, eb, h1]
  refine Core.zval_round_le Core.good_b64 (Core.val64_fits V) hV (e0 := 2 * Core.b64.qmin) (by decide) h2 ?_
  rw [h3, Core.signed_xor, own_pow2q]
  simp only [own_zv, ea, eb] at h
  exact h
theorem own_mulge {a b V : UInt64} (ha : Core.DFin a) (hb : Core.DFin b) (hV : Core.val64 V ≠ .nan) (h : own_zv V * (Core.one64 : Int) ≤ own_zv a * own_zv b) : own_zv V ≤ own_zv (FP.dmul a b) := by
  obtain ⟨s, c, q, ea⟩ := ha
  obtain ⟨t, d, r, eb⟩ := hb
  have fa := Core.val64_fits a
  have fb := Core.val64_fits b
  rw [ea] at fa; rw [eb] at fb
  obtain ⟨h1, h2, h3⟩ := Core.product_units fa fb
  show _ ≤ Core.zval Core.b64 (Core.val64 (Core.dmul a b))
  rw [Core.val64_dmul, ea, eb, h1]
  refine Core.zval_round_ge Core.good_b64 (Core.val64_fits V) hV (e0 := 2 * Core.b64.qmin) (by decide) h2 ?_
  rw [h3, Core.signed_xor, own_pow2q]
  simp only [own_zv, ea, eb] at h
  exact h
theorem own_divdat {a b : UInt64} (ha : Core.DFin a) (hb : Core.DFin b) (hz : own_zm b ≠ 0) : ∃ (s t : Bool) (c d : Nat) (q r : Int), Core.val64 a = .fin s c q ∧ Core.val64 b = .fin t d r ∧ 0 < d ∧ Core.b64.qmin ≤ q ∧ Core.b64.qmin ≤ r ∧ Core.val64 (FP.ddiv a b) = Core.roundRatio Core.b64 (s != t) c d (q - r) := by
  obtain ⟨s, c, q, ea⟩ := ha
  obtain ⟨t, d, r, eb⟩ := hb
  have fa := Core.val64_fits a
  have fb := Core.val64_fits b
  rw [ea] at fa; rw [eb] at fb
  have hd : d ≠ 0 := fun q => hz (by unfold own_zm; rw [eb, q]; show Core.inUnits 0 _ _ = 0; unfold Core.inUnits; exact Nat.zero_mul _)
  refine ⟨s, t, c, d, q, r, ea, eb, Nat.pos_of_ne_zero hd, fa.2.1, fb.2.1, ?_⟩
  show Core.val64 (Core.ddiv a b) = _
  rw [Core.val64_ddiv, ea, eb]
  show (if d = 0 then _ else _) = _
  rw [if_neg hd]
theorem own_divunits {c d : Nat} {q r : Int} (hq : Core.b64.qmin ≤ q) (hr : Core.b64.qmin ≤ r) : 2 * Core.b64.qmin - r ≤ Core.b64.qmin ∧ 2 * Core.b64.qmin - r ≤ q - r ∧ Core.inUnits c (q - r) (2 * Core.b64.qmin - r) = Core.inUnits c q Core.b64.qmin * Core.one64 ∧ ∀ m : Nat, m * 2 ^ (Core.b64.qmin - (2 * Core.b64.qmin - r)).toNat * d = m * Core.inUnits d r Core.b64.qmin := by
  have hqm : Core.b64.qmin = -1074 := Core.qmin_b64
  refine ⟨by omega, by omega, ?_, fun m => ?_⟩
  · unfold Core.inUnits
    rw [show (q - r - (2 * Core.b64.qmin - r)).toNat = (q - Core.b64.qmin).toNat + (-Core.b64.qmin).toNat by omega, Nat.pow_add, Core.pow_qmin64, Nat.mul_assoc]
  · unfold Core.inUnits
    rw [show (Core.b64.qmin - (2 * Core.b64.qmin - r)).toNat = (r - Core.b64.qmin).toNat by omega, Nat.mul_assoc, Nat.mul_comm d]
theorem own_divle {a b V : UInt64} (ha : Core.DFin a) (hb : Core.DFin b) (hz : own_zm b ≠ 0) (hV : Core.val64 V ≠ .nan) (h : own_zm a * Core.one64 ≤ own_zm V * own_zm b) : own_zm (FP.ddiv a b) ≤ own_zm V := by
  obtain ⟨s, t, c, d, q, r, ea, eb, hd, hq, hr, e⟩ := own_divdat ha hb hz
  obtain ⟨u1, u2, u3, u4⟩ := own_divunits (c := c) (d := d) hq hr
  unfold own_zm
  rw [e]
  refine Core.zmag_roundRatio_le Core.good_b64 hd (Core.val64_fits V) hV u1 u2 ?_
  rw [u3, u4]
  simp only [own_zm, ea, eb] at h
  exact h
theorem own_divge {a b V : UInt64} (ha : Core.DFin a) (hb : Core.DFin b) (hz : own_zm b ≠ 0) (h : own_zm V * own_zm b ≤ own_zm a * Core.one64) : own_zm V ≤ own_zm (FP.ddiv a b) := by
  obtain ⟨s, t, c, d, q, r, ea, eb, hd, hq, hr, e⟩ := own_divdat ha hb hz
  obtain ⟨u1, u2, u3, u4⟩ := own_divunits (c := c) (d := d) hq hr
  unfold own_zm
  rw [e]
  refine Core.zmag_roundRatio_ge Core.good_b64 hd (Core.val64_fits V) u1 u2 ?_
  rw [u3, u4]
  simp only [own_zm, ea, eb] at h
  exact h
theorem own_divsgn {a b : UInt64} (ha : Core.DFin a) (hb : Core.DFin b) (hz : own_zm b ≠ 0) : Core.sgn (Core.val64 (FP.ddiv a b)) = (Core.sgn (Core.val64 a) != Core.sgn (Core.val64 b)) ∧ Core.val64 (FP.ddiv a b) ≠ .nan := by
  obtain ⟨s, t, c, d, q, r, ea, eb, hd, hq, hr, e⟩ := own_divdat ha hb hz
  rw [e, ea, eb]
  exact ⟨Core.sgn_roundRatio _ _ _ _ _, Core.roundRatio_ne_nan _ _ _ _ _⟩
theorem own_fintop {a : UInt64} (hn : Core.val64 a ≠ .nan) (h : own_zm a < Core.b64.tails * 2 ^ (Core.b64.exps - 2)) : Core.DFin a := by
  cases e : Core.val64 a with
  | nan => exact absurd e hn
  | inf s => rw [own_zm, e] at h; exact absurd h (Nat.lt_irrefl _)
  | fin s c q => exact ⟨s, c, q, e⟩
theorem own_finle {a V : UInt64} (hn : Core.val64 a ≠ .nan) (hV : Core.DFin V) (h : own_zm a ≤ own_zm V) : Core.DFin a := own_fintop hn (Nat.lt_of_le_of_lt h hV.zval_lt)
theorem own_zmabs (a : UInt64) : (own_zv a).natAbs = own_zm a := Core.natAbs_signed _ _
theorem own_addne {a b : UInt64} (ha : Core.DFin a) (hb : Core.DFin b) : Core.val64 (FP.dadd a b) ≠ .nan := (Core.notNaN_iff _).mp (Core.dadd_out ha.notNaN hb)
theorem own_subne {a b : UInt64} (ha : Core.DFin a) (hb : Core.DFin b) : Core.val64 (FP.dsub a b) ≠ .nan := (Core.notNaN_iff _).mp (Core.dsub_out ha.notNaN hb)
theorem own_mulne {a b : UInt64} (ha : Core.DFin a) (hb : Core.DFin b) : Core.val64 (FP.dmul a b) ≠ .nan := (Core.notNaN_iff _).mp (Core.dmul_out ha hb)
theorem own_nnof {a : UInt64} (h : Core.val64 a ≠ .nan) : NoNaN64 a := val64_no.mpr h
/-- the double a is i times two to the power (j - 1074) -/
def own_Z (j : Nat) (i : Int) (a : UInt64) : Prop := Core.DFin a ∧ own_zv a = i * ((2 ^ j : Nat) : Int)
theorem own_rep (n : Int) (j : Nat) (hn : n.natAbs < 2 ^ 53) (hj : j ≤ 2045) : ∃ V, own_Z j n V := by
  have hqm : Core.b64.qmin = -1074 := Core.qmin_b64
  have hqx : Core.b64.qmax = 971 := by decide
  obtain ⟨c', q', h1, h2⟩ := Core.round_exact Core.good_b64 (decide (n < 0)) (c := n.natAbs) (q := Core.b64.qmin + j) hn (by omega) (by omega)
  have hv : Core.val64 (Core.of64 (Core.round Core.b64 (.fin (decide (n < 0)) n.natAbs (Core.b64.qmin + j)))) = .fin (decide (n < 0)) c' q' := by
    rw [Core.val64_of64 (Core.round_fits Core.good_b64 _), h1]
  refine ⟨_, ⟨_, _, _, hv⟩, ?_⟩
  unfold own_zv
  rw [hv]
  show Core.signed (decide (n < 0)) (Core.inUnits c' q' Core.b64.qmin) = _
  rw [h2]
  unfold Core.inUnits
  rw [show (Core.b64.qmin + (j : Int) - Core.b64.qmin).toNat = j by omega, Core.signed_mul]
  congr 1
  unfold Core.signed
  by_cases h : n < 0 <;> simp [h] <;> omega
theorem own_Z.nn {j : Nat} {i : Int} {a : UInt64} (h : own_Z j i a) : NoNaN64 a := own_finnn h.1
theorem own_Z.eqv {j : Nat} {i : Int} {a V : UInt64} (hV : own_Z j i V) (hn : Core.val64 a ≠ .nan) (h1 : own_zv a ≤ own_zv V) (h2 : own_zv V ≤ own_zv a) : own_Z j i a := by
  have e : own_zv a = own_zv V := Int.le_antisymm h1 h2
  refine ⟨own_finle hn hV.1 ?_, e.trans hV.2⟩
  rw [← own_zmabs, ← own_zmabs, e]; exact Nat.le_refl _
theorem own_Z.add {j : Nat} {i k : Int} {a b : UInt64} (ha : own_Z j i a) (hb : own_Z j k b) (hn : (i + k).natAbs < 2 ^ 53) (hj : j ≤ 2045 := by decide) : own_Z j (i + k) (FP.dadd a b) := by
  obtain ⟨V, hV⟩ := own_rep (i + k) j hn hj
  have e : own_zv a + own_zv b = own_zv V := by rw [ha.2, hb.2, hV.2, Int.add_mul]
  exact hV.eqv (own_addne ha.1 hb.1) (own_addle ha.1 hb.1 (own_finne hV.1) (Int.le_of_eq e)) (own_addge ha.1 hb.1 (own_finne hV.1) (Int.le_of_eq e.symm))
theorem own_Z.sub {j : Nat} {i k : Int} {a b : UInt64} (ha : own_Z j i a) (hb : own_Z j k b) (hn : (i - k).natAbs < 2 ^ 53) (hj : j ≤ 2045 := by decide) : own_Z j (i - k) (FP.dsub a b) := by
  obtain ⟨V, hV⟩ := own_rep (i - k) j hn hj
  have e : own_zv a - own_zv b = own_zv V := by rw [ha.2, hb.2, hV.2, Int.sub_mul]
  exact hV.eqv (own_subne ha.1 hb.1) (own_suble ha.1 hb.1 (own_finne hV.1) (Int.le_of_eq e)) (own_subge ha.1 hb.1 (own_finne hV.1) (Int.le_of_eq e.symm))
theorem own_Z.mul {j j' J : Nat} {i k : Int} {a b : UInt64} (ha : own_Z j i a) (hb : own_Z j' k b) (hn : (i * k).natAbs < 2 ^ 53) (hJ : J + 1074 = j + j' := by decide) (hj : J ≤ 2045 := by decide) : own_Z J (i * k) (FP.dmul a b) := by
  obtain ⟨V, hV⟩ := own_rep (i * k) J hn hj
  have e : own_zv a * own_zv b = own_zv V * (Core.one64 : Int) := by
    rw [ha.2, hb.2, hV.2, own_one, Int.mul_assoc (i * k), ← Int.natCast_mul, ← Nat.pow_add, hJ, Nat.pow_add, Int.natCast_mul]
    simp only [Int.mul_assoc, Int.mul_left_comm, Int.mul_comm]
  exact hV.eqv (own_mulne ha.1 hb.1) (own_mulle ha.1 hb.1 (own_finne hV.1) (Int.le_of_eq e)) (own_mulge ha.1 hb.1 (own_finne hV.1) (Int.le_of_eq e.symm))
theorem own_zmZ {j : Nat} {i : Int} {a : UInt64} (h : own_Z j i a) : own_zm a = i.natAbs * 2 ^ j := by
  rw [← own_zmabs, h.2, Int.natAbs_mul, Int.natAbs_natCast]
theorem own_Z.div {j j' J : Nat} {i m : Int} {a b : UInt64} (ha : own_Z j (i * m) a) (hb : own_Z j' m b) (hm : m ≠ 0) (hn : i.natAbs < 2 ^ 53) (hJ : J + j' = j + 1074 := by decide) (hj : J ≤ 2045 := by decide) : own_Z J i (FP.ddiv a b) := by
  obtain ⟨V, hV⟩ := own_rep i J hn hj
  have hb0 : own_zm b ≠ 0 := by
    rw [own_zmZ hb]
    exact Nat.mul_ne_zero (by omega) (Nat.ne_of_gt (Nat.two_pow_pos _))
  have e : own_zm a * Core.one64 = own_zm V * own_zm b := by
    rw [own_zmZ ha, own_zmZ hb, own_zmZ hV, own_one, Int.natAbs_mul, Nat.mul_assoc, ← Nat.pow_add, ← hJ, Nat.pow_add]
    simp only [Nat.mul_assoc, Nat.mul_left_comm, Nat.mul_comm]
  obtain ⟨hs, hne⟩ := own_divsgn ha.1 hb.1 hb0
  have em : own_zm (FP.ddiv a b) = own_zm V := Nat.le_antisymm (own_divle ha.1 hb.1 hb0 (own_finne hV.1) (Nat.le_of_eq e)) (own_divge ha.1 hb.1 hb0 (Nat.le_of_eq e.symm))
  refine ⟨own_finle hne hV.1 (Nat.le_of_eq em), ?_⟩
  have ev : own_zv (FP.ddiv a b) * own_zv b = own_zv a * (Core.one64 : Int) := by
    show Core.signed _ _ * Core.signed _ _ = Core.signed _ _ * _
    rw [← Core.signed_xor, hs, ← Core.signed_mul]
    have e2 : Core.zmag Core.b64 (Core.val64 (FP.ddiv a b)) * Core.zmag Core.b64 (Core.val64 b) = Core.zmag Core.b64 (Core.val64 a) * Core.one64 := by
      rw [show Core.zmag Core.b64 (Core.val64 (FP.ddiv a b)) = own_zm V from em]; exact e.symm
    rw [e2]
    cases Core.sgn (Core.val64 a) <;> cases Core.sgn (Core.val64 b) <;> rfl
  rw [ha.2, hb.2, own_one] at ev
  have hp : ((2 ^ j' : Nat) : Int) ≠ 0 := by have := Nat.two_pow_pos j'; omega
  refine Int.eq_of_mul_eq_mul_right (Int.mul_ne_zero hm hp) (ev.trans ?_)
  rw [Int.mul_assoc (i * m), ← Int.natCast_mul, ← Nat.pow_add, ← hJ, Nat.pow_add, Int.natCast_mul]
  simp only [Int.mul_assoc, Int.mul_left_comm, Int.mul_comm]
theorem own_Z.neg {j : Nat} {i : Int} {a : UInt64} (h : own_Z j i a) : own_Z j (-i) (FP.dneg a) := by
  refine ⟨?_, ?_⟩
  · obtain ⟨s, c, q, e⟩ := own_negfin h.1
    exact ⟨s, c, q, by rw [FP.val64_dneg]; exact e⟩
  · unfold own_zv
    rw [FP.val64_dneg, Core.zval_negate]
    have := h.2; unfold own_zv at this; rw [this, Int.neg_mul]
theorem own_Z.of_int {i : Int} {a : UInt64} (h : Core.DInt i a) : own_Z 1074 i a := by
  refine ⟨?_, Core.DInt_zval h⟩
  unfold Core.DInt at h
  cases e : Core.val64 a with
  | nan => rw [e] at h; exact h.elim
  | inf s => rw [e] at h; exact h.elim
  | fin s c q => exact ⟨s, c, q, e⟩
theorem own_Z.i2d (x : Int32) : own_Z 1074 x.toInt (FP.i2d x) := own_Z.of_int (Core.i2d_int x)
theorem own_Z.l2d {x : Int64} (h : x.toInt.natAbs ≤ 2 ^ 53) : own_Z 1074 x.toInt (FP.l2d x) := own_Z.of_int (Core.l2d_int h)
theorem own_Z.shift {j k : Nat} {i : Int} {a : UInt64} (h : own_Z (j + k) i a) : own_Z j (i * ((2 ^ k : Nat) : Int)) a := by
  refine ⟨h.1, h.2.trans ?_⟩
  rw [Nat.add_comm, Nat.pow_add, Int.natCast_mul, Int.mul_assoc]
theorem own_Z.cmp {j : Nat} {i k : Int} {a b : UInt64} (ha : own_Z j i a) (hb : own_Z j k b) : FP.dcmp a b = some (compare i k) := by
  have h := Core.dcmp_zval (own_finne ha.1) (own_finne hb.1)
  have h1 := ha.2; have h2 := hb.2
  unfold own_zv at h1 h2
  rw [h1, h2, Core.compare_mul_pos _ _ _ (by have := Nat.two_pow_pos j; omega)] at h
  exact h
theorem own_Z.cmpE {j : Nat} {i k : Int} {a b : UInt64} (ha : own_Z j i a) (hb : own_Z j k b) (h : i = k) (o : CmpOp) : cmpValue (FP.dcmp a b) o = 0 := by
  rw [ha.cmp hb, (Core.compare_eq_iff _ _).mpr h]; cases o <;> rfl
theorem own_Z.cmpL {j : Nat} {i k : Int} {a b : UInt64} (ha : own_Z j i a) (hb : own_Z j k b) (h : i < k) (o : CmpOp) : cmpValue (FP.dcmp a b) o = -1 := by
  rw [ha.cmp hb, (Core.compare_lt_iff _ _).mpr h]; cases o <;> rfl
theorem own_Z.cmpG {j : Nat} {i k : Int} {a b : UInt64} (ha : own_Z j i a) (hb : own_Z j k b) (h : k < i) (o : CmpOp) : cmpValue (FP.dcmp a b) o = 1 := by
  rw [ha.cmp hb, (Core.compare_gt_iff _ _).mpr h]; cases o <;> rfl
theorem own_Z.eq {j : Nat} {i k : Int} {a : UInt64} (ha : own_Z j i a) (h : i = k) : own_Z j k a := h ▸ ha
theorem own_mulb {a b : Int} {A B : Nat} (ha : a.natAbs ≤ A) (hb : b.natAbs ≤ B) : (a * b).natAbs ≤ A * B := by
  rw [Int.natAbs_mul]; exact Nat.mul_le_mul ha hb
theorem own_Z0 : own_Z 1074 0 0 := by
  refine ⟨⟨false, 0, Core.b64.qmin, by decide +kernel⟩, by decide +kernel⟩
theorem own_Z1 : own_Z 1074 1 4607182418800017408 := own_Z.of_int Core.dint_one
end OwnFl
section OwnFl2
open Jvm.FP Jvm.Free.Fl
theorem own_Z.sgn {j : Nat} {i : Int} {a : UInt64} (h : own_Z j i a) (hi : i ≠ 0) : Core.sgn (Core.val64 a) = decide (i < 0) := by
  have hz := h.2
  have hp := Nat.two_pow_pos j
  have hm : 0 < own_zm a := by rw [own_zmZ h]; exact Nat.mul_pos (by omega) hp
  have hs : decide (Core.signed (Core.sgn (Core.val64 a)) (own_zm a) < 0) = Core.sgn (Core.val64 a) := Core.signed_lt_zero _ hm
  rw [← hs]
  have : Core.signed (Core.sgn (Core.val64 a)) (own_zm a) = i * ((2 ^ j : Nat) : Int) := hz
  rw [this]
  congr 1
  refine propext ⟨fun q => ?_, fun q => ?_⟩
  · exact Int.lt_of_not_ge fun r => absurd (Int.mul_nonneg r (Int.natCast_nonneg (2 ^ j))) (by omega)
  · exact Int.mul_neg_of_neg_of_pos q (by omega)
theorem own_divcongr {a b a' b' : UInt64} (ha : Core.DFin a) (hb : Core.DFin b) (ha' : Core.DFin a') (hb' : Core.DFin b') (hz : own_zm b ≠ 0) (hz' : own_zm b' ≠ 0)
    (hs : (Core.sgn (Core.val64 a) != Core.sgn (Core.val64 b)) = (Core.sgn (Core.val64 a') != Core.sgn (Core.val64 b'))) (h : own_zm a * own_zm b' = own_zm a' * own_zm b) : FP.ddiv a b = FP.ddiv a' b' := by
  obtain ⟨s, t, c, d, q, r, ea, eb, hd, hq, hr, e⟩ := own_divdat ha hb hz
  obtain ⟨s', t', c', d', q', r', ea', eb', hd', hq', hr', e'⟩ := own_divdat ha' hb' hz'
  have hn := (own_divsgn ha hb hz).2
  refine Core.val64_inj hn ?_
  show Core.val64 (FP.ddiv a b) = Core.val64 (FP.ddiv a' b')
  rw [e, e']
  simp only [ea, eb, ea', eb'] at hs
  have hs2 : (s != t) = (s' != t') := hs
  rw [hs2]
  refine Core.roundRatio_congr hd hd' ?_
  have h2 : Core.inUnits c q Core.b64.qmin * Core.inUnits d' r' Core.b64.qmin = Core.inUnits c' q' Core.b64.qmin * Core.inUnits d r Core.b64.qmin := by
    have := h; simp only [own_zm, ea, eb, ea', eb'] at this; exact this
  unfold Core.inUnits at h2
  have h3 : c * d' * 2 ^ ((q - Core.b64.qmin).toNat + (r' - Core.b64.qmin).toNat) = c' * d * 2 ^ ((q' - Core.b64.qmin).toNat + (r - Core.b64.qmin).toNat) := by
    rw [Nat.pow_add, Nat.pow_add]
    simp only [Nat.mul_assoc, Nat.mul_left_comm, Nat.mul_comm] at h2 ⊢
    exact h2
  rcases Int.le_total (q' + r) (q + r') with hle | hle
  · rw [show (q' - r' - (q - r)).toNat = 0 by omega, Nat.pow_zero, Nat.mul_one]
    have h4 : 2 ^ ((q - Core.b64.qmin).toNat + (r' - Core.b64.qmin).toNat) = 2 ^ (q - r - (q' - r')).toNat * 2 ^ ((q' - Core.b64.qmin).toNat + (r - Core.b64.qmin).toNat) := by rw [← Nat.pow_add]; congr 1; omega
    rw [h4, ← Nat.mul_assoc] at h3
    exact Nat.eq_of_mul_eq_mul_right (Nat.two_pow_pos _) h3
  · rw [show (q - r - (q' - r')).toNat = 0 by omega, Nat.pow_zero, Nat.mul_one]
    have h4 : 2 ^ ((q' - Core.b64.qmin).toNat + (r - Core.b64.qmin).toNat) = 2 ^ (q' - r' - (q - r)).toNat * 2 ^ ((q - Core.b64.qmin).toNat + (r' - Core.b64.qmin).toNat) := by rw [← Nat.pow_add]; congr 1; omega
    rw [h4, ← Nat.mul_assoc] at h3
    exact Nat.eq_of_mul_eq_mul_right (Nat.two_pow_pos _) h3
theorem own_Z.zm {j : Nat} {i : Int} {a : UInt64} (h : own_Z j i a) (hi : i ≠ 0) : own_zm a ≠ 0 := by
  rw [own_zmZ h]; exact Nat.mul_ne_zero (by omega) (Nat.ne_of_gt (Nat.two_pow_pos _))
theorem own_Z.divnn {j k : Nat} {i m : Int} {a b : UInt64} (ha : own_Z j i a) (hb : own_Z k m b) (hm : m ≠ 0) : NoNaN64 (FP.ddiv a b) := own_nnof (own_divsgn ha.1 hb.1 (hb.zm hm)).2
/-- two quotients of one worth: the same double -/
theorem own_Z.divsame {j k j' k' : Nat} {i m i' m' : Int} {a b a' b' : UInt64} (ha : own_Z j i a) (hb : own_Z k m b) (ha' : own_Z j' i' a') (hb' : own_Z k' m' b') (pi : 0 < i) (pm : 0 < m) (pi' : 0 < i') (pm' : 0 < m')
    (h : i.natAbs * 2 ^ j * (m'.natAbs * 2 ^ k') = i'.natAbs * 2 ^ j' * (m.natAbs * 2 ^ k)) : FP.ddiv a b = FP.ddiv a' b' := by
  refine own_divcongr ha.1 hb.1 ha'.1 hb'.1 (hb.zm (by omega)) (hb'.zm (by omega)) ?_ ?_
  · rw [ha.sgn (by omega), hb.sgn (by omega), ha'.sgn (by omega), hb'.sgn (by omega)]
    rw [decide_eq_false (by omega : ¬ i < 0), decide_eq_false (by omega : ¬ m < 0), decide_eq_false (by omega : ¬ i' < 0), decide_eq_false (by omega : ¬ m' < 0)]
  · rw [own_zmZ ha, own_zmZ hb, own_zmZ ha', own_zmZ hb']; exact h
end OwnFl2
section OwnFl3
open Jvm.FP Jvm.Free.Fl
theorem own_nat {a b c d : Nat} (h : (a : Int) * (b : Int) ≤ (c : Int) * (d : Int)) : a * b ≤ c * d := by
  have q : ((a * b : Nat) : Int) ≤ ((c * d : Nat) : Int) := by rw [Int.natCast_mul, Int.natCast_mul]; exact h
  exact Int.ofNat_le.mp q
theorem own_sgF (c : Nat) : Core.signed false c = (c : Int) := rfl
theorem own_sgT (c : Nat) : Core.signed true c = -(c : Int) := rfl
theorem own_zvs (a : UInt64) : own_zv a = Core.signed (Core.sgn (Core.val64 a)) (own_zm a) := rfl
theorem own_onepos : (0 : Int) < (Core.one64 : Int) := by have := Core.one64_pos; omega
theorem own_divleP {a b V : UInt64} (ha : Core.DFin a) (hb : Core.DFin b) (hp : 0 < own_zv b) (hV : Core.val64 V ≠ .nan) (h : own_zv a * (Core.one64 : Int) ≤ own_zv V * own_zv b) : own_zv (FP.ddiv a b) ≤ own_zv V := by
  have hz : own_zm b ≠ 0 := fun q => by rw [own_zvs, q] at hp; cases hs : Core.sgn (Core.val64 b) <;> rw [hs] at hp <;> simp [own_sgF, own_sgT] at hp
  obtain ⟨hs, hn⟩ := own_divsgn ha hb hz
  have o1 := own_onepos
  rw [own_zvs (FP.ddiv a b), hs]
  rw [own_zvs a, own_zvs b, own_zvs V] at h
  rw [own_zvs b] at hp
  rw [own_zvs V]
  have L := own_divle (V := V) ha hb hz hV
  have G := own_divge (V := V) ha hb hz
  cases sa : Core.sgn (Core.val64 a) <;> cases sb : Core.sgn (Core.val64 b) <;> cases sv : Core.sgn (Core.val64 V) <;> simp only [sa, sb, sv, own_sgF, own_sgT] at h hp ⊢
  · exact Int.ofNat_le.mpr (L (own_nat h))
  · have h1 : (0 : Int) ≤ (own_zm a : Int) * (Core.one64 : Int) := Int.mul_nonneg (Int.natCast_nonneg _) (Int.natCast_nonneg _)
    have h2 : (0 : Int) ≤ (own_zm V : Int) * (own_zm b : Int) := Int.mul_nonneg (Int.natCast_nonneg _) (Int.natCast_nonneg _)
    rw [Int.neg_mul] at h
    have h3 : (own_zm V : Int) * (own_zm b : Int) = 0 := by omega
    have h4 : own_zm V = 0 := by
      rcases Int.mul_eq_zero.mp h3 with q | q
      · omega
      · exact absurd q (by omega)
    have := L (own_nat (by omega))
    show ((own_zm (FP.ddiv a b) : Nat) : Int) ≤ -_
    omega
  · omega
  · omega
  · show -((own_zm (FP.ddiv a b) : Nat) : Int) ≤ _
    omega
  · rw [Int.neg_mul, Int.neg_mul] at h
    have := G (own_nat (by omega))
    show -((own_zm (FP.ddiv a b) : Nat) : Int) ≤ -_
    omega
  · omega
  · omega
theorem own_divgeP {a b V : UInt64} (ha : Core.DFin a) (hb : Core.DFin b) (hp : 0 < own_zv b) (hV : Core.val64 V ≠ .nan) (h : own_zv V * own_zv b ≤ own_zv a * (Core.one64 : Int)) : own_zv V ≤ own_zv (FP.ddiv a b) := by
  have hz : own_zm b ≠ 0 := fun q => by rw [own_zvs, q] at hp; cases hs : Core.sgn (Core.val64 b) <;> rw [hs] at hp <;> simp [own_sgF, own_sgT] at hp
  obtain ⟨hs, hn⟩ := own_divsgn ha hb hz
  have o1 := own_onepos
  rw [own_zvs (FP.ddiv a b), hs]
  rw [own_zvs a, own_zvs b, own_zvs V] at h
  rw [own_zvs b] at hp
  rw [own_zvs V]
  have L := own_divle (V := V) ha hb hz hV
  have G := own_divge (V := V) ha hb hz
  cases sa : Core.sgn (Core.val64 a) <;> cases sb : Core.sgn (Core.val64 b) <;> cases sv : Core.sgn (Core.val64 V) <;> simp only [sa, sb, sv, own_sgF, own_sgT] at h hp ⊢
  · exact Int.ofNat_le.mpr (G (own_nat h))
  · show -_ ≤ ((own_zm (FP.ddiv a b) : Nat) : Int)
    omega
  · omega
  · omega
  · have h1 : (0 : Int) ≤ (own_zm a : Int) * (Core.one64 : Int) := Int.mul_nonneg (Int.natCast_nonneg _) (Int.natCast_nonneg _)
    have h2 : (0 : Int) ≤ (own_zm V : Int) * (own_zm b : Int) := Int.mul_nonneg (Int.natCast_nonneg _) (Int.natCast_nonneg _)
    rw [Int.neg_mul] at h
    have h3 : (own_zm V : Int) * (own_zm b : Int) = 0 := by omega
    have h4 : own_zm V = 0 := by
      rcases Int.mul_eq_zero.mp h3 with q | q
      · omega
      · exact absurd q (by omega)
    have := L (own_nat (by omega))
    show _ ≤ -((own_zm (FP.ddiv a b) : Nat) : Int)
    omega
  · rw [Int.neg_mul, Int.neg_mul] at h
    have := L (own_nat (by omega))
    show -_ ≤ -((own_zm (FP.ddiv a b) : Nat) : Int)
    omega
  · omega
  · omega
theorem own_zmneg (a : UInt64) : own_zm (FP.dneg a) = own_zm a := by
  unfold own_zm; rw [FP.val64_dneg]; cases Core.val64 a <;> rfl
theorem own_sgneg {a : UInt64} (h : Core.DFin a) : Core.sgn (Core.val64 (FP.dneg a)) = !Core.sgn (Core.val64 a) := by
  obtain ⟨s, c, q, e⟩ := h
  rw [FP.val64_dneg, e]; rfl
theorem own_negF {a : UInt64} (h : Core.DFin a) : Core.DFin (FP.dneg a) := by
  obtain ⟨s, c, q, e⟩ := own_negfin h
  exact ⟨s, c, q, by rw [FP.val64_dneg]; exact e⟩
theorem own_divneg {a b : UInt64} (ha : Core.DFin a) (hb : Core.DFin b) (hz : own_zm b ≠ 0) : FP.ddiv a b = FP.ddiv (FP.dneg a) (FP.dneg b) :=
  own_divcongr ha hb (own_negF ha) (own_negF hb) hz (by rw [own_zmneg]; exact hz) (by rw [own_sgneg ha, own_sgneg hb]; cases Core.sgn (Core.val64 a) <;> cases Core.sgn (Core.val64 b) <;> rfl) (by rw [own_zmneg, own_zmneg])
theorem own_cmpv {a b : UInt64} (ha : Core.val64 a ≠ .nan) (hb : Core.val64 b ≠ .nan) (o : CmpOp) : (own_zv a < own_zv b → cmpValue (FP.dcmp a b) o = -1) ∧ (own_zv a = own_zv b → cmpValue (FP.dcmp a b) o = 0) ∧ (own_zv b < own_zv a → cmpValue (FP.dcmp a b) o = 1) := by
  have h : FP.dcmp a b = some (compare (own_zv a) (own_zv b)) := Core.dcmp_zval ha hb
  rw [h]
  refine ⟨fun q => ?_, fun q => ?_, fun q => ?_⟩
  · rw [(Core.compare_lt_iff _ _).mpr q]; cases o <;> rfl
  · rw [(Core.compare_eq_iff _ _).mpr q]; cases o <;> rfl
  · rw [(Core.compare_gt_iff _ _).mpr q]; cases o <;> rfl
end OwnFl3
section OwnCont
open Jvm.FP Jvm.Free.Fl
theorem own_l2dfin (n : Int64) : Core.DFin (FP.l2d n) := Core.l2d_fin n
theorem own_l2dz {n : Int64} (h : n ≠ 0) : own_zm (FP.l2d n) ≠ 0 := by
  intro q
  have e : own_zv (FP.l2d n) = 0 := by rw [own_zvs, q]; cases Core.sgn (Core.val64 (FP.l2d n)) <;> rfl
  exact Core.l2d_ne_zero h ((Core.zval_eq_zero (own_l2dfin n).ne_nan).mp e)
theorem own_l2dnn {a b : Int64} (h : b ≠ 0) : NoNaN64 (FP.ddiv (FP.l2d a) (FP.l2d b)) := own_nnof (own_divsgn (own_l2dfin a) (own_l2dfin b) (own_l2dz h)).2
theorem own_selfq {k : Int64} (h : k ≠ 0) : (if k = (0 : Int64) then (0 : UInt64) else (FP.ddiv (FP.l2d k) (FP.l2d k))) = (4607182418800017408 : UInt64) := by
  rw [if_neg h]
  have e := own_divcongr (own_l2dfin k) (own_l2dfin k) own_Z1.1 own_Z1.1 (own_l2dz h) (own_Z1.zm (by decide)) (by cases Core.sgn (Core.val64 (FP.l2d k)) <;> cases Core.sgn (Core.val64 4607182418800017408) <;> rfl) (Nat.mul_comm _ _)
  rw [e]
  decide +kernel
theorem own_zeroZ {k : Int64} (h : k ≠ 0) : own_Z 1074 0 (FP.ddiv (FP.l2d 0) (FP.l2d k)) := by
  have z0 : own_Z 1074 0 (FP.l2d 0) := own_Z.l2d (x := 0) (by decide)
  have e : own_zm (FP.l2d 0) = 0 := by have := own_zmZ z0; rw [show (0 : Int).natAbs = 0 from rfl, Nat.zero_mul] at this; exact this
  have e0 : own_zm 0 = 0 := by have := own_zmZ own_Z0; rw [show (0 : Int).natAbs = 0 from rfl, Nat.zero_mul] at this; exact this
  have m := own_divle (V := 0) z0.1 (own_l2dfin k) (own_l2dz h) (own_finne own_Z0.1) (by rw [e, e0, Nat.zero_mul, Nat.zero_mul]; exact Nat.le_refl _)
  rw [e0] at m
  have hn := (own_divsgn z0.1 (own_l2dfin k) (own_l2dz h)).2
  refine ⟨own_finle hn own_Z0.1 (by rw [e0]; exact m), ?_⟩
  rw [own_zvs, Nat.le_zero.mp m, Int.zero_mul]
  cases Core.sgn (Core.val64 (FP.ddiv (FP.l2d 0) (FP.l2d k))) <;> rfl
theorem own_zeroq {k : Int64} (h : k ≠ 0) (o : CmpOp) : cmpValue (FP.dcmp (if k = (0 : Int64) then (0 : UInt64) else (FP.ddiv (FP.l2d (0 : Int64)) (FP.l2d k))) (0 : UInt64)) o = 0 := by
  rw [if_neg h]; exact (own_zeroZ h).cmpE own_Z0 rfl o
theorem own_exactq {cc k : Int64} {Q : Int} (h : k ≠ 0) (e : cc.toInt = Q * k.toInt) (hc : cc.toInt.natAbs ≤ 2 ^ 53) (hk : k.toInt.natAbs ≤ 2 ^ 53) (hQ : Q.natAbs < 2 ^ 53) : own_Z 1074 Q (if k = (0 : Int64) then (0 : UInt64) else (FP.ddiv (FP.l2d cc) (FP.l2d k))) := by
  rw [if_neg h]
  exact own_Z.div (own_Z.eq (own_Z.l2d hc) e) (own_Z.l2d hk) (fun q => h (Int64.toInt_inj.mp q)) hQ
/-- half-whole quotients: k = 2 m, cc = Q m -/
theorem own_halfq {cc k : Int64} {Q m : Int} (h : k ≠ 0) (e : cc.toInt = Q * m) (ek : k.toInt = m * 2) (hc : cc.toInt.natAbs ≤ 2 ^ 53) (hk : k.toInt.natAbs ≤ 2 ^ 53) (hQ : Q.natAbs < 2 ^ 53) : own_Z 1073 Q (if k = (0 : Int64) then (0 : UInt64) else (FP.ddiv (FP.l2d cc) (FP.l2d k))) := by
  rw [if_neg h]
  have b : own_Z 1075 m (FP.l2d k) := by
    have q := own_Z.l2d hk
    refine ⟨q.1, q.2.trans ?_⟩
    rw [ek, show (1075 : Nat) = 1 + 1074 from rfl, Nat.pow_add, Int.natCast_mul, Int.mul_assoc]
    generalize ((2 ^ 1074 : Nat) : Int) = P
    rfl
  exact own_Z.div (own_Z.eq (own_Z.l2d hc) e) b (fun q => h (Int64.toInt_inj.mp (by rw [ek, q]; rfl))) hQ
theorem own_half {i : Int} {a : UInt64} (h : own_Z 1074 i a) : own_Z 1073 (i * 2) a := own_Z.shift (j := 1073) (k := 1) h
theorem own_strictP {a b lo hi : UInt64} {C K Q M : Int} (ha : own_Z 1074 C a) (hb : own_Z 1074 K b) (hl : own_Z 1074 Q lo) (hh : own_Z 1074 (Q + 1) hi) (hK : 0 < K) (hK2 : K ≤ 2097152) (hM : 0 < M) (hM2 : M < K) (e : C = Q * K + M) (hQ : Q.natAbs ≤ 1073741824) (o : CmpOp) :
    cmpValue (FP.dcmp lo (FP.ddiv a b)) o = -1 ∧ cmpValue (FP.dcmp (FP.ddiv a b) hi) o = -1 := by
  obtain ⟨V, hV⟩ := own_rep (Q * 2097152 + 1) 1053 (by omega) (by decide)
  obtain ⟨W, hW⟩ := own_rep (Q * 2097152 + 2097151) 1053 (by omega) (by decide)
  have hn := (own_divsgn ha.1 hb.1 (hb.zm (by omega))).2
  have P1 : (0 : Int) < ((2 ^ 1053 : Nat) : Int) := by have := Nat.two_pow_pos 1053; omega
  have E1 : ((2 ^ 1074 : Nat) : Int) = 2097152 * ((2 ^ 1053 : Nat) : Int) := by
    rw [show (1074 : Nat) = 21 + 1053 from rfl, Nat.pow_add, Int.natCast_mul]
    generalize ((2 ^ 1053 : Nat) : Int) = P
    rfl
  have za := ha.2; have zb := hb.2; have zl := hl.2; have zh := hh.2; have zV := hV.2; have zW := hW.2
  rw [E1] at za zb zl zh
  have O1 : (Core.one64 : Int) = 2097152 * ((2 ^ 1053 : Nat) : Int) := by rw [own_one]; exact E1
  generalize ((2 ^ 1053 : Nat) : Int) = P at *
  have hp : 0 < own_zv b := by rw [zb]; exact Int.mul_pos hK (by omega)
  have f1 : (Q * 2097152 + 1) * K ≤ C * 2097152 := by
    have : (Q * 2097152 + 1) * K = (Q * K) * 2097152 + K := by rw [Int.add_mul, Int.one_mul, Int.mul_right_comm]
    rw [this, e]; omega
  have f2 : C * 2097152 ≤ (Q * 2097152 + 2097151) * K := by
    have : (Q * 2097152 + 2097151) * K = (Q * K) * 2097152 + 2097151 * K := by rw [Int.add_mul, Int.mul_right_comm]
    rw [this, e]; omega
  have PP : (0 : Int) ≤ P * P := Int.mul_nonneg (by omega) (by omega)
  have g1 : own_zv V * own_zv b ≤ own_zv a * (Core.one64 : Int) := by
    rw [zV, zb, za, O1]
    have l : (Q * 2097152 + 1) * P * (K * (2097152 * P)) = ((Q * 2097152 + 1) * K) * 2097152 * (P * P) := by simp only [Int.mul_assoc, Int.mul_left_comm, Int.mul_comm]
    have r : C * (2097152 * P) * (2097152 * P) = (C * 2097152) * 2097152 * (P * P) := by simp only [Int.mul_assoc, Int.mul_left_comm, Int.mul_comm]
    rw [l, r]
    exact Int.mul_le_mul_of_nonneg_right (by omega) PP
  have g2 : own_zv a * (Core.one64 : Int) ≤ own_zv W * own_zv b := by
    rw [zW, zb, za, O1]
    have l : (Q * 2097152 + 2097151) * P * (K * (2097152 * P)) = ((Q * 2097152 + 2097151) * K) * 2097152 * (P * P) := by simp only [Int.mul_assoc, Int.mul_left_comm, Int.mul_comm]
    have r : C * (2097152 * P) * (2097152 * P) = (C * 2097152) * 2097152 * (P * P) := by simp only [Int.mul_assoc, Int.mul_left_comm, Int.mul_comm]
    rw [l, r]
    exact Int.mul_le_mul_of_nonneg_right (by omega) PP
  have h1 := own_divgeP ha.1 hb.1 hp (own_finne hV.1) g1
  have h2 := own_divleP ha.1 hb.1 hp (own_finne hW.1) g2
  rw [zV] at h1; rw [zW] at h2
  have k1 : (Q * 2097152 + 1) * P = Q * (2097152 * P) + P := by rw [Int.add_mul, Int.one_mul, Int.mul_assoc]
  have k2 : (Q * 2097152 + 2097151) * P + P = (Q + 1) * (2097152 * P) := by
    have : (Q + 1) * (2097152 * P) = ((Q + 1) * 2097152) * P := by rw [Int.mul_assoc]
    rw [this, show (Q + 1) * 2097152 = (Q * 2097152 + 2097151) + 1 by omega, Int.add_mul _ 1, Int.one_mul]
  exact ⟨(own_cmpv (own_finne hl.1) hn o).1 (by rw [zl]; omega), (own_cmpv hn (own_finne hh.1) o).1 (by rw [zh]; omega)⟩
theorem own_strictN {a b lo hi : UInt64} {C K Q M : Int} (ha : own_Z 1074 C a) (hb : own_Z 1074 K b) (hl : own_Z 1074 Q lo) (hh : own_Z 1074 (Q + 1) hi) (hK : K < 0) (hK2 : -2097152 ≤ K) (hM : M < 0) (hM2 : K < M) (e : C = Q * K + M) (hQ : Q.natAbs ≤ 1073741824) (o : CmpOp) :
    cmpValue (FP.dcmp lo (FP.ddiv a b)) o = -1 ∧ cmpValue (FP.dcmp (FP.ddiv a b) hi) o = -1 := by
  rw [own_divneg ha.1 hb.1 (hb.zm (by omega))]
  exact own_strictP ha.neg hb.neg hl hh (M := -M) (by omega) (by omega) (by omega) (by omega) (by rw [e, Int.mul_neg]; omega) hQ o
theorem own_l2dval (a : Int64) : ∃ s c q, Core.val64 (FP.l2d a) = .fin s c q ∧ Core.roundRatio Core.b64 (decide (a.toInt < 0)) a.toInt.natAbs 1 0 = .fin s c q ∧ Core.fits Core.b64 (.fin s c q) := by
  obtain ⟨s, c, q, e⟩ := own_l2dfin a
  have f := Core.val64_fits (FP.l2d a)
  refine ⟨s, c, q, e, ?_, e ▸ f⟩
  have v : Core.val64 (FP.l2d a) = Core.round Core.b64 (Core.ofInt a.toInt) := Core.val64_l2d a
  rw [e] at v
  exact v.symm
theorem own_sand {A B X Y : Int} (h1 : X < A) (hm : A < B) (h2 : B < Y) (d1 : (A - Y).natAbs ≤ (A - X).natAbs) (d2 : (B - X).natAbs ≤ (B - Y).natAbs) : False := by omega
theorem own_l2dmono {a b : Int64} (h0 : 0 ≤ a.toInt) (h : a.toInt ≤ b.toInt) : own_zv (FP.l2d a) ≤ own_zv (FP.l2d b) := by
  refine Int.not_lt.mp fun hlt => ?_
  have na := (own_l2dfin a).ne_nan; have nb := (own_l2dfin b).ne_nan
  have op := own_onepos
  have h1 : own_zv (FP.l2d b) < a.toInt * (Core.one64 : Int) := Int.not_le.mp fun q => absurd (Core.l2d_zval_le (n := a) (V := FP.l2d b) nb q) (Int.not_le.mpr hlt)
  have h2 : b.toInt * (Core.one64 : Int) < own_zv (FP.l2d a) := Int.not_le.mp fun q => absurd (Core.l2d_zval_ge (n := b) (V := FP.l2d a) na q) (Int.not_le.mpr hlt)
  have hab : a.toInt < b.toInt := by
    rcases Int.lt_or_eq_of_le h with q | q
    · exact q
    · rw [Int64.toInt_inj.mp q] at hlt; exact absurd hlt (Int.lt_irrefl _)
  have hm : a.toInt * (Core.one64 : Int) < b.toInt * (Core.one64 : Int) := Int.mul_lt_mul_of_pos_right hab op
  obtain ⟨s, c, q, e, r, f⟩ := own_l2dval a
  obtain ⟨s', c', q', e', r', f'⟩ := own_l2dval b
  have q0 : Core.b64.qmin ≤ 0 := by decide
  have d1 := Core.roundRatio_nearest Core.good_b64 (by decide) r f'.1 f'.2.1 (Int.le_refl _) q0
  have d2 := Core.roundRatio_nearest Core.good_b64 (by decide) r' f.1 f.2.1 (Int.le_refl _) q0
  have u : ∀ n : Nat, Core.inUnits n 0 Core.b64.qmin = n * Core.one64 := fun n => by
    unfold Core.inUnits
    rw [show (0 - Core.b64.qmin).toNat = (-Core.b64.qmin).toNat by omega, Core.pow_qmin64]
  unfold Core.distance at d1 d2
  have z0 : own_Z 1074 0 0 := own_Z0
  have ps : 0 ≤ own_zv (FP.l2d a) := by
    have := Core.l2d_zval_ge (n := a) (V := 0) (own_finne own_Z0.1) (by
      have : own_zv 0 = 0 := own_Z0.2.trans (Int.zero_mul _)
      show own_zv 0 ≤ _
      rw [this]; exact Int.mul_nonneg h0 (by omega))
    have e0 : own_zv 0 = 0 := own_Z0.2.trans (Int.zero_mul _)
    have : own_zv 0 ≤ own_zv (FP.l2d a) := this
    omega
  have pt : 0 ≤ own_zv (FP.l2d b) := by
    have := Core.l2d_zval_ge (n := b) (V := 0) (own_finne own_Z0.1) (by
      have : own_zv 0 = 0 := own_Z0.2.trans (Int.zero_mul _)
      show own_zv 0 ≤ _
      rw [this]; exact Int.mul_nonneg (by omega) (by omega))
    have e0 : own_zv 0 = 0 := own_Z0.2.trans (Int.zero_mul _)
    have : own_zv 0 ≤ own_zv (FP.l2d b) := this
    omega
  have ea : ((Core.inUnits c q Core.b64.qmin : Nat) : Int) = own_zv (FP.l2d a) := by
    have z := own_zmabs (FP.l2d a)
    have w : own_zm (FP.l2d a) = Core.inUnits c q Core.b64.qmin := by unfold own_zm; rw [e]; rfl
    omega
  have eb : ((Core.inUnits c' q' Core.b64.qmin : Nat) : Int) = own_zv (FP.l2d b) := by
    have z := own_zmabs (FP.l2d b)
    have w : own_zm (FP.l2d b) = Core.inUnits c' q' Core.b64.qmin := by unfold own_zm; rw [e']; rfl
    omega
  rw [u, ea, eb] at d1
  rw [u, ea, eb] at d2
  have na' : ((a.toInt.natAbs * Core.one64 : Nat) : Int) = a.toInt * (Core.one64 : Int) := by rw [Int.natCast_mul, Int.natAbs_of_nonneg h0]
  have nb' : ((b.toInt.natAbs * Core.one64 : Nat) : Int) = b.toInt * (Core.one64 : Int) := by rw [Int.natCast_mul, Int.natAbs_of_nonneg (by omega)]
  rw [na'] at d1; rw [nb'] at d2
  simp only [Int.natCast_one, Int.mul_one] at d1 d2
  exact own_sand h1 hm h2 d1 d2
theorem own_unit {co cl : Int64} (h0 : 0 ≤ co.toInt) (h1 : co.toInt ≤ cl.toInt) (h2 : cl ≠ 0) : Core.val64 (FP.ddiv (FP.l2d co) (FP.l2d cl)) ≠ .nan ∧ 0 ≤ own_zv (FP.ddiv (FP.l2d co) (FP.l2d cl)) ∧ own_zv (FP.ddiv (FP.l2d co) (FP.l2d cl)) ≤ own_zv 4607182418800017408 := by
  have fa := own_l2dfin co; have fb := own_l2dfin cl
  have hz := own_l2dz h2
  have hn := (own_divsgn fa fb hz).2
  have mono := own_l2dmono h0 h1
  have e0 : own_zv 0 = 0 := own_Z0.2.trans (Int.zero_mul _)
  have e1 : own_zv 4607182418800017408 = (Core.one64 : Int) := by rw [own_Z1.2, own_one, Int.one_mul]
  have op := own_onepos
  have pa : 0 ≤ own_zv (FP.l2d co) := by
    have : own_zv 0 ≤ own_zv (FP.l2d co) := Core.l2d_zval_ge (n := co) (V := 0) (own_finne own_Z0.1) (by
      show own_zv 0 ≤ _
      rw [e0]; exact Int.mul_nonneg h0 (by omega))
    omega
  have pb : 0 < own_zv (FP.l2d cl) := by
    have := own_zmabs (FP.l2d cl)
    omega
  refine ⟨hn, ?_, ?_⟩
  · have := own_divgeP (V := 0) fa fb pb (own_finne own_Z0.1) (by rw [e0, Int.zero_mul]; exact Int.mul_nonneg pa (by omega))
    omega
  · exact own_divleP fa fb pb (own_finne own_Z1.1) (by rw [e1, Int.mul_comm]; exact Int.mul_le_mul_of_nonneg_left mono (by omega))
end OwnCont
section OwnC3
open Jvm.FP Jvm.Free.Fl
theorem own_q20 (y : Int32) : (y % (1048576 : Int32)).toInt.natAbs ≤ 1048575 := by
  have q := c_irem y 1048576 1048576 rfl
  rcases Int.le_total 0 y.toInt with h | h
  · rw [q.1 h]; omega
  · rcases Int.lt_or_eq_of_le h with h | h
    · rw [q.2 h]; omega
    · rw [q.1 (by omega), h]; decide
theorem own_n32 {q : Int32} (h : q.toInt.natAbs ≤ 1048575) : (-q).toInt = -q.toInt := by have e := c_ineg q; have := rng32 (-q); omega
theorem own_n64 {q : Int64} (h : q.toInt.natAbs ≤ 2 ^ 53) : (-q).toInt = -q.toInt := Core.int64_neg (by omega)
theorem own_ne {q : Int64} (h : q.toInt ≠ 0) : q ≠ 0 := fun e => h (by rw [e]; rfl)
theorem own_kk3 {x : Int32} {kk : Int64} (h : ((x &&& (1048575 : Int32)) + (1 : Int32)).toInt64 = kk) : 1 ≤ kk.toInt ∧ kk.toInt ≤ 1048576 := by
  have m := c_mask x 1048575 20 (by decide) (by decide)
  have e := c_iadd (x &&& (1048575 : Int32)) 1; have := rng32 ((x &&& (1048575 : Int32)) + (1 : Int32)); have o : (1 : Int32).toInt = 1 := rfl
  rw [← h, Int32.toInt_toInt64]; omega
theorem own_kk5 {x : Int32} {kk : Int64} (h : ((x &&& (1048575 : Int32)) + (2 : Int32)).toInt64 = kk) : 2 ≤ kk.toInt ∧ kk.toInt ≤ 1048577 := by
  have m := c_mask x 1048575 20 (by decide) (by decide)
  have e := c_iadd (x &&& (1048575 : Int32)) 2; have := rng32 ((x &&& (1048575 : Int32)) + (2 : Int32)); have o : (2 : Int32).toInt = 2 := rfl
  rw [← h, Int32.toInt_toInt64]; omega
theorem own_kk4 {x : Int32} {kk : Int64} (h : ((x &&& (524287 : Int32)).toInt64 + (1 : Int64)) * (2 : Int64) = kk) : ∃ m : Int, (1 ≤ m ∧ m ≤ 524288) ∧ kk.toInt = m * 2 := by
  have m := c_mask x 524287 19 (by decide) (by decide)
  have w := Int32.toInt_toInt64 (x &&& (524287 : Int32)); have o1 : (1 : Int64).toInt = 1 := rfl; have o2 : (2 : Int64).toInt = 2 := rfl
  have e1 : ((x &&& (524287 : Int32)).toInt64 + (1 : Int64)).toInt = (x &&& (524287 : Int32)).toInt + 1 := by rw [Core.int64_add (by rw [w, o1]; omega) (by rw [w, o1]; omega), w, o1]
  refine ⟨(x &&& (524287 : Int32)).toInt + 1, by omega, ?_⟩
  rw [← h, Core.int64_mul (by rw [e1, o2]; omega) (by rw [e1, o2]; omega), e1, o2]
theorem own_cc3 {q : Int32} {kk cc : Int64} (hq : q.toInt.natAbs ≤ 1048575) (hk : 1 ≤ kk.toInt ∧ kk.toInt ≤ 1048576) (h : q.toInt64 * kk = cc) : cc.toInt = q.toInt * kk.toInt ∧ cc.toInt.natAbs ≤ 1099511627776 := by
  have w := Int32.toInt_toInt64 q
  have p : (q.toInt * kk.toInt).natAbs ≤ 1048575 * 1048576 := own_prod hq (by omega)
  have e : cc.toInt = q.toInt * kk.toInt := by rw [← h, Core.int64_mul (by rw [w]; omega) (by rw [w]; omega), w]
  exact ⟨e, by rw [e]; omega⟩
theorem own_cc4 {q : Int32} {kk cc : Int64} {m : Int} (hq : q.toInt.natAbs ≤ 1048575) (hm : 1 ≤ m ∧ m ≤ 524288) (hk : kk.toInt = m * 2) (h : q.toInt64 * kk + kk / (2 : Int64) = cc) : cc.toInt = (2 * q.toInt + 1) * m ∧ cc.toInt.natAbs ≤ 1099511627776 * 2 := by
  have w := Int32.toInt_toInt64 q
  have p : (q.toInt * kk.toInt).natAbs ≤ 1048575 * 1048576 := own_prod hq (by omega)
  have e1 : (q.toInt64 * kk).toInt = q.toInt * kk.toInt := by rw [Core.int64_mul (by rw [w]; omega) (by rw [w]; omega), w]
  have e2 : (kk / (2 : Int64)).toInt = m := by rw [(c_ldiv kk 2 2 rfl (by decide)).1 (by omega), hk]; omega
  have e3 : cc.toInt = q.toInt * kk.toInt + m := by rw [← h, Core.int64_add (by rw [e1, e2]; omega) (by rw [e1, e2]; omega), e1, e2]
  have e4 : (2 * q.toInt + 1) * m = q.toInt * (m * 2) + m := by rw [Int.add_mul, Int.one_mul, Int.mul_comm m 2, ← Int.mul_assoc, Int.mul_comm q.toInt 2]
  rw [hk] at e3 p
  exact ⟨by rw [e3, e4], by rw [e3]; omega⟩
theorem own_k1ne {kk : Int64} (h : 2 ≤ kk.toInt ∧ kk.toInt ≤ 1048577) : kk - (1 : Int64) ≠ 0 := own_ne (by rw [Core.int64_sub (by have : (1 : Int64).toInt = 1 := rfl; omega) (by have : (1 : Int64).toInt = 1 := rfl; omega)]; have : (1 : Int64).toInt = 1 := rfl; omega)
theorem own_mv5 {b : Int64} {kk mv : Int64} (hk : 2 ≤ kk.toInt ∧ kk.toInt ≤ 1048577) (h : ((b &&& (2147483647 : Int64)) % (kk - (1 : Int64))) + (1 : Int64) = mv) : 1 ≤ mv.toInt ∧ mv.toInt ≤ kk.toInt - 1 := by
  have o1 : (1 : Int64).toInt = 1 := rfl
  have m : 0 ≤ (b &&& (2147483647 : Int64)).toInt := (c_andSL b 2147483647).2.2 (by decide)
  have e1 : (kk - (1 : Int64)).toInt = kk.toInt - 1 := by rw [Core.int64_sub (by omega) (by omega), o1]
  have e2 : ((b &&& (2147483647 : Int64)) % (kk - (1 : Int64))).toInt = (b &&& (2147483647 : Int64)).toInt % (kk.toInt - 1) := by rw [Int64.toInt_mod, e1, Int.tmod_eq_emod_of_nonneg m]
  have l1 := Int.emod_nonneg (b &&& (2147483647 : Int64)).toInt (b := kk.toInt - 1) (by omega)
  have l2 := Int.emod_lt_of_pos (b &&& (2147483647 : Int64)).toInt (b := kk.toInt - 1) (by omega)
  rw [← h, Core.int64_add (by rw [e2, o1]; omega) (by rw [e2, o1]; omega), e2, o1]; omega
theorem own_cc5 {q : Int32} {kk mv cc : Int64} (hq : q.toInt.natAbs ≤ 1048575) (hk : 2 ≤ kk.toInt ∧ kk.toInt ≤ 1048577) (hm : 1 ≤ mv.toInt ∧ mv.toInt ≤ kk.toInt - 1) (h : q.toInt64 * kk + mv = cc) : cc.toInt = q.toInt * kk.toInt + mv.toInt ∧ cc.toInt.natAbs ≤ 1099511627776 * 2 := by
  have w := Int32.toInt_toInt64 q
  have p : (q.toInt * kk.toInt).natAbs ≤ 1048575 * 1048577 := own_prod hq (by omega)
  have e1 : (q.toInt64 * kk).toInt = q.toInt * kk.toInt := by rw [Core.int64_mul (by rw [w]; omega) (by rw [w]; omega), w]
  have e3 : cc.toInt = q.toInt * kk.toInt + mv.toInt := by rw [← h, Core.int64_add (by rw [e1]; omega) (by rw [e1]; omega), e1]
  exact ⟨e3, by rw [e3]; omega⟩
section
variable {q : Int32} {kk cc : Int64} {r : UInt64}
theorem own_m3a (hq : q.toInt.natAbs ≤ 1048575) (hk : 1 ≤ kk.toInt ∧ kk.toInt ≤ 1048576) (hc : cc.toInt = q.toInt * kk.toInt ∧ cc.toInt.natAbs ≤ 1099511627776) (h : (if kk = (0 : Int64) then (0 : UInt64) else (FP.ddiv (FP.l2d cc) (FP.l2d kk))) = r) : own_Z 1074 q.toInt r :=
  h ▸ own_exactq (own_ne (by omega)) hc.1 (by omega) (by omega) (by omega)
theorem own_m3b (hq : q.toInt.natAbs ≤ 1048575) (hk : 1 ≤ kk.toInt ∧ kk.toInt ≤ 1048576) (hc : cc.toInt = q.toInt * kk.toInt ∧ cc.toInt.natAbs ≤ 1099511627776) (h : (if kk = (0 : Int64) then (0 : UInt64) else (FP.ddiv (FP.l2d (-cc)) (FP.l2d kk))) = r) : own_Z 1074 (-q.toInt) r := by
  have n := own_n64 (q := cc) (by omega)
  exact h ▸ own_exactq (own_ne (by omega)) (by rw [n, hc.1, Int.neg_mul]) (by omega) (by omega) (by omega)
theorem own_m3c (hq : q.toInt.natAbs ≤ 1048575) (hk : 1 ≤ kk.toInt ∧ kk.toInt ≤ 1048576) (hc : cc.toInt = q.toInt * kk.toInt ∧ cc.toInt.natAbs ≤ 1099511627776) (h : (if (-kk) = (0 : Int64) then (0 : UInt64) else (FP.ddiv (FP.l2d cc) (FP.l2d (-kk)))) = r) : own_Z 1074 (-q.toInt) r := by
  have n := own_n64 (q := kk) (by omega)
  exact h ▸ own_exactq (own_ne (by omega)) (by rw [n, hc.1, Int.neg_mul_neg]) (by omega) (by omega) (by omega)
theorem own_m3d (hq : q.toInt.natAbs ≤ 1048575) (hk : 1 ≤ kk.toInt ∧ kk.toInt ≤ 1048576) (hc : cc.toInt = q.toInt * kk.toInt ∧ cc.toInt.natAbs ≤ 1099511627776) (h : (if (-kk) = (0 : Int64) then (0 : UInt64) else (FP.ddiv (FP.l2d (-cc)) (FP.l2d (-kk)))) = r) : own_Z 1074 q.toInt r := by
  have n := own_n64 (q := kk) (by omega); have n' := own_n64 (q := cc) (by omega)
  exact h ▸ own_exactq (own_ne (by omega)) (by rw [n, n', hc.1, Int.mul_neg]) (by omega) (by omega) (by omega)
variable {m : Int}
theorem own_m4a (hq : q.toInt.natAbs ≤ 1048575) (hm : 1 ≤ m ∧ m ≤ 524288) (hk : kk.toInt = m * 2) (hc : cc.toInt = (2 * q.toInt + 1) * m ∧ cc.toInt.natAbs ≤ 1099511627776 * 2) (h : (if kk = (0 : Int64) then (0 : UInt64) else (FP.ddiv (FP.l2d cc) (FP.l2d kk))) = r) : own_Z 1073 (2 * q.toInt + 1) r :=
  h ▸ own_halfq (own_ne (by omega)) hc.1 hk (by omega) (by omega) (by omega)
theorem own_m4b (hq : q.toInt.natAbs ≤ 1048575) (hm : 1 ≤ m ∧ m ≤ 524288) (hk : kk.toInt = m * 2) (hc : cc.toInt = (2 * q.toInt + 1) * m ∧ cc.toInt.natAbs ≤ 1099511627776 * 2) (h : (if kk = (0 : Int64) then (0 : UInt64) else (FP.ddiv (FP.l2d (-cc)) (FP.l2d kk))) = r) : own_Z 1073 (-(2 * q.toInt + 1)) r := by
  have n := own_n64 (q := cc) (by omega)
  exact h ▸ own_halfq (own_ne (by omega)) (by rw [n, hc.1, Int.neg_mul]) hk (by omega) (by omega) (by omega)
theorem own_m4c (hq : q.toInt.natAbs ≤ 1048575) (hm : 1 ≤ m ∧ m ≤ 524288) (hk : kk.toInt = m * 2) (hc : cc.toInt = (2 * q.toInt + 1) * m ∧ cc.toInt.natAbs ≤ 1099511627776 * 2) (h : (if (-kk) = (0 : Int64) then (0 : UInt64) else (FP.ddiv (FP.l2d cc) (FP.l2d (-kk)))) = r) : own_Z 1073 (-(2 * q.toInt + 1)) r := by
  have n := own_n64 (q := kk) (by omega)
  exact h ▸ own_halfq (m := -m) (own_ne (by omega)) (by rw [hc.1, Int.neg_mul_neg]) (by omega) (by omega) (by omega) (by omega)
theorem own_m4d (hq : q.toInt.natAbs ≤ 1048575) (hm : 1 ≤ m ∧ m ≤ 524288) (hk : kk.toInt = m * 2) (hc : cc.toInt = (2 * q.toInt + 1) * m ∧ cc.toInt.natAbs ≤ 1099511627776 * 2) (h : (if (-kk) = (0 : Int64) then (0 : UInt64) else (FP.ddiv (FP.l2d (-cc)) (FP.l2d (-kk)))) = r) : own_Z 1073 (2 * q.toInt + 1) r := by
  have n := own_n64 (q := kk) (by omega); have n' := own_n64 (q := cc) (by omega)
  exact h ▸ own_halfq (m := -m) (own_ne (by omega)) (by rw [n', hc.1, Int.mul_neg]) (by omega) (by omega) (by omega) (by omega)
theorem own_t4 (hq : q.toInt.natAbs ≤ 1048575) : (((2 : Int32) * q) + (1 : Int32)).toInt = 2 * q.toInt + 1 := by
  have e := c_imul 2 q; have r1 := rng32 ((2 : Int32) * q); have e2 := c_iadd ((2 : Int32) * q) 1; have r2 := rng32 (((2 : Int32) * q) + (1 : Int32)); have o1 : (1 : Int32).toInt = 1 := rfl; have o2 : (2 : Int32).toInt = 2 := rfl
  rw [o2] at e; omega
theorem own_e4 (hq : q.toInt.natAbs ≤ 1048575) : (2 * q.toInt + 1) + (2 * q.toInt + 1) = (((2 : Int32) * q) + (1 : Int32)).toInt * 2 := by rw [own_t4 hq]; omega
theorem own_e4n (hq : q.toInt.natAbs ≤ 1048575) : (-(2 * q.toInt + 1)) + (-(2 * q.toInt + 1)) = (-(((2 : Int32) * q) + (1 : Int32))).toInt * 2 := by
  have t := own_t4 hq; have e := c_ineg (((2 : Int32) * q) + (1 : Int32)); have := rng32 (-(((2 : Int32) * q) + (1 : Int32))); omega
theorem own_q1 (hq : q.toInt.natAbs ≤ 1048575) : own_Z 1074 (q.toInt + 1) (FP.i2d (q + (1 : Int32))) := own_Z.eq (own_Z.i2d _) (by have e := c_iadd q 1; have := rng32 (q + (1 : Int32)); have o1 : (1 : Int32).toInt = 1 := rfl; omega)
theorem own_qm (hq : q.toInt.natAbs ≤ 1048575) : own_Z 1074 (-q.toInt - 1) (FP.i2d ((-q) - (1 : Int32))) := own_Z.eq (own_Z.i2d _) (by have n := own_n32 hq; have e := c_isub (-q) 1; have := rng32 ((-q) - (1 : Int32)); have o1 : (1 : Int32).toInt = 1 := rfl; omega)
theorem own_qn (hq : q.toInt.natAbs ≤ 1048575) : own_Z 1074 (-q.toInt - 1 + 1) (FP.i2d (-q)) := own_Z.eq (own_Z.i2d _) (by have n := own_n32 hq; omega)
variable {mv : Int64}
theorem own_m5a (hq : q.toInt.natAbs ≤ 1048575) (hk : 2 ≤ kk.toInt ∧ kk.toInt ≤ 1048577) (hm : 1 ≤ mv.toInt ∧ mv.toInt ≤ kk.toInt - 1) (hc : cc.toInt = q.toInt * kk.toInt + mv.toInt ∧ cc.toInt.natAbs ≤ 1099511627776 * 2) (h : (if kk = (0 : Int64) then (0 : UInt64) else (FP.ddiv (FP.l2d cc) (FP.l2d kk))) = r) (o : CmpOp) :
    cmpValue (FP.dcmp (FP.i2d q) r) o = -1 ∧ cmpValue (FP.dcmp r (FP.i2d (q + (1 : Int32)))) o = -1 := by
  rw [if_neg (own_ne (by omega))] at h
  subst h
  exact own_strictP (own_Z.l2d (by omega)) (own_Z.l2d (by omega)) (own_Z.i2d q) (own_q1 hq) (M := mv.toInt) (by omega) (by omega) (by omega) (by omega) hc.1 (by omega) o
theorem own_m5d (hq : q.toInt.natAbs ≤ 1048575) (hk : 2 ≤ kk.toInt ∧ kk.toInt ≤ 1048577) (hm : 1 ≤ mv.toInt ∧ mv.toInt ≤ kk.toInt - 1) (hc : cc.toInt = q.toInt * kk.toInt + mv.toInt ∧ cc.toInt.natAbs ≤ 1099511627776 * 2) (h : (if (-kk) = (0 : Int64) then (0 : UInt64) else (FP.ddiv (FP.l2d (-cc)) (FP.l2d (-kk)))) = r) (o : CmpOp) :
    cmpValue (FP.dcmp (FP.i2d q) r) o = -1 ∧ cmpValue (FP.dcmp r (FP.i2d (q + (1 : Int32)))) o = -1 := by
  have n := own_n64 (q := kk) (by omega); have n' := own_n64 (q := cc) (by omega)
  rw [if_neg (own_ne (by omega))] at h
  subst h
  exact own_strictN (own_Z.l2d (by omega)) (own_Z.l2d (by omega)) (own_Z.i2d q) (own_q1 hq) (M := -mv.toInt) (by omega) (by omega) (by omega) (by omega) (by rw [n, n', hc.1, Int.mul_neg]; omega) (by omega) o
theorem own_m5b (hq : q.toInt.natAbs ≤ 1048575) (hk : 2 ≤ kk.toInt ∧ kk.toInt ≤ 1048577) (hm : 1 ≤ mv.toInt ∧ mv.toInt ≤ kk.toInt - 1) (hc : cc.toInt = q.toInt * kk.toInt + mv.toInt ∧ cc.toInt.natAbs ≤ 1099511627776 * 2) (h : (if kk = (0 : Int64) then (0 : UInt64) else (FP.ddiv (FP.l2d (-cc)) (FP.l2d kk))) = r) (o : CmpOp) :
    cmpValue (FP.dcmp (FP.i2d ((-q) - (1 : Int32))) r) o = -1 ∧ cmpValue (FP.dcmp r (FP.i2d (-q))) o = -1 := by
  have n' := own_n64 (q := cc) (by omega)
  rw [if_neg (own_ne (by omega))] at h
  subst h
  exact own_strictP (own_Z.l2d (by omega)) (own_Z.l2d (by omega)) (own_qm hq) (own_qn hq) (M := kk.toInt - mv.toInt) (by omega) (by omega) (by omega) (by omega) (by rw [n', hc.1, Int.sub_mul, Int.neg_mul, Int.one_mul]; omega) (by omega) o
theorem own_m5c (hq : q.toInt.natAbs ≤ 1048575) (hk : 2 ≤ kk.toInt ∧ kk.toInt ≤ 1048577) (hm : 1 ≤ mv.toInt ∧ mv.toInt ≤ kk.toInt - 1) (hc : cc.toInt = q.toInt * kk.toInt + mv.toInt ∧ cc.toInt.natAbs ≤ 1099511627776 * 2) (h : (if (-kk) = (0 : Int64) then (0 : UInt64) else (FP.ddiv (FP.l2d cc) (FP.l2d (-kk)))) = r) (o : CmpOp) :
    cmpValue (FP.dcmp (FP.i2d ((-q) - (1 : Int32))) r) o = -1 ∧ cmpValue (FP.dcmp r (FP.i2d (-q))) o = -1 := by
  have n := own_n64 (q := kk) (by omega)
  rw [if_neg (own_ne (by omega))] at h
  subst h
  exact own_strictN (own_Z.l2d (by omega)) (own_Z.l2d (by omega)) (own_qm hq) (own_qn hq) (M := mv.toInt - kk.toInt) (by omega) (by omega) (by omega) (by omega) (by rw [n, hc.1, Int.sub_mul, Int.neg_mul_neg, Int.one_mul]; omega) (by omega) o
end
theorem own_co {b cl co : Int64} (h0 : 0 ≤ cl.toInt) (h : (if cl < (b &&& (9223372036854775807 : Int64)) then cl else (b &&& (9223372036854775807 : Int64))) = co) : 0 ≤ co.toInt ∧ co.toInt ≤ cl.toInt := by
  have m : 0 ≤ (b &&& (9223372036854775807 : Int64)).toInt := (c_andSL b 9223372036854775807).2.2 (by decide)
  rw [← h]
  split
  · omega
  · rename_i q; rw [Int64.lt_iff_toInt_lt] at q; omega
theorem own_r6a {co cl : Int64} {r : UInt64} (h : (if cl = (0 : Int64) then (0 : UInt64) else (FP.ddiv (FP.l2d co) (FP.l2d cl))) = r) (hZ : cl = (0 : Int64)) : cmpValue (FP.dcmp r (0 : UInt64)) .l = 0 := by
  rw [if_pos hZ] at h; subst h; decide +kernel
theorem own_r6b {co cl : Int64} {r : UInt64} (h : (if cl = (0 : Int64) then (0 : UInt64) else (FP.ddiv (FP.l2d co) (FP.l2d cl))) = r) (hZ : ¬ cl = (0 : Int64)) (hY : co = (0 : Int64)) : cmpValue (FP.dcmp r (0 : UInt64)) .l = 0 := by
  subst hY; rw [← h]; exact own_zeroq hZ _
theorem own_r6c {co cl : Int64} {r : UInt64} (h : (if cl = (0 : Int64) then (0 : UInt64) else (FP.ddiv (FP.l2d co) (FP.l2d cl))) = r) (hZ : ¬ cl = (0 : Int64)) (hE : co = cl) : cmpValue (FP.dcmp r (4607182418800017408 : UInt64)) .l = 0 := by
  subst hE; rw [own_selfq hZ] at h; subst h; decide +kernel
theorem own_r6d {co cl : Int64} {r : UInt64} (h : (if cl = (0 : Int64) then (0 : UInt64) else (FP.ddiv (FP.l2d co) (FP.l2d cl))) = r) (hc : 0 ≤ co.toInt ∧ co.toInt ≤ cl.toInt) (hZ : ¬ cl = (0 : Int64)) : Core.val64 r ≠ .nan ∧ 0 ≤ own_zv r ∧ own_zv r ≤ own_zv 4607182418800017408 := by
  rw [if_neg hZ] at h; subst h; exact own_unit hc.1 hc.2 hZ
theorem own_r6e {r : UInt64} (h : Core.val64 r ≠ .nan ∧ 0 ≤ own_zv r ∧ own_zv r ≤ own_zv 4607182418800017408) (hG : ¬ ((0 : Int32) < cmpValue (FP.dcmp r (0 : UInt64)) .l)) : cmpValue (FP.dcmp r (0 : UInt64)) .l = 0 := by
  have e0 : own_zv 0 = 0 := own_Z0.2.trans (Int.zero_mul _)
  have q := own_cmpv h.1 (own_finne own_Z0.1) .l
  rcases Int.lt_or_eq_of_le h.2.1 with k | k
  · exact absurd (by rw [q.2.2 (by omega)]; decide) hG
  · exact q.2.1 (by omega)
theorem own_r6f {r : UInt64} (h : Core.val64 r ≠ .nan ∧ 0 ≤ own_zv r ∧ own_zv r ≤ own_zv 4607182418800017408) (hL : ¬ (cmpValue (FP.dcmp r (4607182418800017408 : UInt64)) .g < (0 : Int32))) : cmpValue (FP.dcmp r (4607182418800017408 : UInt64)) .l = 0 := by
  rcases Int.lt_or_eq_of_le h.2.2 with k | k
  · exact absurd (by rw [(own_cmpv h.1 (own_finne own_Z1.1) .g).1 k]; decide) hL
  · exact (own_cmpv h.1 (own_finne own_Z1.1) .l).2.1 k
end OwnC3
theorem own_d3_0 : decode jdk_30_method_1_code 0 = .ok (.aload_n 0, 1) := by decide +kernel
theorem own_d3_1 : decode jdk_30_method_1_code 1 = .ok (.invokespecial 1, 3) := by decide +kernel
theorem own_d3_4 : decode jdk_30_method_1_code 4 = .ok (.return_, 1) := by decide +kernel
set_option maxHeartbeats 4000000 in
theorem own_ef3 (m : MethodId) (x0 : Addr) : entryFrame m #[(.ref x0)] 1 = mkF m 0 #[.val (.ref x0)] [] := by first | (simp [entryFrame, mkF, argsToLocals, Value.category]; done) | rfl
theorem own_pn0 : plainName "java/lang/Record" = true := by first | (simp [plainName, overriddenIn]; done) | decide +kernel
def own_Q3 (Z : State) (a0 : Array Value) (o0 : Addr) (h0 : Heap) (n0 : Nat) (v : Option Value) (h : Heap) (L : List Loc) : Prop := v = none ∧ Fr n0 L ∧ h = h0
set_option maxRecDepth 65536 in
set_option maxHeartbeats 40000000 in
theorem own_rm3 (l : Launch) (Z : State) (a0 : Array Value) (hw : ∀ d ∈ tables_1, d.before a0 Z = true) (ws : List Jvm.Cond) (o0 : Addr) (h0 : Heap) (n0 : Nat) (Z0 : n0 ≤ h0.size) :
    MetFree l (⟨"java/lang/Record", "<init>", "()V"⟩ : MethodName) (head1 (Jvm.Cond.code (⟨"java/lang/Record", "<init>", "()V"⟩ : MethodName) jdk_30_method_1_code 1 none :: ws) ({ frames := 1, cells := 0, slots := 0, locals := 12 } : Room)) (fun a U => a = #[(.ref o0)] ∧ Z.Warmed39 U.vm ∧ U.heap = h0) (fun _ _ _ _ _ => True) (fun _ U o U' => ∃ v L, o = .returned v ∧ own_Q3 Z a0 o0 h0 n0 v U'.heap L ∧ FrameEnd U o U' L ({ frames := 1, cells := 0, slots := 0, locals := 12 } : Room).cells ({ frames := 1, cells := 0, slots := 0, locals := 12 } : Room).slots) := by
  refine own_body (Q := fun v h L => own_Q3 Z a0 o0 h0 n0 v h L) (plainFor_of_name own_pn0) ?_
  intro p e s m below meth c s₁ hx hby hml hZ hown hnm hret hlk X0 e0
  replace hml : c.maxLocals = 1 := hml
  have N0 := Fr.nil n0
  have K0 : Keep h0 h0 [] := Keep.refl _ _
  refine own_st (fun t k => castTop (own_ef3 m o0) k) ?_
  show own_Run p e below s _ _ _ (s₁.setTop (mkF m 0 #[.val (.ref o0)] []))
  refine own_st (fun t k => XS.aloadN X0.here hx rfl (hb hby own_d3_0) rfl rfl k) ?_
  show own_Run p e below s _ _ _ (s₁.setTop (mkF m 1 #[.val (.ref o0)] [(.ref o0)]))
  obtain ⟨T1, X1, e1, st1⟩ := initO X0 hx hZ hown (hw _ (List.mem_of_getElem? (i := 19) rfl)) (hw _ (List.mem_of_getElem? (i := 20) rfl)) (hw _ (List.mem_of_getElem? (i := 21) rfl)) e0 (g := (mkF m 1 #[.val (.ref o0)] [(.ref o0)])) rfl (by rw [hml]; rfl) rfl (hb hby own_d3_1) (by decide) (W := 0) (by show 2 * 0 + _ ≤ _; exact Nat.le_of_eq rfl) (by decide)
  refine own_st st1 ?_
  show own_Run p e below s _ _ _ (T1.setTop (mkF m 4 #[.val (.ref o0)] []))
  exact own_retV X1 hx hlk hret (hb hby own_d3_4) (by decide) (by decide) ⟨rfl, N0, e1⟩
theorem own_d2_0 : decode prog_87_method_1_code 0 = .ok (.aload_n 0, 1) := by decide +kernel
theorem own_d2_1 : decode prog_87_method_1_code 1 = .ok (.invokespecial 3, 3) := by decide +kernel
theorem own_pd1 : parseMethodDescriptor "()V" = some ⟨[], none⟩ := by decide +kernel
theorem own_d2_4 : decode prog_87_method_1_code 4 = .ok (.aload_n 0, 1) := by decide +kernel
theorem own_d2_5 : decode prog_87_method_1_code 5 = .ok (.aload_n 1, 1) := by decide +kernel
theorem own_d2_6 : decode prog_87_method_1_code 6 = .ok (.putfield 9, 3) := by decide +kernel
theorem own_d2_9 : decode prog_87_method_1_code 9 = .ok (.aload_n 0, 1) := by decide +kernel
theorem own_d2_10 : decode prog_87_method_1_code 10 = .ok (.iload_n 2, 1) := by decide +kernel
theorem own_d2_11 : decode prog_87_method_1_code 11 = .ok (.putfield 15, 3) := by decide +kernel
theorem own_d2_14 : decode prog_87_method_1_code 14 = .ok (.aload_n 0, 1) := by decide +kernel
theorem own_d2_15 : decode prog_87_method_1_code 15 = .ok (.dload_n 3, 1) := by decide +kernel
theorem own_d2_16 : decode prog_87_method_1_code 16 = .ok (.putfield 19, 3) := by decide +kernel
theorem own_d2_19 : decode prog_87_method_1_code 19 = .ok (.aload_n 0, 1) := by decide +kernel
theorem own_d2_20 : decode prog_87_method_1_code 20 = .ok (.lload 5, 2) := by decide +kernel
theorem own_d2_22 : decode prog_87_method_1_code 22 = .ok (.putfield 23, 3) := by decide +kernel
theorem own_d2_25 : decode prog_87_method_1_code 25 = .ok (.aload_n 0, 1) := by decide +kernel
theorem own_d2_26 : decode prog_87_method_1_code 26 = .ok (.lload 7, 2) := by decide +kernel
theorem own_d2_28 : decode prog_87_method_1_code 28 = .ok (.putfield 27, 3) := by decide +kernel
theorem own_d2_31 : decode prog_87_method_1_code 31 = .ok (.aload_n 0, 1) := by decide +kernel
theorem own_d2_32 : decode prog_87_method_1_code 32 = .ok (.lload 9, 2) := by decide +kernel
theorem own_d2_34 : decode prog_87_method_1_code 34 = .ok (.putfield 30, 3) := by decide +kernel
theorem own_d2_37 : decode prog_87_method_1_code 37 = .ok (.aload_n 0, 1) := by decide +kernel
theorem own_d2_38 : decode prog_87_method_1_code 38 = .ok (.lload 11, 2) := by decide +kernel
theorem own_d2_40 : decode prog_87_method_1_code 40 = .ok (.putfield 33, 3) := by decide +kernel
theorem own_d2_43 : decode prog_87_method_1_code 43 = .ok (.aload_n 0, 1) := by decide +kernel
theorem own_d2_44 : decode prog_87_method_1_code 44 = .ok (.lload 13, 2) := by decide +kernel
theorem own_d2_46 : decode prog_87_method_1_code 46 = .ok (.putfield 36, 3) := by decide +kernel
theorem own_d2_49 : decode prog_87_method_1_code 49 = .ok (.aload_n 0, 1) := by decide +kernel
theorem own_d2_50 : decode prog_87_method_1_code 50 = .ok (.lload 15, 2) := by decide +kernel
theorem own_d2_52 : decode prog_87_method_1_code 52 = .ok (.putfield 39, 3) := by decide +kernel
theorem own_d2_55 : decode prog_87_method_1_code 55 = .ok (.return_, 1) := by decide +kernel
set_option maxHeartbeats 4000000 in
theorem own_ef2 (m : MethodId) (x0 : Addr) (x1 : Addr) (x2 : Int32) (x3 : UInt64) (x4 : Int64) (x5 : Int64) (x6 : Int64) (x7 : Int64) (x8 : Int64) (x9 : Int64) : entryFrame m #[(.ref x0), (.ref x1), (.int x2), (.double x3), (.long x4), (.long x5), (.long x6), (.long x7), (.long x8), (.long x9)] 17 = mkF m 0 #[.val (.ref x0), .val (.ref x1), .val (.int x2), .val (.double x3), .second, .val (.long x4), .second, .val (.long x5), .second, .val (.long x6), .second, .val (.long x7), .second, .val (.long x8), .second, .val (.long x9), .second] [] := by first | (simp [entryFrame, mkF, argsToLocals, Value.category]; done) | rfl
theorem own_pn2 : plainName "com/example/tunegrid/tunegrid/TuningPolicy$Interval" = true := by first | (simp [plainName, overriddenIn]; done) | decide +kernel
def own_Q2 (Z : State) (a0 : Array Value) (a0_ : Addr) (o1 : Addr) (i2 : Int32) (d3 : UInt64) (j4 : Int64) (j5 : Int64) (j6 : Int64) (j7 : Int64) (j8 : Int64) (j9 : Int64) (h0 : Heap) (n0 : Nat) (v : Option Value) (h : Heap) (L : List Loc) : Prop := v = none ∧ Fr n0 L ∧ Keep h0 h [a0_] ∧ Exa Z h a0_ "com/example/tunegrid/tunegrid/TuningPolicy$Interval" ∧ Fld Z h a0_ "com/example/tunegrid/tunegrid/TuningPolicy$Interval" "claims" "J" (.long j8) ∧ Fld Z h a0_ "com/example/tunegrid/tunegrid/TuningPolicy$Interval" "contended" "J" (.long j9)
set_option maxRecDepth 65536 in
set_option maxHeartbeats 40000000 in
theorem own_rm2 (l : Launch) (Z : State) (a0 : Array Value) (hw : ∀ d ∈ tables_1, d.before a0 Z = true) (ws : List Jvm.Cond) (a0_ : Addr) (o1 : Addr) (i2 : Int32) (d3 : UInt64) (j4 : Int64) (j5 : Int64) (j6 : Int64) (j7 : Int64) (j8 : Int64) (j9 : Int64) (h0 : Heap) (n0 : Nat) (Z0 : n0 ≤ h0.size) (E0 : Exa Z h0 a0_ "com/example/tunegrid/tunegrid/TuningPolicy$Interval") (D0 : ∀ {O nm d : String} {ty : FieldType}, Laid Z a0 "com/example/tunegrid/tunegrid/TuningPolicy$Interval" O nm d → parseFieldDescriptor d = some ty → Fld Z h0 a0_ O nm d (defaultValue ty)) (G0 : n0 ≤ a0_) :
    MetFree l (⟨"com/example/tunegrid/tunegrid/TuningPolicy$Interval", "<init>", "(Lcom/example/tunegrid/tunegrid/Replication$Kind;IDJJJJJJ)V"⟩ : MethodName) (head1 (Jvm.Cond.code (⟨"com/example/tunegrid/tunegrid/TuningPolicy$Interval", "<init>", "(Lcom/example/tunegrid/tunegrid/Replication$Kind;IDJJJJJJ)V"⟩ : MethodName) prog_87_method_1_code 17 none :: ws) ({ frames := 2, cells := 0, slots := 0, locals := 24 } : Room)) (fun a U => a = #[(.ref a0_), (.ref o1), (.int i2), (.double d3), (.long j4), (.long j5), (.long j6), (.long j7), (.long j8), (.long j9)] ∧ Z.Warmed39 U.vm ∧ U.heap = h0) (fun _ _ _ _ _ => True) (fun _ U o U' => ∃ v L, o = .returned v ∧ own_Q2 Z a0 a0_ o1 i2 d3 j4 j5 j6 j7 j8 j9 h0 n0 v U'.heap L ∧ FrameEnd U o U' L ({ frames := 2, cells := 0, slots := 0, locals := 24 } : Room).cells ({ frames := 2, cells := 0, slots := 0, locals := 24 } : Room).slots) := by
  refine own_body (Q := fun v h L => own_Q2 Z a0 a0_ o1 i2 d3 j4 j5 j6 j7 j8 j9 h0 n0 v h L) (plainFor_of_name own_pn2) ?_
  intro p e s m below meth c s₁ hx hby hml hZ hown hnm hret hlk X0 e0
  replace hml : c.maxLocals = 17 := hml
  have N0 := Fr.nil n0
  have K0 : Keep h0 h0 [a0_] := Keep.refl _ _
  refine own_st (fun t k => castTop (own_ef2 m a0_ o1 i2 d3 j4 j5 j6 j7 j8 j9) k) ?_
  show own_Run p e below s _ _ _ (s₁.setTop (mkF m 0 #[.val (.ref a0_), .val (.ref o1), .val (.int i2), .val (.double d3), .second, .val (.long j4), .second, .val (.long j5), .second, .val (.long j6), .second, .val (.long j7), .second, .val (.long j8), .second, .val (.long j9), .second] []))
  refine own_st (fun t k => XS.aloadN X0.here hx rfl (hb hby own_d2_0) rfl rfl k) ?_
  show own_Run p e below s _ _ _ (s₁.setTop (mkF m 1 #[.val (.ref a0_), .val (.ref o1), .val (.int i2), .val (.double d3), .second, .val (.long j4), .second, .val (.long j5), .second, .val (.long j6), .second, .val (.long j7), .second, .val (.long j8), .second, .val (.long j9), .second] [(.ref a0_)]))
  refine own_callI X0 hx hZ (y := (⟨"java/lang/Record", "<init>", "()V"⟩ : MethodName)) rfl hown (hw _ (List.mem_of_getElem? (i := 14) rfl)) (hw _ (List.mem_of_getElem? (i := 15) rfl)) (hw _ (List.mem_of_getElem? (i := 18) rfl)) (hw _ (List.mem_of_getElem? (i := 17) rfl)) (by decide) e0 (a := a0_) (argsL := []) (rest := []) (W := 0) (own_rm3 l Z a0 hw [] a0_ h0 n0 (Nat.le_trans Z0 K0.1) ) (by decide) (by decide) (by rw [hml]; rfl) (lenOf own_pd1 rfl) rfl (by exact Nat.le_of_eq rfl) (hb hby own_d2_1) (by decide) (by decide) ?_
  intro T2 v2 L2 X2 hq2
  obtain ⟨rfl, N2q, hh2⟩ := hq2
  have N2 := Fr.app N0 N2q
  show own_Run p e below s _ _ _ (T2.setTop (mkF m 4 #[.val (.ref a0_), .val (.ref o1), .val (.int i2), .val (.double d3), .second, .val (.long j4), .second, .val (.long j5), .second, .val (.long j6), .second, .val (.long j7), .second, .val (.long j8), .second, .val (.long j9), .second] []))
  refine own_st (fun t k => XS.aloadN X2.here hx rfl (hb hby own_d2_4) rfl rfl k) ?_
  show own_Run p e below s _ _ _ (T2.setTop (mkF m 5 #[.val (.ref a0_), .val (.ref o1), .val (.int i2), .val (.double d3), .second, .val (.long j4), .second, .val (.long j5), .second, .val (.long j6), .second, .val (.long j7), .second, .val (.long j8), .second, .val (.long j9), .second] [(.ref a0_)]))
  refine own_st (fun t k => XS.aloadN X2.here hx rfl (hb hby own_d2_5) rfl rfl k) ?_
  show own_Run p e below s _ _ _ (T2.setTop (mkF m 6 #[.val (.ref a0_), .val (.ref o1), .val (.int i2), .val (.double d3), .second, .val (.long j4), .second, .val (.long j5), .second, .val (.long j6), .second, .val (.long j7), .second, .val (.long j8), .second, .val (.long j9), .second] [(.ref o1), (.ref a0_)]))
  have F3 : Fld Z _ a0_ "com/example/tunegrid/tunegrid/TuningPolicy$Interval" "protocol" "Lcom/example/tunegrid/tunegrid/Replication$Kind;" .null := D0 (Or.inr (hw _ (List.mem_of_getElem? (i := 23) rfl))) (ty := (.object "com/example/tunegrid/tunegrid/Replication$Kind")) (by decide)
  obtain ⟨T4, h4, X4, e4, W4, st4⟩ := putF X2 hx hZ hown (host := "") (Or.inl (hw _ (List.mem_of_getElem? (i := 22) rfl))) Via.refl hh2 F3 E0 (Or.inr ⟨(hw _ (List.mem_of_getElem? (i := 23) rfl)), rfl, hnm⟩) (hw _ (List.mem_of_getElem? (i := 9) rfl)) (ty := (.object "com/example/tunegrid/tunegrid/Replication$Kind")) (by decide) rfl rfl (g := (mkF m 6 #[.val (.ref a0_), .val (.ref o1), .val (.int i2), .val (.double d3), .second, .val (.long j4), .second, .val (.long j5), .second, .val (.long j6), .second, .val (.long j7), .second, .val (.long j8), .second, .val (.long j9), .second] [(.ref o1), (.ref a0_)])) rfl rfl (hb hby own_d2_6)
  refine own_st st4 ?_
  have Fw4 := F3.same W4
  have N4 := Fr.snoc X4 N2 G0
  have K5 : Keep h0 h4 [a0_] := K0.wr W4 (Or.inl (List.mem_of_getElem? (i := 0) rfl))
  show own_Run p e below s _ _ _ (T4.setTop (mkF m 9 #[.val (.ref a0_), .val (.ref o1), .val (.int i2), .val (.double d3), .second, .val (.long j4), .second, .val (.long j5), .second, .val (.long j6), .second, .val (.long j7), .second, .val (.long j8), .second, .val (.long j9), .second] []))
  refine own_st (fun t k => XS.aloadN X4.here hx rfl (hb hby own_d2_9) rfl rfl k) ?_
  show own_Run p e below s _ _ _ (T4.setTop (mkF m 10 #[.val (.ref a0_), .val (.ref o1), .val (.int i2), .val (.double d3), .second, .val (.long j4), .second, .val (.long j5), .second, .val (.long j6), .second, .val (.long j7), .second, .val (.long j8), .second, .val (.long j9), .second] [(.ref a0_)]))
  refine own_st (fun t k => XS.iloadN X4.here hx rfl (hb hby own_d2_10) rfl k) ?_
  show own_Run p e below s _ _ _ (T4.setTop (mkF m 11 #[.val (.ref a0_), .val (.ref o1), .val (.int i2), .val (.double d3), .second, .val (.long j4), .second, .val (.long j5), .second, .val (.long j6), .second, .val (.long j7), .second, .val (.long j8), .second, .val (.long j9), .second] [(.int i2), (.ref a0_)]))
  have E7 := (E0.wr W4)
  have F8 : Fld Z _ a0_ "com/example/tunegrid/tunegrid/TuningPolicy$Interval" "members" "I" (.int (0 : Int32)) := D0 (Or.inr (hw _ (List.mem_of_getElem? (i := 25) rfl))) (ty := .int) (by decide)
  have F9 := (F8.other W4 (Or.inr (slot_ne (Or.inr (hw _ (List.mem_of_getElem? (i := 25) rfl))) (Or.inr (hw _ (List.mem_of_getElem? (i := 23) rfl))) (by decide) (t := .int) (t' := (.object "com/example/tunegrid/tunegrid/Replication$Kind")) (by decide) (by decide))))
  obtain ⟨T10, h10, X10, e10, W10, st10⟩ := putF X4 hx hZ hown (host := "") (Or.inl (hw _ (List.mem_of_getElem? (i := 24) rfl))) Via.refl e4 F9 E7 (Or.inr ⟨(hw _ (List.mem_of_getElem? (i := 25) rfl)), rfl, hnm⟩) (hw _ (List.mem_of_getElem? (i := 9) rfl)) (ty := .int) (by decide) rfl rfl (g := (mkF m 11 #[.val (.ref a0_), .val (.ref o1), .val (.int i2), .val (.double d3), .second, .val (.long j4), .second, .val (.long j5), .second, .val (.long j6), .second, .val (.long j7), .second, .val (.long j8), .second, .val (.long j9), .second] [(.int i2), (.ref a0_)])) rfl rfl (hb hby own_d2_11)
  refine own_st st10 ?_
  have Fw10 := F9.same W10
  have N10 := Fr.snoc X10 N4 G0
  have K11 : Keep h0 h10 [a0_] := K5.wr W10 (Or.inl (List.mem_of_getElem? (i := 0) rfl))
  show own_Run p e below s _ _ _ (T10.setTop (mkF m 14 #[.val (.ref a0_), .val (.ref o1), .val (.int i2), .val (.double d3), .second, .val (.long j4), .second, .val (.long j5), .second, .val (.long j6), .second, .val (.long j7), .second, .val (.long j8), .second, .val (.long j9), .second] []))
  refine own_st (fun t k => XS.aloadN X10.here hx rfl (hb hby own_d2_14) rfl rfl k) ?_
  show own_Run p e below s _ _ _ (T10.setTop (mkF m 15 #[.val (.ref a0_), .val (.ref o1), .val (.int i2), .val (.double d3), .second, .val (.long j4), .second, .val (.long j5), .second, .val (.long j6), .second, .val (.long j7), .second, .val (.long j8), .second, .val (.long j9), .second] [(.ref a0_)]))
  refine own_st (fun t k => XS.dloadN X10.here hx rfl (hb hby own_d2_15) rfl k) ?_
  show own_Run p e below s _ _ _ (T10.setTop (mkF m 16 #[.val (.ref a0_), .val (.ref o1), .val (.int i2), .val (.double d3), .second, .val (.long j4), .second, .val (.long j5), .second, .val (.long j6), .second, .val (.long j7), .second, .val (.long j8), .second, .val (.long j9), .second] [(.double d3), (.ref a0_)]))
  have E13 := (E7.wr W10)
  have F14 : Fld Z _ a0_ "com/example/tunegrid/tunegrid/TuningPolicy$Interval" "seconds" "D" (.double (0 : UInt64)) := D0 (Or.inr (hw _ (List.mem_of_getElem? (i := 27) rfl))) (ty := .double) (by decide)
  have F15 := ((F14.other W4 (Or.inr (slot_ne (Or.inr (hw _ (List.mem_of_getElem? (i := 27) rfl))) (Or.inr (hw _ (List.mem_of_getElem? (i := 23) rfl))) (by decide) (t := .double) (t' := (.object "com/example/tunegrid/tunegrid/Replication$Kind")) (by decide) (by decide)))).other W10 (Or.inr (slot_ne (Or.inr (hw _ (List.mem_of_getElem? (i := 27) rfl))) (Or.inr (hw _ (List.mem_of_getElem? (i := 25) rfl))) (by decide) (t := .double) (t' := .int) (by decide) (by decide))))
  obtain ⟨T16, h16, X16, e16, W16, st16⟩ := putF X10 hx hZ hown (host := "") (Or.inl (hw _ (List.mem_of_getElem? (i := 26) rfl))) Via.refl e10 F15 E13 (Or.inr ⟨(hw _ (List.mem_of_getElem? (i := 27) rfl)), rfl, hnm⟩) (hw _ (List.mem_of_getElem? (i := 9) rfl)) (ty := .double) (by decide) rfl rfl (g := (mkF m 16 #[.val (.ref a0_), .val (.ref o1), .val (.int i2), .val (.double d3), .second, .val (.long j4), .second, .val (.long j5), .second, .val (.long j6), .second, .val (.long j7), .second, .val (.long j8), .second, .val (.long j9), .second] [(.double d3), (.ref a0_)])) rfl rfl (hb hby own_d2_16)
  refine own_st st16 ?_
  have Fw16 := F15.same W16
  have N16 := Fr.snoc X16 N10 G0
  have K17 : Keep h0 h16 [a0_] := K11.wr W16 (Or.inl (List.mem_of_getElem? (i := 0) rfl))
  show own_Run p e below s _ _ _ (T16.setTop (mkF m 19 #[.val (.ref a0_), .val (.ref o1), .val (.int i2), .val (.double d3), .second, .val (.long j4), .second, .val (.long j5), .second, .val (.long j6), .second, .val (.long j7), .second, .val (.long j8), .second, .val (.long j9), .second] []))
  refine own_st (fun t k => XS.aloadN X16.here hx rfl (hb hby own_d2_19) rfl rfl k) ?_
  show own_Run p e below s _ _ _ (T16.setTop (mkF m 20 #[.val (.ref a0_), .val (.ref o1), .val (.int i2), .val (.double d3), .second, .val (.long j4), .second, .val (.long j5), .second, .val (.long j6), .second, .val (.long j7), .second, .val (.long j8), .second, .val (.long j9), .second] [(.ref a0_)]))
  refine own_st (fun t k => XS.lload X16.here hx rfl (hb hby own_d2_20) rfl k) ?_
  show own_Run p e below s _ _ _ (T16.setTop (mkF m 22 #[.val (.ref a0_), .val (.ref o1), .val (.int i2), .val (.double d3), .second, .val (.long j4), .second, .val (.long j5), .second, .val (.long j6), .second, .val (.long j7), .second, .val (.long j8), .second, .val (.long j9), .second] [(.long j4), (.ref a0_)]))
  have E19 := (E13.wr W16)
  have F20 : Fld Z _ a0_ "com/example/tunegrid/tunegrid/TuningPolicy$Interval" "commits" "J" (.long (0 : Int64)) := D0 (Or.inr (hw _ (List.mem_of_getElem? (i := 29) rfl))) (ty := .long) (by decide)
  have F21 := (((F20.other W4 (Or.inr (slot_ne (Or.inr (hw _ (List.mem_of_getElem? (i := 29) rfl))) (Or.inr (hw _ (List.mem_of_getElem? (i := 23) rfl))) (by decide) (t := .long) (t' := (.object "com/example/tunegrid/tunegrid/Replication$Kind")) (by decide) (by decide)))).other W10 (Or.inr (slot_ne (Or.inr (hw _ (List.mem_of_getElem? (i := 29) rfl))) (Or.inr (hw _ (List.mem_of_getElem? (i := 25) rfl))) (by decide) (t := .long) (t' := .int) (by decide) (by decide)))).other W16 (Or.inr (slot_ne (Or.inr (hw _ (List.mem_of_getElem? (i := 29) rfl))) (Or.inr (hw _ (List.mem_of_getElem? (i := 27) rfl))) (by decide) (t := .long) (t' := .double) (by decide) (by decide))))
  obtain ⟨T22, h22, X22, e22, W22, st22⟩ := putF X16 hx hZ hown (host := "") (Or.inl (hw _ (List.mem_of_getElem? (i := 28) rfl))) Via.refl e16 F21 E19 (Or.inr ⟨(hw _ (List.mem_of_getElem? (i := 29) rfl)), rfl, hnm⟩) (hw _ (List.mem_of_getElem? (i := 9) rfl)) (ty := .long) (by decide) rfl rfl (g := (mkF m 22 #[.val (.ref a0_), .val (.ref o1), .val (.int i2), .val (.double d3), .second, .val (.long j4), .second, .val (.long j5), .second, .val (.long j6), .second, .val (.long j7), .second, .val (.long j8), .second, .val (.long j9), .second] [(.long j4), (.ref a0_)])) rfl rfl (hb hby own_d2_22)
  refine own_st st22 ?_
  have Fw22 := F21.same W22
  have N22 := Fr.snoc X22 N16 G0
  have K23 : Keep h0 h22 [a0_] := K17.wr W22 (Or.inl (List.mem_of_getElem? (i := 0) rfl))
  show own_Run p e below s _ _ _ (T22.setTop (mkF m 25 #[.val (.ref a0_), .val (.ref o1), .val (.int i2), .val (.double d3), .second, .val (.long j4), .second, .val (.long j5), .second, .val (.long j6), .second, .val (.long j7), .second, .val (.long j8), .second, .val (.long j9), .second] []))
  refine own_st (fun t k => XS.aloadN X22.here hx rfl (hb hby own_d2_25) rfl rfl k) ?_
  show own_Run p e below s _ _ _ (T22.setTop (mkF m 26 #[.val (.ref a0_), .val (.ref o1), .val (.int i2), .val (.double d3), .second, .val (.long j4), .second, .val (.long j5), .second, .val (.long j6), .second, .val (.long j7), .second, .val (.long j8), .second, .val (.long j9), .second] [(.ref a0_)]))
  refine own_st (fun t k => XS.lload X22.here hx rfl (hb hby own_d2_26) rfl k) ?_
  show own_Run p e below s _ _ _ (T22.setTop (mkF m 28 #[.val (.ref a0_), .val (.ref o1), .val (.int i2), .val (.double d3), .second, .val (.long j4), .second, .val (.long j5), .second, .val (.long j6), .second, .val (.long j7), .second, .val (.long j8), .second, .val (.long j9), .second] [(.long j5), (.ref a0_)]))
  have E25 := (E19.wr W22)
  have F26 : Fld Z _ a0_ "com/example/tunegrid/tunegrid/TuningPolicy$Interval" "readOnly" "J" (.long (0 : Int64)) := D0 (Or.inr (hw _ (List.mem_of_getElem? (i := 31) rfl))) (ty := .long) (by decide)
  have F27 := ((((F26.other W4 (Or.inr (slot_ne (Or.inr (hw _ (List.mem_of_getElem? (i := 31) rfl))) (Or.inr (hw _ (List.mem_of_getElem? (i := 23) rfl))) (by decide) (t := .long) (t' := (.object "com/example/tunegrid/tunegrid/Replication$Kind")) (by decide) (by decide)))).other W10 (Or.inr (slot_ne (Or.inr (hw _ (List.mem_of_getElem? (i := 31) rfl))) (Or.inr (hw _ (List.mem_of_getElem? (i := 25) rfl))) (by decide) (t := .long) (t' := .int) (by decide) (by decide)))).other W16 (Or.inr (slot_ne (Or.inr (hw _ (List.mem_of_getElem? (i := 31) rfl))) (Or.inr (hw _ (List.mem_of_getElem? (i := 27) rfl))) (by decide) (t := .long) (t' := .double) (by decide) (by decide)))).other W22 (Or.inr (slot_ne (Or.inr (hw _ (List.mem_of_getElem? (i := 31) rfl))) (Or.inr (hw _ (List.mem_of_getElem? (i := 29) rfl))) (by decide) (t := .long) (t' := .long) (by decide) (by decide))))
  obtain ⟨T28, h28, X28, e28, W28, st28⟩ := putF X22 hx hZ hown (host := "") (Or.inl (hw _ (List.mem_of_getElem? (i := 30) rfl))) Via.refl e22 F27 E25 (Or.inr ⟨(hw _ (List.mem_of_getElem? (i := 31) rfl)), rfl, hnm⟩) (hw _ (List.mem_of_getElem? (i := 9) rfl)) (ty := .long) (by decide) rfl rfl (g := (mkF m 28 #[.val (.ref a0_), .val (.ref o1), .val (.int i2), .val (.double d3), .second, .val (.long j4), .second, .val (.long j5), .second, .val (.long j6), .second, .val (.long j7), .second, .val (.long j8), .second, .val (.long j9), .second] [(.long j5), (.ref a0_)])) rfl rfl (hb hby own_d2_28)
  refine own_st st28 ?_
  have Fw28 := F27.same W28
  have N28 := Fr.snoc X28 N22 G0
  have K29 : Keep h0 h28 [a0_] := K23.wr W28 (Or.inl (List.mem_of_getElem? (i := 0) rfl))
  show own_Run p e below s _ _ _ (T28.setTop (mkF m 31 #[.val (.ref a0_), .val (.ref o1), .val (.int i2), .val (.double d3), .second, .val (.long j4), .second, .val (.long j5), .second, .val (.long j6), .second, .val (.long j7), .second, .val (.long j8), .second, .val (.long j9), .second] []))
  refine own_st (fun t k => XS.aloadN X28.here hx rfl (hb hby own_d2_31) rfl rfl k) ?_
  show own_Run p e below s _ _ _ (T28.setTop (mkF m 32 #[.val (.ref a0_), .val (.ref o1), .val (.int i2), .val (.double d3), .second, .val (.long j4), .second, .val (.long j5), .second, .val (.long j6), .second, .val (.long j7), .second, .val (.long j8), .second, .val (.long j9), .second] [(.ref a0_)]))
  refine own_st (fun t k => XS.lload X28.here hx rfl (hb hby own_d2_32) rfl k) ?_
  show own_Run p e below s _ _ _ (T28.setTop (mkF m 34 #[.val (.ref a0_), .val (.ref o1), .val (.int i2), .val (.double d3), .second, .val (.long j4), .second, .val (.long j5), .second, .val (.long j6), .second, .val (.long j7), .second, .val (.long j8), .second, .val (.long j9), .second] [(.long j6), (.ref a0_)]))
  have E31 := (E25.wr W28)
  have F32 : Fld Z _ a0_ "com/example/tunegrid/tunegrid/TuningPolicy$Interval" "updates" "J" (.long (0 : Int64)) := D0 (Or.inr (hw _ (List.mem_of_getElem? (i := 33) rfl))) (ty := .long) (by decide)
  have F33 := (((((F32.other W4 (Or.inr (slot_ne (Or.inr (hw _ (List.mem_of_getElem? (i := 33) rfl))) (Or.inr (hw _ (List.mem_of_getElem? (i := 23) rfl))) (by decide) (t := .long) (t' := (.object "com/example/tunegrid/tunegrid/Replication$Kind")) (by decide) (by decide)))).other W10 (Or.inr (slot_ne (Or.inr (hw _ (List.mem_of_getElem? (i := 33) rfl))) (Or.inr (hw _ (List.mem_of_getElem? (i := 25) rfl))) (by decide) (t := .long) (t' := .int) (by decide) (by decide)))).other W16 (Or.inr (slot_ne (Or.inr (hw _ (List.mem_of_getElem? (i := 33) rfl))) (Or.inr (hw _ (List.mem_of_getElem? (i := 27) rfl))) (by decide) (t := .long) (t' := .double) (by decide) (by decide)))).other W22 (Or.inr (slot_ne (Or.inr (hw _ (List.mem_of_getElem? (i := 33) rfl))) (Or.inr (hw _ (List.mem_of_getElem? (i := 29) rfl))) (by decide) (t := .long) (t' := .long) (by decide) (by decide)))).other W28 (Or.inr (slot_ne (Or.inr (hw _ (List.mem_of_getElem? (i := 33) rfl))) (Or.inr (hw _ (List.mem_of_getElem? (i := 31) rfl))) (by decide) (t := .long) (t' := .long) (by decide) (by decide))))
  obtain ⟨T34, h34, X34, e34, W34, st34⟩ := putF X28 hx hZ hown (host := "") (Or.inl (hw _ (List.mem_of_getElem? (i := 32) rfl))) Via.refl e28 F33 E31 (Or.inr ⟨(hw _ (List.mem_of_getElem? (i := 33) rfl)), rfl, hnm⟩) (hw _ (List.mem_of_getElem? (i := 9) rfl)) (ty := .long) (by decide) rfl rfl (g := (mkF m 34 #[.val (.ref a0_), .val (.ref o1), .val (.int i2), .val (.double d3), .second, .val (.long j4), .second, .val (.long j5), .second, .val (.long j6), .second, .val (.long j7), .second, .val (.long j8), .second, .val (.long j9), .second] [(.long j6), (.ref a0_)])) rfl rfl (hb hby own_d2_34)
  refine own_st st34 ?_
  have Fw34 := F33.same W34
  have N34 := Fr.snoc X34 N28 G0
  have K35 : Keep h0 h34 [a0_] := K29.wr W34 (Or.inl (List.mem_of_getElem? (i := 0) rfl))
  show own_Run p e below s _ _ _ (T34.setTop (mkF m 37 #[.val (.ref a0_), .val (.ref o1), .val (.int i2), .val (.double d3), .second, .val (.long j4), .second, .val (.long j5), .second, .val (.long j6), .second, .val (.long j7), .second, .val (.long j8), .second, .val (.long j9), .second] []))
  refine own_st (fun t k => XS.aloadN X34.here hx rfl (hb hby own_d2_37) rfl rfl k) ?_
  show own_Run p e below s _ _ _ (T34.setTop (mkF m 38 #[.val (.ref a0_), .val (.ref o1), .val (.int i2), .val (.double d3), .second, .val (.long j4), .second, .val (.long j5), .second, .val (.long j6), .second, .val (.long j7), .second, .val (.long j8), .second, .val (.long j9), .second] [(.ref a0_)]))
  refine own_st (fun t k => XS.lload X34.here hx rfl (hb hby own_d2_38) rfl k) ?_
  show own_Run p e below s _ _ _ (T34.setTop (mkF m 40 #[.val (.ref a0_), .val (.ref o1), .val (.int i2), .val (.double d3), .second, .val (.long j4), .second, .val (.long j5), .second, .val (.long j6), .second, .val (.long j7), .second, .val (.long j8), .second, .val (.long j9), .second] [(.long j7), (.ref a0_)]))
  have E37 := (E31.wr W34)
  have F38 : Fld Z _ a0_ "com/example/tunegrid/tunegrid/TuningPolicy$Interval" "puts" "J" (.long (0 : Int64)) := D0 (Or.inr (hw _ (List.mem_of_getElem? (i := 35) rfl))) (ty := .long) (by decide)
  have F39 := ((((((F38.other W4 (Or.inr (slot_ne (Or.inr (hw _ (List.mem_of_getElem? (i := 35) rfl))) (Or.inr (hw _ (List.mem_of_getElem? (i := 23) rfl))) (by decide) (t := .long) (t' := (.object "com/example/tunegrid/tunegrid/Replication$Kind")) (by decide) (by decide)))).other W10 (Or.inr (slot_ne (Or.inr (hw _ (List.mem_of_getElem? (i := 35) rfl))) (Or.inr (hw _ (List.mem_of_getElem? (i := 25) rfl))) (by decide) (t := .long) (t' := .int) (by decide) (by decide)))).other W16 (Or.inr (slot_ne (Or.inr (hw _ (List.mem_of_getElem? (i := 35) rfl))) (Or.inr (hw _ (List.mem_of_getElem? (i := 27) rfl))) (by decide) (t := .long) (t' := .double) (by decide) (by decide)))).other W22 (Or.inr (slot_ne (Or.inr (hw _ (List.mem_of_getElem? (i := 35) rfl))) (Or.inr (hw _ (List.mem_of_getElem? (i := 29) rfl))) (by decide) (t := .long) (t' := .long) (by decide) (by decide)))).other W28 (Or.inr (slot_ne (Or.inr (hw _ (List.mem_of_getElem? (i := 35) rfl))) (Or.inr (hw _ (List.mem_of_getElem? (i := 31) rfl))) (by decide) (t := .long) (t' := .long) (by decide) (by decide)))).other W34 (Or.inr (slot_ne (Or.inr (hw _ (List.mem_of_getElem? (i := 35) rfl))) (Or.inr (hw _ (List.mem_of_getElem? (i := 33) rfl))) (by decide) (t := .long) (t' := .long) (by decide) (by decide))))
  obtain ⟨T40, h40, X40, e40, W40, st40⟩ := putF X34 hx hZ hown (host := "") (Or.inl (hw _ (List.mem_of_getElem? (i := 34) rfl))) Via.refl e34 F39 E37 (Or.inr ⟨(hw _ (List.mem_of_getElem? (i := 35) rfl)), rfl, hnm⟩) (hw _ (List.mem_of_getElem? (i := 9) rfl)) (ty := .long) (by decide) rfl rfl (g := (mkF m 40 #[.val (.ref a0_), .val (.ref o1), .val (.int i2), .val (.double d3), .second, .val (.long j4), .second, .val (.long j5), .second, .val (.long j6), .second, .val (.long j7), .second, .val (.long j8), .second, .val (.long j9), .second] [(.long j7), (.ref a0_)])) rfl rfl (hb hby own_d2_40)
  refine own_st st40 ?_
  have Fw40 := F39.same W40
  have N40 := Fr.snoc X40 N34 G0
  have K41 : Keep h0 h40 [a0_] := K35.wr W40 (Or.inl (List.mem_of_getElem? (i := 0) rfl))
  show own_Run p e below s _ _ _ (T40.setTop (mkF m 43 #[.val (.ref a0_), .val (.ref o1), .val (.int i2), .val (.double d3), .second, .val (.long j4), .second, .val (.long j5), .second, .val (.long j6), .second, .val (.long j7), .second, .val (.long j8), .second, .val (.long j9), .second] []))
  refine own_st (fun t k => XS.aloadN X40.here hx rfl (hb hby own_d2_43) rfl rfl k) ?_
  show own_Run p e below s _ _ _ (T40.setTop (mkF m 44 #[.val (.ref a0_), .val (.ref o1), .val (.int i2), .val (.double d3), .second, .val (.long j4), .second, .val (.long j5), .second, .val (.long j6), .second, .val (.long j7), .second, .val (.long j8), .second, .val (.long j9), .second] [(.ref a0_)]))
  refine own_st (fun t k => XS.lload X40.here hx rfl (hb hby own_d2_44) rfl k) ?_
  show own_Run p e below s _ _ _ (T40.setTop (mkF m 46 #[.val (.ref a0_), .val (.ref o1), .val (.int i2), .val (.double d3), .second, .val (.long j4), .second, .val (.long j5), .second, .val (.long j6), .second, .val (.long j7), .second, .val (.long j8), .second, .val (.long j9), .second] [(.long j8), (.ref a0_)]))
  have E43 := (E37.wr W40)
  have F44 : Fld Z _ a0_ "com/example/tunegrid/tunegrid/TuningPolicy$Interval" "claims" "J" (.long (0 : Int64)) := D0 (Or.inr (hw _ (List.mem_of_getElem? (i := 37) rfl))) (ty := .long) (by decide)
  have F45 := (((((((F44.other W4 (Or.inr (slot_ne (Or.inr (hw _ (List.mem_of_getElem? (i := 37) rfl))) (Or.inr (hw _ (List.mem_of_getElem? (i := 23) rfl))) (by decide) (t := .long) (t' := (.object "com/example/tunegrid/tunegrid/Replication$Kind")) (by decide) (by decide)))).other W10 (Or.inr (slot_ne (Or.inr (hw _ (List.mem_of_getElem? (i := 37) rfl))) (Or.inr (hw _ (List.mem_of_getElem? (i := 25) rfl))) (by decide) (t := .long) (t' := .int) (by decide) (by decide)))).other W16 (Or.inr (slot_ne (Or.inr (hw _ (List.mem_of_getElem? (i := 37) rfl))) (Or.inr (hw _ (List.mem_of_getElem? (i := 27) rfl))) (by decide) (t := .long) (t' := .double) (by decide) (by decide)))).other W22 (Or.inr (slot_ne (Or.inr (hw _ (List.mem_of_getElem? (i := 37) rfl))) (Or.inr (hw _ (List.mem_of_getElem? (i := 29) rfl))) (by decide) (t := .long) (t' := .long) (by decide) (by decide)))).other W28 (Or.inr (slot_ne (Or.inr (hw _ (List.mem_of_getElem? (i := 37) rfl))) (Or.inr (hw _ (List.mem_of_getElem? (i := 31) rfl))) (by decide) (t := .long) (t' := .long) (by decide) (by decide)))).other W34 (Or.inr (slot_ne (Or.inr (hw _ (List.mem_of_getElem? (i := 37) rfl))) (Or.inr (hw _ (List.mem_of_getElem? (i := 33) rfl))) (by decide) (t := .long) (t' := .long) (by decide) (by decide)))).other W40 (Or.inr (slot_ne (Or.inr (hw _ (List.mem_of_getElem? (i := 37) rfl))) (Or.inr (hw _ (List.mem_of_getElem? (i := 35) rfl))) (by decide) (t := .long) (t' := .long) (by decide) (by decide))))
  obtain ⟨T46, h46, X46, e46, W46, st46⟩ := putF X40 hx hZ hown (host := "") (Or.inl (hw _ (List.mem_of_getElem? (i := 36) rfl))) Via.refl e40 F45 E43 (Or.inr ⟨(hw _ (List.mem_of_getElem? (i := 37) rfl)), rfl, hnm⟩) (hw _ (List.mem_of_getElem? (i := 9) rfl)) (ty := .long) (by decide) rfl rfl (g := (mkF m 46 #[.val (.ref a0_), .val (.ref o1), .val (.int i2), .val (.double d3), .second, .val (.long j4), .second, .val (.long j5), .second, .val (.long j6), .second, .val (.long j7), .second, .val (.long j8), .second, .val (.long j9), .second] [(.long j8), (.ref a0_)])) rfl rfl (hb hby own_d2_46)
  refine own_st st46 ?_
  have Fw46 := F45.same W46
  have N46 := Fr.snoc X46 N40 G0
  have K47 : Keep h0 h46 [a0_] := K41.wr W46 (Or.inl (List.mem_of_getElem? (i := 0) rfl))
  show own_Run p e below s _ _ _ (T46.setTop (mkF m 49 #[.val (.ref a0_), .val (.ref o1), .val (.int i2), .val (.double d3), .second, .val (.long j4), .second, .val (.long j5), .second, .val (.long j6), .second, .val (.long j7), .second, .val (.long j8), .second, .val (.long j9), .second] []))
  refine own_st (fun t k => XS.aloadN X46.here hx rfl (hb hby own_d2_49) rfl rfl k) ?_
  show own_Run p e below s _ _ _ (T46.setTop (mkF m 50 #[.val (.ref a0_), .val (.ref o1), .val (.int i2), .val (.double d3), .second, .val (.long j4), .second, .val (.long j5), .second, .val (.long j6), .second, .val (.long j7), .second, .val (.long j8), .second, .val (.long j9), .second] [(.ref a0_)]))
  refine own_st (fun t k => XS.lload X46.here hx rfl (hb hby own_d2_50) rfl k) ?_
  show own_Run p e below s _ _ _ (T46.setTop (mkF m 52 #[.val (.ref a0_), .val (.ref o1), .val (.int i2), .val (.double d3), .second, .val (.long j4), .second, .val (.long j5), .second, .val (.long j6), .second, .val (.long j7), .second, .val (.long j8), .second, .val (.long j9), .second] [(.long j9), (.ref a0_)]))
  have E49 := (E43.wr W46)
  have F50 : Fld Z _ a0_ "com/example/tunegrid/tunegrid/TuningPolicy$Interval" "contended" "J" (.long (0 : Int64)) := D0 (Or.inr (hw _ (List.mem_of_getElem? (i := 39) rfl))) (ty := .long) (by decide)
  have F51 := ((((((((F50.other W4 (Or.inr (slot_ne (Or.inr (hw _ (List.mem_of_getElem? (i := 39) rfl))) (Or.inr (hw _ (List.mem_of_getElem? (i := 23) rfl))) (by decide) (t := .long) (t' := (.object "com/example/tunegrid/tunegrid/Replication$Kind")) (by decide) (by decide)))).other W10 (Or.inr (slot_ne (Or.inr (hw _ (List.mem_of_getElem? (i := 39) rfl))) (Or.inr (hw _ (List.mem_of_getElem? (i := 25) rfl))) (by decide) (t := .long) (t' := .int) (by decide) (by decide)))).other W16 (Or.inr (slot_ne (Or.inr (hw _ (List.mem_of_getElem? (i := 39) rfl))) (Or.inr (hw _ (List.mem_of_getElem? (i := 27) rfl))) (by decide) (t := .long) (t' := .double) (by decide) (by decide)))).other W22 (Or.inr (slot_ne (Or.inr (hw _ (List.mem_of_getElem? (i := 39) rfl))) (Or.inr (hw _ (List.mem_of_getElem? (i := 29) rfl))) (by decide) (t := .long) (t' := .long) (by decide) (by decide)))).other W28 (Or.inr (slot_ne (Or.inr (hw _ (List.mem_of_getElem? (i := 39) rfl))) (Or.inr (hw _ (List.mem_of_getElem? (i := 31) rfl))) (by decide) (t := .long) (t' := .long) (by decide) (by decide)))).other W34 (Or.inr (slot_ne (Or.inr (hw _ (List.mem_of_getElem? (i := 39) rfl))) (Or.inr (hw _ (List.mem_of_getElem? (i := 33) rfl))) (by decide) (t := .long) (t' := .long) (by decide) (by decide)))).other W40 (Or.inr (slot_ne (Or.inr (hw _ (List.mem_of_getElem? (i := 39) rfl))) (Or.inr (hw _ (List.mem_of_getElem? (i := 35) rfl))) (by decide) (t := .long) (t' := .long) (by decide) (by decide)))).other W46 (Or.inr (slot_ne (Or.inr (hw _ (List.mem_of_getElem? (i := 39) rfl))) (Or.inr (hw _ (List.mem_of_getElem? (i := 37) rfl))) (by decide) (t := .long) (t' := .long) (by decide) (by decide))))
  obtain ⟨T52, h52, X52, e52, W52, st52⟩ := putF X46 hx hZ hown (host := "") (Or.inl (hw _ (List.mem_of_getElem? (i := 38) rfl))) Via.refl e46 F51 E49 (Or.inr ⟨(hw _ (List.mem_of_getElem? (i := 39) rfl)), rfl, hnm⟩) (hw _ (List.mem_of_getElem? (i := 9) rfl)) (ty := .long) (by decide) rfl rfl (g := (mkF m 52 #[.val (.ref a0_), .val (.ref o1), .val (.int i2), .val (.double d3), .second, .val (.long j4), .second, .val (.long j5), .second, .val (.long j6), .second, .val (.long j7), .second, .val (.long j8), .second, .val (.long j9), .second] [(.long j9), (.ref a0_)])) rfl rfl (hb hby own_d2_52)
  refine own_st st52 ?_
  have Fw52 := F51.same W52
  have N52 := Fr.snoc X52 N46 G0
  have K53 : Keep h0 h52 [a0_] := K47.wr W52 (Or.inl (List.mem_of_getElem? (i := 0) rfl))
  show own_Run p e below s _ _ _ (T52.setTop (mkF m 55 #[.val (.ref a0_), .val (.ref o1), .val (.int i2), .val (.double d3), .second, .val (.long j4), .second, .val (.long j5), .second, .val (.long j6), .second, .val (.long j7), .second, .val (.long j8), .second, .val (.long j9), .second] []))
  have E55 := (E49.wr W52)
  have F56 := (Fw46.other W52 (Or.inr (slot_ne (Or.inr (hw _ (List.mem_of_getElem? (i := 37) rfl))) (Or.inr (hw _ (List.mem_of_getElem? (i := 39) rfl))) (by decide) (t := .long) (t' := .long) (by decide) (by decide))))
  exact own_retV X52 hx hlk hret (hb hby own_d2_55) (by decide) (by decide) (by show own_Q2 Z a0 a0_ o1 i2 d3 j4 j5 j6 j7 j8 j9 h0 n0 _ T52.heap _; rw [e52]; exact ⟨rfl, N52, K53, E55, F56, Fw52⟩)
theorem own_d5_0 : decode prog_87_method_6_code 0 = .ok (.aload_n 0, 1) := by decide +kernel
theorem own_d5_1 : decode prog_87_method_6_code 1 = .ok (.getfield 36, 3) := by decide +kernel
theorem own_d5_4 : decode prog_87_method_6_code 4 = .ok (.lconst 0, 1) := by decide +kernel
theorem own_d5_5 : decode prog_87_method_6_code 5 = .ok (.lcmp, 1) := by decide +kernel
theorem own_d5_6 : decode prog_87_method_6_code 6 = .ok (.ifCond .ne 7, 3) := by decide +kernel
theorem own_d5_9 : decode prog_87_method_6_code 9 = .ok (.dconst 0, 1) := by decide +kernel
theorem own_d5_10 : decode prog_87_method_6_code 10 = .ok (.goto 14, 3) := by decide +kernel
theorem own_d5_24 : decode prog_87_method_6_code 24 = .ok (.dreturn, 1) := by decide +kernel
theorem own_d5_13 : decode prog_87_method_6_code 13 = .ok (.aload_n 0, 1) := by decide +kernel
theorem own_d5_14 : decode prog_87_method_6_code 14 = .ok (.getfield 39, 3) := by decide +kernel
theorem own_d5_17 : decode prog_87_method_6_code 17 = .ok (.l2d, 1) := by decide +kernel
theorem own_d5_18 : decode prog_87_method_6_code 18 = .ok (.aload_n 0, 1) := by decide +kernel
theorem own_d5_19 : decode prog_87_method_6_code 19 = .ok (.getfield 36, 3) := by decide +kernel
theorem own_d5_22 : decode prog_87_method_6_code 22 = .ok (.l2d, 1) := by decide +kernel
theorem own_d5_23 : decode prog_87_method_6_code 23 = .ok (.ddiv, 1) := by decide +kernel
set_option maxHeartbeats 4000000 in
theorem own_ef5 (m : MethodId) (x0 : Addr) : entryFrame m #[(.ref x0)] 1 = mkF m 0 #[.val (.ref x0)] [] := by first | (simp [entryFrame, mkF, argsToLocals, Value.category]; done) | rfl
def own_Q5 (Z : State) (a0 : Array Value) (o0 : Addr) (cl : Int64) (co : Int64) (h0 : Heap) (n0 : Nat) (v : Option Value) (h : Heap) (L : List Loc) : Prop := v = some (.double (if cl = (0 : Int64) then (0 : UInt64) else (FP.ddiv (FP.l2d co) (FP.l2d cl)))) ∧ Fr n0 L ∧ h = h0
set_option maxRecDepth 65536 in
set_option maxHeartbeats 40000000 in
theorem own_rm5 (l : Launch) (Z : State) (a0 : Array Value) (hw : ∀ d ∈ tables_1, d.before a0 Z = true) (ws : List Jvm.Cond) (o0 : Addr) (cl : Int64) (co : Int64) (h0 : Heap) (n0 : Nat) (Z0 : n0 ≤ h0.size) (F_cl : Fld Z h0 o0 "com/example/tunegrid/tunegrid/TuningPolicy$Interval" "claims" "J" (.long cl)) (F_co : Fld Z h0 o0 "com/example/tunegrid/tunegrid/TuningPolicy$Interval" "contended" "J" (.long co)) :
    MetFree l (⟨"com/example/tunegrid/tunegrid/TuningPolicy$Interval", "contention", "()D"⟩ : MethodName) (head1 (Jvm.Cond.code (⟨"com/example/tunegrid/tunegrid/TuningPolicy$Interval", "contention", "()D"⟩ : MethodName) prog_87_method_6_code 1 (some .double) :: ws) ({ frames := 0, cells := 0, slots := 0, locals := 0 } : Room)) (fun a U => a = #[(.ref o0)] ∧ Z.Warmed39 U.vm ∧ U.heap = h0) (fun _ _ _ _ _ => True) (fun _ U o U' => ∃ v L, o = .returned v ∧ own_Q5 Z a0 o0 cl co h0 n0 v U'.heap L ∧ FrameEnd U o U' L ({ frames := 0, cells := 0, slots := 0, locals := 0 } : Room).cells ({ frames := 0, cells := 0, slots := 0, locals := 0 } : Room).slots) := by
  refine own_body (Q := fun v h L => own_Q5 Z a0 o0 cl co h0 n0 v h L) (plainFor_of_name own_pn2) ?_
  intro p e s m below meth c s₁ hx hby hml hZ hown hnm hret hlk X0 e0
  replace hml : c.maxLocals = 1 := hml
  have N0 := Fr.nil n0
  have K0 : Keep h0 h0 [] := Keep.refl _ _
  refine own_st (fun t k => castTop (own_ef5 m o0) k) ?_
  show own_Run p e below s _ _ _ (s₁.setTop (mkF m 0 #[.val (.ref o0)] []))
  refine own_st (fun t k => XS.aloadN X0.here hx rfl (hb hby own_d5_0) rfl rfl k) ?_
  show own_Run p e below s _ _ _ (s₁.setTop (mkF m 1 #[.val (.ref o0)] [(.ref o0)]))
  obtain ⟨T57, X57, e57, st57⟩ := getF X0 hx hZ hown (host := "") (Or.inl (hw _ (List.mem_of_getElem? (i := 36) rfl))) Via.refl e0 F_cl (g := (mkF m 1 #[.val (.ref o0)] [(.ref o0)])) rfl rfl (hb hby own_d5_1)
  refine own_st st57 ?_
  show own_Run p e below s _ _ _ (T57.setTop (mkF m 4 #[.val (.ref o0)] [(.long cl)]))
  refine own_st (fun t k => XS.lconst X57.here hx rfl (hb hby own_d5_4) k) ?_
  show own_Run p e below s _ _ _ (T57.setTop (mkF m 5 #[.val (.ref o0)] [(.long (0 : Int64)), (.long cl)]))
  refine own_st (fun t k => XS.lcmp X57.here hx rfl (hb hby own_d5_5) rfl k) ?_
  show own_Run p e below s _ _ _ (T57.setTop (mkF m 6 #[.val (.ref o0)] [(.int (lcmpW cl (0 : Int64)))]))
  by_cases hA : cl = (0 : Int64)
  · skip
    refine own_st (fun t k => XS.ifNo X57.here hx rfl (hb hby own_d5_6) rfl ((if0 _ _).trans (teq ((lw_eq _ _).mpr hA : (lcmpW cl (0 : Int64)) = (0 : Int32))).2) k) ?_
    show own_Run p e below s _ _ _ (T57.setTop (mkF m 9 #[.val (.ref o0)] []))
    refine own_st (fun t k => XS.dconst0 X57.here hx rfl (hb hby own_d5_9) (v := 0) rfl k) ?_
    show own_Run p e below s _ _ _ (T57.setTop (mkF m 10 #[.val (.ref o0)] [(.double (0 : UInt64))]))
    refine own_st (fun t k => XS.goto X57.here hx rfl (pc0 := 10) (pc' := 24) rfl (hb hby own_d5_10) (by decide) (by decide) k) ?_
    show own_Run p e below s _ _ _ (T57.setTop (mkF m 24 #[.val (.ref o0)] [(.double (0 : UInt64))]))
    exact own_ret X57 hx hlk (t := .double) hret rfl (Or.inr (Or.inr (Or.inl ⟨rfl, rfl, _, rfl⟩))) (hb hby own_d5_24) (by decide) (by decide) ⟨by simp [hA], N0, e57⟩
  · skip
    refine own_st (fun t k => XS.ifYes X57.here hx rfl (pc0 := 6) (pc' := 13) rfl (hb hby own_d5_6) rfl ((if0 _ _).trans (feq (fun z => hA ((lw_eq _ _).mp z) : ¬ ((lcmpW cl (0 : Int64)) = (0 : Int32)))).2) (by decide) (by decide) k) ?_
    show own_Run p e below s _ _ _ (T57.setTop (mkF m 13 #[.val (.ref o0)] []))
    refine own_st (fun t k => XS.aloadN X57.here hx rfl (hb hby own_d5_13) rfl rfl k) ?_
    show own_Run p e below s _ _ _ (T57.setTop (mkF m 14 #[.val (.ref o0)] [(.ref o0)]))
    obtain ⟨T58, X58, e58, st58⟩ := getF X57 hx hZ hown (host := "") (Or.inl (hw _ (List.mem_of_getElem? (i := 38) rfl))) Via.refl e57 F_co (g := (mkF m 14 #[.val (.ref o0)] [(.ref o0)])) rfl rfl (hb hby own_d5_14)
    refine own_st st58 ?_
    show own_Run p e below s _ _ _ (T58.setTop (mkF m 17 #[.val (.ref o0)] [(.long co)]))
    refine own_st (fun t k => XS.l2dS X58.here hx rfl (hb hby own_d5_17) rfl (v := (FP.l2d co)) (rfl) k) ?_
    show own_Run p e below s _ _ _ (T58.setTop (mkF m 18 #[.val (.ref o0)] [(.double (FP.l2d co))]))
    refine own_st (fun t k => XS.aloadN X58.here hx rfl (hb hby own_d5_18) rfl rfl k) ?_
    show own_Run p e below s _ _ _ (T58.setTop (mkF m 19 #[.val (.ref o0)] [(.ref o0), (.double (FP.l2d co))]))
    obtain ⟨T59, X59, e59, st59⟩ := getF X58 hx hZ hown (host := "") (Or.inl (hw _ (List.mem_of_getElem? (i := 36) rfl))) Via.refl e58 F_cl (g := (mkF m 19 #[.val (.ref o0)] [(.ref o0), (.double (FP.l2d co))])) rfl rfl (hb hby own_d5_19)
    refine own_st st59 ?_
    show own_Run p e below s _ _ _ (T59.setTop (mkF m 22 #[.val (.ref o0)] [(.long cl), (.double (FP.l2d co))]))
    refine own_st (fun t k => XS.l2dS X59.here hx rfl (hb hby own_d5_22) rfl (v := (FP.l2d cl)) (rfl) k) ?_
    show own_Run p e below s _ _ _ (T59.setTop (mkF m 23 #[.val (.ref o0)] [(.double (FP.l2d cl)), (.double (FP.l2d co))]))
    refine own_st (fun t k => XS.ddivS X59.here hx rfl (hb hby own_d5_23) rfl (own_l2dnn hA) (v := (FP.ddiv (FP.l2d co) (FP.l2d cl))) (rfl) k) ?_
    show own_Run p e below s _ _ _ (T59.setTop (mkF m 24 #[.val (.ref o0)] [(.double (FP.ddiv (FP.l2d co) (FP.l2d cl)))]))
    exact own_ret X59 hx hlk (t := .double) hret rfl (Or.inr (Or.inr (Or.inl ⟨rfl, rfl, _, rfl⟩))) (hb hby own_d5_24) (by decide) (by decide) ⟨by simp [hA], N0, e59⟩
theorem own_d1_0 : decode method_3_code 0 = .ok (.new 39, 3) := by decide +kernel
theorem own_d1_3 : decode method_3_code 3 = .ok (.dup, 1) := by decide +kernel
theorem own_d1_4 : decode method_3_code 4 = .ok (.aload_n 0, 1) := by decide +kernel
theorem own_d1_5 : decode method_3_code 5 = .ok (.iconst 3, 1) := by decide +kernel
theorem own_d1_6 : decode method_3_code 6 = .ok (.dconst 1, 1) := by decide +kernel
theorem own_d1_7 : decode method_3_code 7 = .ok (.lconst 0, 1) := by decide +kernel
theorem own_d1_8 : decode method_3_code 8 = .ok (.lconst 0, 1) := by decide +kernel
theorem own_d1_9 : decode method_3_code 9 = .ok (.lconst 0, 1) := by decide +kernel
theorem own_d1_10 : decode method_3_code 10 = .ok (.lconst 0, 1) := by decide +kernel
theorem own_d1_11 : decode method_3_code 11 = .ok (.lload_n 3, 1) := by decide +kernel
theorem own_d1_12 : decode method_3_code 12 = .ok (.lload_n 1, 1) := by decide +kernel
theorem own_d1_13 : decode method_3_code 13 = .ok (.invokespecial 41, 3) := by decide +kernel
theorem own_pd3 : parseMethodDescriptor "(Lcom/example/tunegrid/tunegrid/Replication$Kind;IDJJJJJJ)V" = some ⟨[(.object "com/example/tunegrid/tunegrid/Replication$Kind"), .int, .double, .long, .long, .long, .long, .long, .long], none⟩ := by decide +kernel
theorem own_d1_16 : decode method_3_code 16 = .ok (.invokevirtual 44, 3) := by decide +kernel
theorem own_pd4 : parseMethodDescriptor "()D" = some ⟨[], some .double⟩ := by decide +kernel
theorem own_d1_19 : decode method_3_code 19 = .ok (.dreturn, 1) := by decide +kernel
set_option maxHeartbeats 4000000 in
theorem own_ef1 (m : MethodId) (x0 : Addr) (x1 : Int64) (x2 : Int64) : entryFrame m #[(.ref x0), (.long x1), (.long x2)] 5 = mkF m 0 #[.val (.ref x0), .val (.long x1), .second, .val (.long x2), .second] [] := by first | (simp [entryFrame, mkF, argsToLocals, Value.category]; done) | rfl
theorem own_pn5 : plainName "com/example/tunegrid/tunegrid/IntervalContentionPinLaw" = true := by first | (simp [plainName, overriddenIn]; done) | decide +kernel
def own_Q1 (Z : State) (a0 : Array Value) (o0 : Addr) (j1 : Int64) (j2 : Int64) (h0 : Heap) (n0 : Nat) (v : Option Value) (h : Heap) (L : List Loc) : Prop := v = some (.double (if j2 = (0 : Int64) then (0 : UInt64) else (FP.ddiv (FP.l2d j1) (FP.l2d j2)))) ∧ Fr n0 L ∧ Keep h0 h []
set_option maxRecDepth 65536 in
set_option maxHeartbeats 40000000 in
theorem own_rm1 (l : Launch) (Z : State) (a0 : Array Value) (hw : ∀ d ∈ tables_1, d.before a0 Z = true) (ws : List Jvm.Cond) (o0 : Addr) (j1 : Int64) (j2 : Int64) (h0 : Heap) (n0 : Nat) (Z0 : n0 ≤ h0.size) :
    MetFree l (⟨"com/example/tunegrid/tunegrid/IntervalContentionPinLaw", "contention", "(Lcom/example/tunegrid/tunegrid/Replication$Kind;JJ)D"⟩ : MethodName) (head1 (Jvm.Cond.code (⟨"com/example/tunegrid/tunegrid/IntervalContentionPinLaw", "contention", "(Lcom/example/tunegrid/tunegrid/Replication$Kind;JJ)D"⟩ : MethodName) method_3_code 5 (some .double) :: ws) ({ frames := 3, cells := 1, slots := 9, locals := 53 } : Room)) (fun a U => a = #[(.ref o0), (.long j1), (.long j2)] ∧ Z.Warmed39 U.vm ∧ U.heap = h0) (fun _ _ _ _ _ => True) (fun _ U o U' => ∃ v L, o = .returned v ∧ own_Q1 Z a0 o0 j1 j2 h0 n0 v U'.heap L ∧ FrameEnd U o U' L ({ frames := 3, cells := 1, slots := 9, locals := 53 } : Room).cells ({ frames := 3, cells := 1, slots := 9, locals := 53 } : Room).slots) := by
  refine own_body (Q := fun v h L => own_Q1 Z a0 o0 j1 j2 h0 n0 v h L) (plainFor_of_name own_pn5) ?_
  intro p e s m below meth c s₁ hx hby hml hZ hown hnm hret hlk X0 e0
  replace hml : c.maxLocals = 5 := hml
  have N0 := Fr.nil n0
  have K0 : Keep h0 h0 [] := Keep.refl _ _
  refine own_st (fun t k => castTop (own_ef1 m o0 j1 j2) k) ?_
  show own_Run p e below s _ _ _ (s₁.setTop (mkF m 0 #[.val (.ref o0), .val (.long j1), .second, .val (.long j2), .second] []))
  obtain ⟨T60, h60, X60, e60, E60, A60, D60, -, st60⟩ := newO X0 hx hZ hown (hw _ (List.mem_of_getElem? (i := 8) rfl)) (hw _ (List.mem_of_getElem? (i := 9) rfl)) (hw _ (List.mem_of_getElem? (i := 10) rfl)) e0 (g := (mkF m 0 #[.val (.ref o0), .val (.long j1), .second, .val (.long j2), .second] [])) rfl (hb hby own_d1_0) (by decide) (by decide)
  obtain ⟨b60, g60⟩ : ∃ z, z = h0.size := ⟨_, rfl⟩
  rw [← g60] at A60 D60 st60
  have sz61 : h0.size ≤ b60 := Nat.le_trans K0.1 (Nat.le_of_eq g60.symm)
  have ge62 : n0 ≤ b60 := Nat.le_trans Z0 sz61
  refine own_st st60 ?_
  have K63 : Keep h0 h60 [] := K0.ext E60
  show own_Run p e below s _ _ _ (T60.setTop (mkF m 3 #[.val (.ref o0), .val (.long j1), .second, .val (.long j2), .second] [(.ref b60)]))
  refine own_st (fun t k => XS.dup X60.here hx rfl (hb hby own_d1_3) rfl rfl k) ?_
  show own_Run p e below s _ _ _ (T60.setTop (mkF m 4 #[.val (.ref o0), .val (.long j1), .second, .val (.long j2), .second] [(.ref b60), (.ref b60)]))
  refine own_st (fun t k => XS.aloadN X60.here hx rfl (hb hby own_d1_4) rfl rfl k) ?_
  show own_Run p e below s _ _ _ (T60.setTop (mkF m 5 #[.val (.ref o0), .val (.long j1), .second, .val (.long j2), .second] [(.ref o0), (.ref b60), (.ref b60)]))
  refine own_st (fun t k => XS.iconst X60.here hx rfl (hb hby own_d1_5) k) ?_
  show own_Run p e below s _ _ _ (T60.setTop (mkF m 6 #[.val (.ref o0), .val (.long j1), .second, .val (.long j2), .second] [(.int (3 : Int32)), (.ref o0), (.ref b60), (.ref b60)]))
  refine own_st (fun t k => XS.dconst1 X60.here hx rfl (hb hby own_d1_6) (v := 4607182418800017408) rfl k) ?_
  show own_Run p e below s _ _ _ (T60.setTop (mkF m 7 #[.val (.ref o0), .val (.long j1), .second, .val (.long j2), .second] [(.double (4607182418800017408 : UInt64)), (.int (3 : Int32)), (.ref o0), (.ref b60), (.ref b60)]))
  refine own_st (fun t k => XS.lconst X60.here hx rfl (hb hby own_d1_7) k) ?_
  show own_Run p e below s _ _ _ (T60.setTop (mkF m 8 #[.val (.ref o0), .val (.long j1), .second, .val (.long j2), .second] [(.long (0 : Int64)), (.double (4607182418800017408 : UInt64)), (.int (3 : Int32)), (.ref o0), (.ref b60), (.ref b60)]))
  refine own_st (fun t k => XS.lconst X60.here hx rfl (hb hby own_d1_8) k) ?_
  show own_Run p e below s _ _ _ (T60.setTop (mkF m 9 #[.val (.ref o0), .val (.long j1), .second, .val (.long j2), .second] [(.long (0 : Int64)), (.long (0 : Int64)), (.double (4607182418800017408 : UInt64)), (.int (3 : Int32)), (.ref o0), (.ref b60), (.ref b60)]))
  refine own_st (fun t k => XS.lconst X60.here hx rfl (hb hby own_d1_9) k) ?_
  show own_Run p e below s _ _ _ (T60.setTop (mkF m 10 #[.val (.ref o0), .val (.long j1), .second, .val (.long j2), .second] [(.long (0 : Int64)), (.long (0 : Int64)), (.long (0 : Int64)), (.double (4607182418800017408 : UInt64)), (.int (3 : Int32)), (.ref o0), (.ref b60), (.ref b60)]))
  refine own_st (fun t k => XS.lconst X60.here hx rfl (hb hby own_d1_10) k) ?_
  show own_Run p e below s _ _ _ (T60.setTop (mkF m 11 #[.val (.ref o0), .val (.long j1), .second, .val (.long j2), .second] [(.long (0 : Int64)), (.long (0 : Int64)), (.long (0 : Int64)), (.long (0 : Int64)), (.double (4607182418800017408 : UInt64)), (.int (3 : Int32)), (.ref o0), (.ref b60), (.ref b60)]))
  refine own_st (fun t k => XS.lloadN X60.here hx rfl (hb hby own_d1_11) rfl k) ?_
  show own_Run p e below s _ _ _ (T60.setTop (mkF m 12 #[.val (.ref o0), .val (.long j1), .second, .val (.long j2), .second] [(.long j2), (.long (0 : Int64)), (.long (0 : Int64)), (.long (0 : Int64)), (.long (0 : Int64)), (.double (4607182418800017408 : UInt64)), (.int (3 : Int32)), (.ref o0), (.ref b60), (.ref b60)]))
  refine own_st (fun t k => XS.lloadN X60.here hx rfl (hb hby own_d1_12) rfl k) ?_
  show own_Run p e below s _ _ _ (T60.setTop (mkF m 13 #[.val (.ref o0), .val (.long j1), .second, .val (.long j2), .second] [(.long j1), (.long j2), (.long (0 : Int64)), (.long (0 : Int64)), (.long (0 : Int64)), (.long (0 : Int64)), (.double (4607182418800017408 : UInt64)), (.int (3 : Int32)), (.ref o0), (.ref b60), (.ref b60)]))
  refine own_callI X60 hx hZ (y := (⟨"com/example/tunegrid/tunegrid/TuningPolicy$Interval", "<init>", "(Lcom/example/tunegrid/tunegrid/Replication$Kind;IDJJJJJJ)V"⟩ : MethodName)) rfl hown (hw _ (List.mem_of_getElem? (i := 11) rfl)) (hw _ (List.mem_of_getElem? (i := 12) rfl)) (hw _ (List.mem_of_getElem? (i := 13) rfl)) (hw _ (List.mem_of_getElem? (i := 10) rfl)) (by decide) e60 (a := b60) (argsL := [(.ref o0), (.int (3 : Int32)), (.double (4607182418800017408 : UInt64)), (.long (0 : Int64)), (.long (0 : Int64)), (.long (0 : Int64)), (.long (0 : Int64)), (.long j2), (.long j1)]) (rest := [(.ref b60)]) (W := 1) (own_rm2 l Z a0 hw [] b60 o0 (3 : Int32) (4607182418800017408 : UInt64) (0 : Int64) (0 : Int64) (0 : Int64) (0 : Int64) j2 j1 h60 n0 (Nat.le_trans Z0 K63.1) A60 D60 ge62) (by decide) (by decide) (by rw [hml]; rfl) (lenOf own_pd3 rfl) rfl (by exact Nat.le_of_eq rfl) (hb hby own_d1_13) (by decide) (by decide) ?_
  intro T65 v65 L65 X65 hq65
  obtain ⟨rfl, N65q, K65q, Q66, Q67, Q68⟩ := hq65
  have K69 : Keep h0 T65.heap [] := K63.trans K65q (allS (Or.inr sz61) all0)
  have N65 := Fr.app N0 N65q
  show own_Run p e below s _ _ _ (T65.setTop (mkF m 16 #[.val (.ref o0), .val (.long j1), .second, .val (.long j2), .second] [(.ref b60)]))
  refine own_callV X65 hx hZ (y := (⟨"com/example/tunegrid/tunegrid/TuningPolicy$Interval", "contention", "()D"⟩ : MethodName)) (C := "com/example/tunegrid/tunegrid/TuningPolicy$Interval") hown (hw _ (List.mem_of_getElem? (i := 40) rfl)) (hw _ (List.mem_of_getElem? (i := 41) rfl)) (hw _ (List.mem_of_getElem? (i := 43) rfl)) (hw _ (List.mem_of_getElem? (i := 42) rfl)) (hw _ (List.mem_of_getElem? (i := 44) rfl)) (hw _ (List.mem_of_getElem? (i := 10) rfl)) (by decide) rfl (a := b60) Q66 (argsL := []) (rest := []) (W := 0) (own_rm5 l Z a0 hw [] b60 j2 j1 T65.heap n0 (Nat.le_trans Z0 K69.1) Q67 Q68) (by decide) (by decide) (by rw [hml]; rfl) (lenOf own_pd4 rfl) rfl (by exact Nat.le_of_eq rfl) (hb hby own_d1_16) (by decide) (by decide) ?_
  intro T71 v71 L71 X71 hq71
  obtain ⟨rfl, N71q, hh71⟩ := hq71
  have N71 := Fr.app N65 N71q
  show own_Run p e below s _ _ _ (T71.setTop (mkF m 19 #[.val (.ref o0), .val (.long j1), .second, .val (.long j2), .second] [(.double (if j2 = (0 : Int64) then (0 : UInt64) else (FP.ddiv (FP.l2d j1) (FP.l2d j2))))]))
  exact own_ret X71 hx hlk (t := .double) hret rfl (Or.inr (Or.inr (Or.inl ⟨rfl, rfl, _, rfl⟩))) (hb hby own_d1_19) (by decide) (by decide) (by show own_Q1 Z a0 o0 j1 j2 h0 n0 _ T71.heap _; rw [hh71]; exact ⟨rfl, N71, K69⟩)
theorem own_d6_0 : decode jdk_29_method_70_code 0 = .ok (.lload_n 0, 1) := by decide +kernel
theorem own_d6_1 : decode jdk_29_method_70_code 1 = .ok (.lload_n 2, 1) := by decide +kernel
theorem own_d6_2 : decode jdk_29_method_70_code 2 = .ok (.lcmp, 1) := by decide +kernel
theorem own_d6_3 : decode jdk_29_method_70_code 3 = .ok (.ifCond .gt 7, 3) := by decide +kernel
theorem own_d6_10 : decode jdk_29_method_70_code 10 = .ok (.lload_n 2, 1) := by decide +kernel
theorem own_d6_11 : decode jdk_29_method_70_code 11 = .ok (.lreturn, 1) := by decide +kernel
theorem own_d6_6 : decode jdk_29_method_70_code 6 = .ok (.lload_n 0, 1) := by decide +kernel
theorem own_d6_7 : decode jdk_29_method_70_code 7 = .ok (.goto 4, 3) := by decide +kernel
set_option maxHeartbeats 4000000 in
theorem own_ef6 (m : MethodId) (x0 : Int64) (x1 : Int64) : entryFrame m #[(.long x0), (.long x1)] 4 = mkF m 0 #[.val (.long x0), .second, .val (.long x1), .second] [] := by first | (simp [entryFrame, mkF, argsToLocals, Value.category]; done) | rfl
def own_Q6 (Z : State) (a0 : Array Value) (j0 : Int64) (j1 : Int64) (h0 : Heap) (n0 : Nat) (v : Option Value) (h : Heap) (L : List Loc) : Prop := v = some (.long (if j1 < j0 then j1 else j0)) ∧ Fr n0 L ∧ h = h0
set_option maxRecDepth 65536 in
set_option maxHeartbeats 40000000 in
theorem own_rm6 (l : Launch) (Z : State) (a0 : Array Value) (hw : ∀ d ∈ tables_1, d.before a0 Z = true) (ws : List Jvm.Cond) (j0 : Int64) (j1 : Int64) (h0 : Heap) (n0 : Nat) (Z0 : n0 ≤ h0.size) :
    MetFree l (⟨"java/lang/Math", "min", "(JJ)J"⟩ : MethodName) (head1 (Jvm.Cond.code (⟨"java/lang/Math", "min", "(JJ)J"⟩ : MethodName) jdk_29_method_70_code 4 (some .long) :: ws) ({ frames := 0, cells := 0, slots := 0, locals := 0 } : Room)) (fun a U => a = #[(.long j0), (.long j1)] ∧ Z.Warmed39 U.vm ∧ U.heap = h0) (fun _ _ _ _ _ => True) (fun _ U o U' => ∃ v L, o = .returned v ∧ own_Q6 Z a0 j0 j1 h0 n0 v U'.heap L ∧ FrameEnd U o U' L ({ frames := 0, cells := 0, slots := 0, locals := 0 } : Room).cells ({ frames := 0, cells := 0, slots := 0, locals := 0 } : Room).slots) := by
  refine own_body (Q := fun v h L => own_Q6 Z a0 j0 j1 h0 n0 v h L) (Jvm.Free.JP.mathPlain rfl (by decide +kernel)) ?_
  intro p e s m below meth c s₁ hx hby hml hZ hown hnm hret hlk X0 e0
  replace hml : c.maxLocals = 4 := hml
  have N0 := Fr.nil n0
  have K0 : Keep h0 h0 [] := Keep.refl _ _
  refine own_st (fun t k => castTop (own_ef6 m j0 j1) k) ?_
  show own_Run p e below s _ _ _ (s₁.setTop (mkF m 0 #[.val (.long j0), .second, .val (.long j1), .second] []))
  refine own_st (fun t k => XS.lloadN X0.here hx rfl (hb hby own_d6_0) rfl k) ?_
  show own_Run p e below s _ _ _ (s₁.setTop (mkF m 1 #[.val (.long j0), .second, .val (.long j1), .second] [(.long j0)]))
  refine own_st (fun t k => XS.lloadN X0.here hx rfl (hb hby own_d6_1) rfl k) ?_
  show own_Run p e below s _ _ _ (s₁.setTop (mkF m 2 #[.val (.long j0), .second, .val (.long j1), .second] [(.long j1), (.long j0)]))
  refine own_st (fun t k => XS.lcmp X0.here hx rfl (hb hby own_d6_2) rfl k) ?_
  show own_Run p e below s _ _ _ (s₁.setTop (mkF m 3 #[.val (.long j0), .second, .val (.long j1), .second] [(.int (lcmpW j0 j1))]))
  by_cases hA : j1 < j0
  · skip
    refine own_st (fun t k => XS.ifYes X0.here hx rfl (pc0 := 3) (pc' := 10) rfl (hb hby own_d6_3) rfl ((if0 _ _).trans (tlt ((lw_gt _ _).mpr hA : (0 : Int32) < (lcmpW j0 j1))).2.2.1) (by decide) (by decide) k) ?_
    show own_Run p e below s _ _ _ (s₁.setTop (mkF m 10 #[.val (.long j0), .second, .val (.long j1), .second] []))
    refine own_st (fun t k => XS.lloadN X0.here hx rfl (hb hby own_d6_10) rfl k) ?_
    show own_Run p e below s _ _ _ (s₁.setTop (mkF m 11 #[.val (.long j0), .second, .val (.long j1), .second] [(.long j1)]))
    exact own_ret X0 hx hlk (t := .long) hret rfl (Or.inr (Or.inl ⟨rfl, rfl, _, rfl⟩)) (hb hby own_d6_11) (by decide) (by decide) ⟨by simp [hA], N0, e0⟩
  · skip
    refine own_st (fun t k => XS.ifNo X0.here hx rfl (hb hby own_d6_3) rfl ((if0 _ _).trans (flt (fun q => hA ((lw_gt _ _).mp q) : ¬ ((0 : Int32) < (lcmpW j0 j1)))).2.2.1) k) ?_
    show own_Run p e below s _ _ _ (s₁.setTop (mkF m 6 #[.val (.long j0), .second, .val (.long j1), .second] []))
    refine own_st (fun t k => XS.lloadN X0.here hx rfl (hb hby own_d6_6) rfl k) ?_
    show own_Run p e below s _ _ _ (s₁.setTop (mkF m 7 #[.val (.long j0), .second, .val (.long j1), .second] [(.long j0)]))
    refine own_st (fun t k => XS.goto X0.here hx rfl (pc0 := 7) (pc' := 11) rfl (hb hby own_d6_7) (by decide) (by decide) k) ?_
    show own_Run p e below s _ _ _ (s₁.setTop (mkF m 11 #[.val (.long j0), .second, .val (.long j1), .second] [(.long j0)]))
    exact own_ret X0 hx hlk (t := .long) hret rfl (Or.inr (Or.inl ⟨rfl, rfl, _, rfl⟩)) (hb hby own_d6_11) (by decide) (by decide) ⟨by simp [hA], N0, e0⟩
theorem own_pd6 : parseMethodDescriptor "(Lcom/example/tunegrid/tunegrid/Replication$Kind;JJ)D" = some ⟨[(.object "com/example/tunegrid/tunegrid/Replication$Kind"), .long, .long], some .double⟩ := by decide +kernel
theorem own_pd7 : parseMethodDescriptor "(JJ)J" = some ⟨[.long, .long], some .long⟩ := by decide +kernel
set_option maxRecDepth 65536 in
set_option maxHeartbeats 40000000 in
theorem own_tail (l : Launch) (Z : State) (a0 : Array Value) (hw : ∀ d ∈ tables_1, d.before a0 Z = true) {p : Program} {e : Env} {s : State} {m : MethodId} {args : Array Value} {below : List Frame} {meth : Method} {c : Code} (T0 : State) (locs : List Loc) (hx : p.tables.exec = Jvm.exec) (hby : c.code = code) (hml : c.maxLocals = 21) (hZ : Z.Warmed39 s.vm) (hown : s.vm.findClass "com/example/tunegrid/tunegrid/IntervalContentionPinLaw" = some m.cls) (hnm : meth.name = x.name) (hret : meth.sig.returnType = ret) (hlk : meth.locks = false) (j0 : Int64) (j1 : Int64) (i2 : Int32) (i3 : Int32) (i4 : Int32) (md : Int32) (kd : Addr) (nC : Int32) (nK : Int32) (ng : Int32) (qv : Int32) (h0 : Heap) (n0 : Nat) (Z0 : n0 ≤ h0.size) (hs : Heap) (X0 : Stand p l e room_1 s m args below meth c T0 locs 0 0) (e0 : T0.heap = hs) (N0 : Fr n0 locs) (K0 : Keep h0 hs []) (O0 : Old Z n0 hs) (hq : qv.toInt.natAbs ≤ 1048575) (hnC : nC = (0 : Int32) ∨ nC = (1 : Int32)) (hnK : nK = (0 : Int32) ∨ nK = (1 : Int32)) (hng : ng = (if nC = nK then (0 : Int32) else (1 : Int32))) :
    own_Run p e below s (fun v h L => v = some (.int 1) ∧ Fr n0 L) room_1.cells room_1.slots (T0.setTop (mkF m 77 #[.val (.long j0), .second, .val (.long j1), .second, .val (.int i2), .val (.int i3), .val (.int i4), .val (.int md), .val (.ref kd), .val (.int nC), .val (.int nK), .val (.int ng), .val (.int qv), .unset, .unset, .unset, .unset, .unset, .unset, .unset, .unset] [])) := by
  show own_Run p e below s _ _ _ (T0.setTop (mkF m 77 #[.val (.long j0), .second, .val (.long j1), .second, .val (.int i2), .val (.int i3), .val (.int i4), .val (.int md), .val (.ref kd), .val (.int nC), .val (.int nK), .val (.int ng), .val (.int qv), .unset, .unset, .unset, .unset, .unset, .unset, .unset, .unset] []))
  refine own_st (fun t k => XS.iload X0.here hx rfl (hb hby at_77) rfl k) ?_
  show own_Run p e below s _ _ _ (T0.setTop (mkF m 79 #[.val (.long j0), .second, .val (.long j1), .second, .val (.int i2), .val (.int i3), .val (.int i4), .val (.int md), .val (.ref kd), .val (.int nC), .val (.int nK), .val (.int ng), .val (.int qv), .unset, .unset, .unset, .unset, .unset, .unset, .unset, .unset] [(.int md)]))
  by_cases hM0 : md = (0 : Int32)
  · skip
    refine own_st (fun t k => XS.ifNo X0.here hx rfl (hb hby at_79) rfl ((if0 _ _).trans (teq (hM0 : md = (0 : Int32))).2) k) ?_
    show own_Run p e below s _ _ _ (T0.setTop (mkF m 82 #[.val (.long j0), .second, .val (.long j1), .second, .val (.int i2), .val (.int i3), .val (.int i4), .val (.int md), .val (.ref kd), .val (.int nC), .val (.int nK), .val (.int ng), .val (.int qv), .unset, .unset, .unset, .unset, .unset, .unset, .unset, .unset] []))
    refine own_st (fun t k => XS.aload X0.here hx rfl (hb hby at_82) rfl rfl k) ?_
    show own_Run p e below s _ _ _ (T0.setTop (mkF m 84 #[.val (.long j0), .second, .val (.long j1), .second, .val (.int i2), .val (.int i3), .val (.int i4), .val (.int md), .val (.ref kd), .val (.int nC), .val (.int nK), .val (.int ng), .val (.int qv), .unset, .unset, .unset, .unset, .unset, .unset, .unset, .unset] [(.ref kd)]))
    refine own_st (fun t k => XS.lloadN X0.here hx rfl (hb hby at_84) rfl k) ?_
    show own_Run p e below s _ _ _ (T0.setTop (mkF m 85 #[.val (.long j0), .second, .val (.long j1), .second, .val (.int i2), .val (.int i3), .val (.int i4), .val (.int md), .val (.ref kd), .val (.int nC), .val (.int nK), .val (.int ng), .val (.int qv), .unset, .unset, .unset, .unset, .unset, .unset, .unset, .unset] [(.long j0), (.ref kd)]))
    refine own_st (fun t k => XS.lconst X0.here hx rfl (hb hby at_85) k) ?_
    show own_Run p e below s _ _ _ (T0.setTop (mkF m 86 #[.val (.long j0), .second, .val (.long j1), .second, .val (.int i2), .val (.int i3), .val (.int i4), .val (.int md), .val (.ref kd), .val (.int nC), .val (.int nK), .val (.int ng), .val (.int qv), .unset, .unset, .unset, .unset, .unset, .unset, .unset, .unset] [(.long (0 : Int64)), (.long j0), (.ref kd)]))
    refine own_callS X0 hx hZ (y := (⟨"com/example/tunegrid/tunegrid/IntervalContentionPinLaw", "contention", "(Lcom/example/tunegrid/tunegrid/Replication$Kind;JJ)D"⟩ : MethodName)) hown (hw _ (List.mem_of_getElem? (i := 4) rfl)) (hw _ (List.mem_of_getElem? (i := 5) rfl)) (hw _ (List.mem_of_getElem? (i := 7) rfl)) (hw _ (List.mem_of_getElem? (i := 6) rfl)) (by decide) e0 (argsL := [(.ref kd), (.long j0), (.long (0 : Int64))]) (rest := []) (W := 0) (own_rm1 l Z a0 hw [] kd j0 (0 : Int64) hs n0 (Nat.le_trans Z0 K0.1) ) (by decide) (by decide) (by rw [hml]; rfl) (lenOf own_pd6 rfl) rfl (by exact Nat.le_of_eq rfl) (hb hby at_86) (by decide) (by decide) ?_
    intro T72 v72 L72 X72 hq72
    obtain ⟨rfl, N72q, K72q⟩ := hq72
    have K73 : Keep h0 T72.heap [] := K0.trans K72q all0
    have O74 := O0.keep K72q all0
    have N72 := Fr.app N0 N72q
    show own_Run p e below s _ _ _ (T72.setTop (mkF m 89 #[.val (.long j0), .second, .val (.long j1), .second, .val (.int i2), .val (.int i3), .val (.int i4), .val (.int md), .val (.ref kd), .val (.int nC), .val (.int nK), .val (.int ng), .val (.int qv), .unset, .unset, .unset, .unset, .unset, .unset, .unset, .unset] [(.double (if (0 : Int64) = (0 : Int64) then (0 : UInt64) else (FP.ddiv (FP.l2d j0) (FP.l2d (0 : Int64)))))]))
    refine own_topD (if_pos rfl) ?_
    show own_Run p e below s _ _ _ (T72.setTop (mkF m 89 #[.val (.long j0), .second, .val (.long j1), .second, .val (.int i2), .val (.int i3), .val (.int i4), .val (.int md), .val (.ref kd), .val (.int nC), .val (.int nK), .val (.int ng), .val (.int qv), .unset, .unset, .unset, .unset, .unset, .unset, .unset, .unset] [(.double (0 : UInt64))]))
    refine own_st (fun t k => XS.dconst0 X72.here hx rfl (hb hby at_89) (v := 0) rfl k) ?_
    show own_Run p e below s _ _ _ (T72.setTop (mkF m 90 #[.val (.long j0), .second, .val (.long j1), .second, .val (.int i2), .val (.int i3), .val (.int i4), .val (.int md), .val (.ref kd), .val (.int nC), .val (.int nK), .val (.int ng), .val (.int qv), .unset, .unset, .unset, .unset, .unset, .unset, .unset, .unset] [(.double (0 : UInt64)), (.double (0 : UInt64))]))
    refine own_st (fun t k => XS.dcmpS X72.here hx rfl (hb hby at_90) rfl (v := (0 : Int32)) (by decide +kernel) k) ?_
    show own_Run p e below s _ _ _ (T72.setTop (mkF m 91 #[.val (.long j0), .second, .val (.long j1), .second, .val (.int i2), .val (.int i3), .val (.int i4), .val (.int md), .val (.ref kd), .val (.int nC), .val (.int nK), .val (.int ng), .val (.int qv), .unset, .unset, .unset, .unset, .unset, .unset, .unset, .unset] [(.int (0 : Int32))]))
    refine own_st (fun t k => XS.ifNo X72.here hx rfl (hb hby at_91) rfl ((if0 _ _).trans (teq (by decide : (0 : Int32) = (0 : Int32))).2) k) ?_
    show own_Run p e below s _ _ _ (T72.setTop (mkF m 94 #[.val (.long j0), .second, .val (.long j1), .second, .val (.int i2), .val (.int i3), .val (.int i4), .val (.int md), .val (.ref kd), .val (.int nC), .val (.int nK), .val (.int ng), .val (.int qv), .unset, .unset, .unset, .unset, .unset, .unset, .unset, .unset] []))
    refine own_st (fun t k => XS.iconst X72.here hx rfl (hb hby at_94) k) ?_
    show own_Run p e below s _ _ _ (T72.setTop (mkF m 95 #[.val (.long j0), .second, .val (.long j1), .second, .val (.int i2), .val (.int i3), .val (.int i4), .val (.int md), .val (.ref kd), .val (.int nC), .val (.int nK), .val (.int ng), .val (.int qv), .unset, .unset, .unset, .unset, .unset, .unset, .unset, .unset] [(.int (1 : Int32))]))
    refine own_st (fun t k => XS.goto X72.here hx rfl (pc0 := 95) (pc' := 99) rfl (hb hby at_95) (by decide) (by decide) k) ?_
    show own_Run p e below s _ _ _ (T72.setTop (mkF m 99 #[.val (.long j0), .second, .val (.long j1), .second, .val (.int i2), .val (.int i3), .val (.int i4), .val (.int md), .val (.ref kd), .val (.int nC), .val (.int nK), .val (.int ng), .val (.int qv), .unset, .unset, .unset, .unset, .unset, .unset, .unset, .unset] [(.int (1 : Int32))]))
    exact own_ret X72 hx hlk (t := .boolean) hret rfl (Or.inl ⟨rfl, by simp, _, rfl⟩) (hb hby at_99) (by decide) (by decide) ⟨rfl, N72⟩
  · skip
    refine own_st (fun t k => XS.ifYes X0.here hx rfl (pc0 := 79) (pc' := 100) rfl (hb hby at_79) rfl ((if0 _ _).trans (feq (hM0 : ¬ (md = (0 : Int32)))).2) (by decide) (by decide) k) ?_
    show own_Run p e below s _ _ _ (T0.setTop (mkF m 100 #[.val (.long j0), .second, .val (.long j1), .second, .val (.int i2), .val (.int i3), .val (.int i4), .val (.int md), .val (.ref kd), .val (.int nC), .val (.int nK), .val (.int ng), .val (.int qv), .unset, .unset, .unset, .unset, .unset, .unset, .unset, .unset] []))
    refine own_st (fun t k => XS.iload X0.here hx rfl (hb hby at_100) rfl k) ?_
    show own_Run p e below s _ _ _ (T0.setTop (mkF m 102 #[.val (.long j0), .second, .val (.long j1), .second, .val (.int i2), .val (.int i3), .val (.int i4), .val (.int md), .val (.ref kd), .val (.int nC), .val (.int nK), .val (.int ng), .val (.int qv), .unset, .unset, .unset, .unset, .unset, .unset, .unset, .unset] [(.int md)]))
    refine own_st (fun t k => XS.iconst X0.here hx rfl (hb hby at_102) k) ?_
    show own_Run p e below s _ _ _ (T0.setTop (mkF m 103 #[.val (.long j0), .second, .val (.long j1), .second, .val (.int i2), .val (.int i3), .val (.int i4), .val (.int md), .val (.ref kd), .val (.int nC), .val (.int nK), .val (.int ng), .val (.int qv), .unset, .unset, .unset, .unset, .unset, .unset, .unset, .unset] [(.int (1 : Int32)), (.int md)]))
    by_cases hM1 : md = (1 : Int32)
    · skip
      refine own_st (fun t k => XS.icmpNo X0.here hx rfl (hb hby at_103) rfl (teq (hM1 : md = (1 : Int32))).2 k) ?_
      show own_Run p e below s _ _ _ (T0.setTop (mkF m 106 #[.val (.long j0), .second, .val (.long j1), .second, .val (.int i2), .val (.int i3), .val (.int i4), .val (.int md), .val (.ref kd), .val (.int nC), .val (.int nK), .val (.int ng), .val (.int qv), .unset, .unset, .unset, .unset, .unset, .unset, .unset, .unset] []))
      refine own_st (fun t k => XS.lloadN X0.here hx rfl (hb hby at_106) rfl k) ?_
      show own_Run p e below s _ _ _ (T0.setTop (mkF m 107 #[.val (.long j0), .second, .val (.long j1), .second, .val (.int i2), .val (.int i3), .val (.int i4), .val (.int md), .val (.ref kd), .val (.int nC), .val (.int nK), .val (.int ng), .val (.int qv), .unset, .unset, .unset, .unset, .unset, .unset, .unset, .unset] [(.long j0)]))
      refine own_st (fun t k => XS.lconst X0.here hx rfl (hb hby at_107) k) ?_
      show own_Run p e below s _ _ _ (T0.setTop (mkF m 108 #[.val (.long j0), .second, .val (.long j1), .second, .val (.int i2), .val (.int i3), .val (.int i4), .val (.int md), .val (.ref kd), .val (.int nC), .val (.int nK), .val (.int ng), .val (.int qv), .unset, .unset, .unset, .unset, .unset, .unset, .unset, .unset] [(.long (0 : Int64)), (.long j0)]))
      refine own_st (fun t k => XS.lcmp X0.here hx rfl (hb hby at_108) rfl k) ?_
      show own_Run p e below s _ _ _ (T0.setTop (mkF m 109 #[.val (.long j0), .second, .val (.long j1), .second, .val (.int i2), .val (.int i3), .val (.int i4), .val (.int md), .val (.ref kd), .val (.int nC), .val (.int nK), .val (.int ng), .val (.int qv), .unset, .unset, .unset, .unset, .unset, .unset, .unset, .unset] [(.int (lcmpW j0 (0 : Int64)))]))
      by_cases hZ0 : j0 = (0 : Int64)
      · skip
        refine own_st (fun t k => XS.ifNo X0.here hx rfl (hb hby at_109) rfl ((if0 _ _).trans (teq ((lw_eq _ _).mpr hZ0 : (lcmpW j0 (0 : Int64)) = (0 : Int32))).2) k) ?_
        show own_Run p e below s _ _ _ (T0.setTop (mkF m 112 #[.val (.long j0), .second, .val (.long j1), .second, .val (.int i2), .val (.int i3), .val (.int i4), .val (.int md), .val (.ref kd), .val (.int nC), .val (.int nK), .val (.int ng), .val (.int qv), .unset, .unset, .unset, .unset, .unset, .unset, .unset, .unset] []))
        refine own_st (fun t k => XS.lconst X0.here hx rfl (hb hby at_112) k) ?_
        show own_Run p e below s _ _ _ (T0.setTop (mkF m 113 #[.val (.long j0), .second, .val (.long j1), .second, .val (.int i2), .val (.int i3), .val (.int i4), .val (.int md), .val (.ref kd), .val (.int nC), .val (.int nK), .val (.int ng), .val (.int qv), .unset, .unset, .unset, .unset, .unset, .unset, .unset, .unset] [(.long (1 : Int64))]))
        refine own_st (fun t k => XS.goto X0.here hx rfl (pc0 := 113) (pc' := 117) rfl (hb hby at_113) (by decide) (by decide) k) ?_
        show own_Run p e below s _ _ _ (T0.setTop (mkF m 117 #[.val (.long j0), .second, .val (.long j1), .second, .val (.int i2), .val (.int i3), .val (.int i4), .val (.int md), .val (.ref kd), .val (.int nC), .val (.int nK), .val (.int ng), .val (.int qv), .unset, .unset, .unset, .unset, .unset, .unset, .unset, .unset] [(.long (1 : Int64))]))
        refine own_st (fun t k => XS.lstore X0.here hx rfl (hb hby at_117) rfl (l' := #[.val (.long j0), .second, .val (.long j1), .second, .val (.int i2), .val (.int i3), .val (.int i4), .val (.int md), .val (.ref kd), .val (.int nC), .val (.int nK), .val (.int ng), .val (.int qv), .val (.long (1 : Int64)), .second, .unset, .unset, .unset, .unset, .unset, .unset]) rfl k) ?_
        show own_Run p e below s _ _ _ (T0.setTop (mkF m 119 #[.val (.long j0), .second, .val (.long j1), .second, .val (.int i2), .val (.int i3), .val (.int i4), .val (.int md), .val (.ref kd), .val (.int nC), .val (.int nK), .val (.int ng), .val (.int qv), .val (.long (1 : Int64)), .second, .unset, .unset, .unset, .unset, .unset, .unset] []))
        refine own_st (fun t k => XS.aload X0.here hx rfl (hb hby at_119) rfl rfl k) ?_
        show own_Run p e below s _ _ _ (T0.setTop (mkF m 121 #[.val (.long j0), .second, .val (.long j1), .second, .val (.int i2), .val (.int i3), .val (.int i4), .val (.int md), .val (.ref kd), .val (.int nC), .val (.int nK), .val (.int ng), .val (.int qv), .val (.long (1 : Int64)), .second, .unset, .unset, .unset, .unset, .unset, .unset] [(.ref kd)]))
        refine own_st (fun t k => XS.lload X0.here hx rfl (hb hby at_121) rfl k) ?_
        show own_Run p e below s _ _ _ (T0.setTop (mkF m 123 #[.val (.long j0), .second, .val (.long j1), .second, .val (.int i2), .val (.int i3), .val (.int i4), .val (.int md), .val (.ref kd), .val (.int nC), .val (.int nK), .val (.int ng), .val (.int qv), .val (.long (1 : Int64)), .second, .unset, .unset, .unset, .unset, .unset, .unset] [(.long (1 : Int64)), (.ref kd)]))
        refine own_st (fun t k => XS.lload X0.here hx rfl (hb hby at_123) rfl k) ?_
        show own_Run p e below s _ _ _ (T0.setTop (mkF m 125 #[.val (.long j0), .second, .val (.long j1), .second, .val (.int i2), .val (.int i3), .val (.int i4), .val (.int md), .val (.ref kd), .val (.int nC), .val (.int nK), .val (.int ng), .val (.int qv), .val (.long (1 : Int64)), .second, .unset, .unset, .unset, .unset, .unset, .unset] [(.long (1 : Int64)), (.long (1 : Int64)), (.ref kd)]))
        refine own_callS X0 hx hZ (y := (⟨"com/example/tunegrid/tunegrid/IntervalContentionPinLaw", "contention", "(Lcom/example/tunegrid/tunegrid/Replication$Kind;JJ)D"⟩ : MethodName)) hown (hw _ (List.mem_of_getElem? (i := 4) rfl)) (hw _ (List.mem_of_getElem? (i := 5) rfl)) (hw _ (List.mem_of_getElem? (i := 7) rfl)) (hw _ (List.mem_of_getElem? (i := 6) rfl)) (by decide) e0 (argsL := [(.ref kd), (.long (1 : Int64)), (.long (1 : Int64))]) (rest := []) (W := 0) (own_rm1 l Z a0 hw [] kd (1 : Int64) (1 : Int64) hs n0 (Nat.le_trans Z0 K0.1) ) (by decide) (by decide) (by rw [hml]; rfl) (lenOf own_pd6 rfl) rfl (by exact Nat.le_of_eq rfl) (hb hby at_125) (by decide) (by decide) ?_
        intro T75 v75 L75 X75 hq75
        obtain ⟨rfl, N75q, K75q⟩ := hq75
        have K76 : Keep h0 T75.heap [] := K0.trans K75q all0
        have O77 := O0.keep K75q all0
        have N75 := Fr.app N0 N75q
        show own_Run p e below s _ _ _ (T75.setTop (mkF m 128 #[.val (.long j0), .second, .val (.long j1), .second, .val (.int i2), .val (.int i3), .val (.int i4), .val (.int md), .val (.ref kd), .val (.int nC), .val (.int nK), .val (.int ng), .val (.int qv), .val (.long (1 : Int64)), .second, .unset, .unset, .unset, .unset, .unset, .unset] [(.double (if (1 : Int64) = (0 : Int64) then (0 : UInt64) else (FP.ddiv (FP.l2d (1 : Int64)) (FP.l2d (1 : Int64)))))]))
        refine own_topD (own_selfq (by decide)) ?_
        show own_Run p e below s _ _ _ (T75.setTop (mkF m 128 #[.val (.long j0), .second, .val (.long j1), .second, .val (.int i2), .val (.int i3), .val (.int i4), .val (.int md), .val (.ref kd), .val (.int nC), .val (.int nK), .val (.int ng), .val (.int qv), .val (.long (1 : Int64)), .second, .unset, .unset, .unset, .unset, .unset, .unset] [(.double (4607182418800017408 : UInt64))]))
        refine own_st (fun t k => XS.dconst1 X75.here hx rfl (hb hby at_128) (v := 4607182418800017408) rfl k) ?_
        show own_Run p e below s _ _ _ (T75.setTop (mkF m 129 #[.val (.long j0), .second, .val (.long j1), .second, .val (.int i2), .val (.int i3), .val (.int i4), .val (.int md), .val (.ref kd), .val (.int nC), .val (.int nK), .val (.int ng), .val (.int qv), .val (.long (1 : Int64)), .second, .unset, .unset, .unset, .unset, .unset, .unset] [(.double (4607182418800017408 : UInt64)), (.double (4607182418800017408 : UInt64))]))
        refine own_st (fun t k => XS.dcmpS X75.here hx rfl (hb hby at_129) rfl (v := (0 : Int32)) (by decide +kernel) k) ?_
        show own_Run p e below s _ _ _ (T75.setTop (mkF m 130 #[.val (.long j0), .second, .val (.long j1), .second, .val (.int i2), .val (.int i3), .val (.int i4), .val (.int md), .val (.ref kd), .val (.int nC), .val (.int nK), .val (.int ng), .val (.int qv), .val (.long (1 : Int64)), .second, .unset, .unset, .unset, .unset, .unset, .unset] [(.int (0 : Int32))]))
        refine own_st (fun t k => XS.ifNo X75.here hx rfl (hb hby at_130) rfl ((if0 _ _).trans (teq (by decide : (0 : Int32) = (0 : Int32))).2) k) ?_
        show own_Run p e below s _ _ _ (T75.setTop (mkF m 133 #[.val (.long j0), .second, .val (.long j1), .second, .val (.int i2), .val (.int i3), .val (.int i4), .val (.int md), .val (.ref kd), .val (.int nC), .val (.int nK), .val (.int ng), .val (.int qv), .val (.long (1 : Int64)), .second, .unset, .unset, .unset, .unset, .unset, .unset] []))
        refine own_st (fun t k => XS.iconst X75.here hx rfl (hb hby at_133) k) ?_
        show own_Run p e below s _ _ _ (T75.setTop (mkF m 134 #[.val (.long j0), .second, .val (.long j1), .second, .val (.int i2), .val (.int i3), .val (.int i4), .val (.int md), .val (.ref kd), .val (.int nC), .val (.int nK), .val (.int ng), .val (.int qv), .val (.long (1 : Int64)), .second, .unset, .unset, .unset, .unset, .unset, .unset] [(.int (1 : Int32))]))
        refine own_st (fun t k => XS.goto X75.here hx rfl (pc0 := 134) (pc' := 138) rfl (hb hby at_134) (by decide) (by decide) k) ?_
        show own_Run p e below s _ _ _ (T75.setTop (mkF m 138 #[.val (.long j0), .second, .val (.long j1), .second, .val (.int i2), .val (.int i3), .val (.int i4), .val (.int md), .val (.ref kd), .val (.int nC), .val (.int nK), .val (.int ng), .val (.int qv), .val (.long (1 : Int64)), .second, .unset, .unset, .unset, .unset, .unset, .unset] [(.int (1 : Int32))]))
        exact own_ret X75 hx hlk (t := .boolean) hret rfl (Or.inl ⟨rfl, by simp, _, rfl⟩) (hb hby at_138) (by decide) (by decide) ⟨rfl, N75⟩
      · skip
        refine own_st (fun t k => XS.ifYes X0.here hx rfl (pc0 := 109) (pc' := 116) rfl (hb hby at_109) rfl ((if0 _ _).trans (feq (fun z => hZ0 ((lw_eq _ _).mp z) : ¬ ((lcmpW j0 (0 : Int64)) = (0 : Int32)))).2) (by decide) (by decide) k) ?_
        show own_Run p e below s _ _ _ (T0.setTop (mkF m 116 #[.val (.long j0), .second, .val (.long j1), .second, .val (.int i2), .val (.int i3), .val (.int i4), .val (.int md), .val (.ref kd), .val (.int nC), .val (.int nK), .val (.int ng), .val (.int qv), .unset, .unset, .unset, .unset, .unset, .unset, .unset, .unset] []))
        refine own_st (fun t k => XS.lloadN X0.here hx rfl (hb hby at_116) rfl k) ?_
        show own_Run p e below s _ _ _ (T0.setTop (mkF m 117 #[.val (.long j0), .second, .val (.long j1), .second, .val (.int i2), .val (.int i3), .val (.int i4), .val (.int md), .val (.ref kd), .val (.int nC), .val (.int nK), .val (.int ng), .val (.int qv), .unset, .unset, .unset, .unset, .unset, .unset, .unset, .unset] [(.long j0)]))
        refine own_st (fun t k => XS.lstore X0.here hx rfl (hb hby at_117) rfl (l' := #[.val (.long j0), .second, .val (.long j1), .second, .val (.int i2), .val (.int i3), .val (.int i4), .val (.int md), .val (.ref kd), .val (.int nC), .val (.int nK), .val (.int ng), .val (.int qv), .val (.long j0), .second, .unset, .unset, .unset, .unset, .unset, .unset]) rfl k) ?_
        show own_Run p e below s _ _ _ (T0.setTop (mkF m 119 #[.val (.long j0), .second, .val (.long j1), .second, .val (.int i2), .val (.int i3), .val (.int i4), .val (.int md), .val (.ref kd), .val (.int nC), .val (.int nK), .val (.int ng), .val (.int qv), .val (.long j0), .second, .unset, .unset, .unset, .unset, .unset, .unset] []))
        refine own_st (fun t k => XS.aload X0.here hx rfl (hb hby at_119) rfl rfl k) ?_
        show own_Run p e below s _ _ _ (T0.setTop (mkF m 121 #[.val (.long j0), .second, .val (.long j1), .second, .val (.int i2), .val (.int i3), .val (.int i4), .val (.int md), .val (.ref kd), .val (.int nC), .val (.int nK), .val (.int ng), .val (.int qv), .val (.long j0), .second, .unset, .unset, .unset, .unset, .unset, .unset] [(.ref kd)]))
        refine own_st (fun t k => XS.lload X0.here hx rfl (hb hby at_121) rfl k) ?_
        show own_Run p e below s _ _ _ (T0.setTop (mkF m 123 #[.val (.long j0), .second, .val (.long j1), .second, .val (.int i2), .val (.int i3), .val (.int i4), .val (.int md), .val (.ref kd), .val (.int nC), .val (.int nK), .val (.int ng), .val (.int qv), .val (.long j0), .second, .unset, .unset, .unset, .unset, .unset, .unset] [(.long j0), (.ref kd)]))
        refine own_st (fun t k => XS.lload X0.here hx rfl (hb hby at_123) rfl k) ?_
        show own_Run p e below s _ _ _ (T0.setTop (mkF m 125 #[.val (.long j0), .second, .val (.long j1), .second, .val (.int i2), .val (.int i3), .val (.int i4), .val (.int md), .val (.ref kd), .val (.int nC), .val (.int nK), .val (.int ng), .val (.int qv), .val (.long j0), .second, .unset, .unset, .unset, .unset, .unset, .unset] [(.long j0), (.long j0), (.ref kd)]))
        refine own_callS X0 hx hZ (y := (⟨"com/example/tunegrid/tunegrid/IntervalContentionPinLaw", "contention", "(Lcom/example/tunegrid/tunegrid/Replication$Kind;JJ)D"⟩ : MethodName)) hown (hw _ (List.mem_of_getElem? (i := 4) rfl)) (hw _ (List.mem_of_getElem? (i := 5) rfl)) (hw _ (List.mem_of_getElem? (i := 7) rfl)) (hw _ (List.mem_of_getElem? (i := 6) rfl)) (by decide) e0 (argsL := [(.ref kd), (.long j0), (.long j0)]) (rest := []) (W := 0) (own_rm1 l Z a0 hw [] kd j0 j0 hs n0 (Nat.le_trans Z0 K0.1) ) (by decide) (by decide) (by rw [hml]; rfl) (lenOf own_pd6 rfl) rfl (by exact Nat.le_of_eq rfl) (hb hby at_125) (by decide) (by decide) ?_
        intro T78 v78 L78 X78 hq78
        obtain ⟨rfl, N78q, K78q⟩ := hq78
        have K79 : Keep h0 T78.heap [] := K0.trans K78q all0
        have O80 := O0.keep K78q all0
        have N78 := Fr.app N0 N78q
        show own_Run p e below s _ _ _ (T78.setTop (mkF m 128 #[.val (.long j0), .second, .val (.long j1), .second, .val (.int i2), .val (.int i3), .val (.int i4), .val (.int md), .val (.ref kd), .val (.int nC), .val (.int nK), .val (.int ng), .val (.int qv), .val (.long j0), .second, .unset, .unset, .unset, .unset, .unset, .unset] [(.double (if j0 = (0 : Int64) then (0 : UInt64) else (FP.ddiv (FP.l2d j0) (FP.l2d j0))))]))
        refine own_topD (own_selfq hZ0) ?_
        show own_Run p e below s _ _ _ (T78.setTop (mkF m 128 #[.val (.long j0), .second, .val (.long j1), .second, .val (.int i2), .val (.int i3), .val (.int i4), .val (.int md), .val (.ref kd), .val (.int nC), .val (.int nK), .val (.int ng), .val (.int qv), .val (.long j0), .second, .unset, .unset, .unset, .unset, .unset, .unset] [(.double (4607182418800017408 : UInt64))]))
        refine own_st (fun t k => XS.dconst1 X78.here hx rfl (hb hby at_128) (v := 4607182418800017408) rfl k) ?_
        show own_Run p e below s _ _ _ (T78.setTop (mkF m 129 #[.val (.long j0), .second, .val (.long j1), .second, .val (.int i2), .val (.int i3), .val (.int i4), .val (.int md), .val (.ref kd), .val (.int nC), .val (.int nK), .val (.int ng), .val (.int qv), .val (.long j0), .second, .unset, .unset, .unset, .unset, .unset, .unset] [(.double (4607182418800017408 : UInt64)), (.double (4607182418800017408 : UInt64))]))
        refine own_st (fun t k => XS.dcmpS X78.here hx rfl (hb hby at_129) rfl (v := (0 : Int32)) (by decide +kernel) k) ?_
        show own_Run p e below s _ _ _ (T78.setTop (mkF m 130 #[.val (.long j0), .second, .val (.long j1), .second, .val (.int i2), .val (.int i3), .val (.int i4), .val (.int md), .val (.ref kd), .val (.int nC), .val (.int nK), .val (.int ng), .val (.int qv), .val (.long j0), .second, .unset, .unset, .unset, .unset, .unset, .unset] [(.int (0 : Int32))]))
        refine own_st (fun t k => XS.ifNo X78.here hx rfl (hb hby at_130) rfl ((if0 _ _).trans (teq (by decide : (0 : Int32) = (0 : Int32))).2) k) ?_
        show own_Run p e below s _ _ _ (T78.setTop (mkF m 133 #[.val (.long j0), .second, .val (.long j1), .second, .val (.int i2), .val (.int i3), .val (.int i4), .val (.int md), .val (.ref kd), .val (.int nC), .val (.int nK), .val (.int ng), .val (.int qv), .val (.long j0), .second, .unset, .unset, .unset, .unset, .unset, .unset] []))
        refine own_st (fun t k => XS.iconst X78.here hx rfl (hb hby at_133) k) ?_
        show own_Run p e below s _ _ _ (T78.setTop (mkF m 134 #[.val (.long j0), .second, .val (.long j1), .second, .val (.int i2), .val (.int i3), .val (.int i4), .val (.int md), .val (.ref kd), .val (.int nC), .val (.int nK), .val (.int ng), .val (.int qv), .val (.long j0), .second, .unset, .unset, .unset, .unset, .unset, .unset] [(.int (1 : Int32))]))
        refine own_st (fun t k => XS.goto X78.here hx rfl (pc0 := 134) (pc' := 138) rfl (hb hby at_134) (by decide) (by decide) k) ?_
        show own_Run p e below s _ _ _ (T78.setTop (mkF m 138 #[.val (.long j0), .second, .val (.long j1), .second, .val (.int i2), .val (.int i3), .val (.int i4), .val (.int md), .val (.ref kd), .val (.int nC), .val (.int nK), .val (.int ng), .val (.int qv), .val (.long j0), .second, .unset, .unset, .unset, .unset, .unset, .unset] [(.int (1 : Int32))]))
        exact own_ret X78 hx hlk (t := .boolean) hret rfl (Or.inl ⟨rfl, by simp, _, rfl⟩) (hb hby at_138) (by decide) (by decide) ⟨rfl, N78⟩
    · skip
      refine own_st (fun t k => XS.icmpYes X0.here hx rfl (pc0 := 103) (pc' := 139) rfl (hb hby at_103) rfl (feq (hM1 : ¬ (md = (1 : Int32)))).2 (by decide) (by decide) k) ?_
      show own_Run p e below s _ _ _ (T0.setTop (mkF m 139 #[.val (.long j0), .second, .val (.long j1), .second, .val (.int i2), .val (.int i3), .val (.int i4), .val (.int md), .val (.ref kd), .val (.int nC), .val (.int nK), .val (.int ng), .val (.int qv), .unset, .unset, .unset, .unset, .unset, .unset, .unset, .unset] []))
      refine own_st (fun t k => XS.iload X0.here hx rfl (hb hby at_139) rfl k) ?_
      show own_Run p e below s _ _ _ (T0.setTop (mkF m 141 #[.val (.long j0), .second, .val (.long j1), .second, .val (.int i2), .val (.int i3), .val (.int i4), .val (.int md), .val (.ref kd), .val (.int nC), .val (.int nK), .val (.int ng), .val (.int qv), .unset, .unset, .unset, .unset, .unset, .unset, .unset, .unset] [(.int md)]))
      refine own_st (fun t k => XS.iconst X0.here hx rfl (hb hby at_141) k) ?_
      show own_Run p e below s _ _ _ (T0.setTop (mkF m 142 #[.val (.long j0), .second, .val (.long j1), .second, .val (.int i2), .val (.int i3), .val (.int i4), .val (.int md), .val (.ref kd), .val (.int nC), .val (.int nK), .val (.int ng), .val (.int qv), .unset, .unset, .unset, .unset, .unset, .unset, .unset, .unset] [(.int (2 : Int32)), (.int md)]))
      by_cases hM2 : md = (2 : Int32)
      · skip
        refine own_st (fun t k => XS.icmpNo X0.here hx rfl (hb hby at_142) rfl (teq (hM2 : md = (2 : Int32))).2 k) ?_
        show own_Run p e below s _ _ _ (T0.setTop (mkF m 145 #[.val (.long j0), .second, .val (.long j1), .second, .val (.int i2), .val (.int i3), .val (.int i4), .val (.int md), .val (.ref kd), .val (.int nC), .val (.int nK), .val (.int ng), .val (.int qv), .unset, .unset, .unset, .unset, .unset, .unset, .unset, .unset] []))
        refine own_st (fun t k => XS.lloadN X0.here hx rfl (hb hby at_145) rfl k) ?_
        show own_Run p e below s _ _ _ (T0.setTop (mkF m 146 #[.val (.long j0), .second, .val (.long j1), .second, .val (.int i2), .val (.int i3), .val (.int i4), .val (.int md), .val (.ref kd), .val (.int nC), .val (.int nK), .val (.int ng), .val (.int qv), .unset, .unset, .unset, .unset, .unset, .unset, .unset, .unset] [(.long j0)]))
        refine own_st (fun t k => XS.lconst X0.here hx rfl (hb hby at_146) k) ?_
        show own_Run p e below s _ _ _ (T0.setTop (mkF m 147 #[.val (.long j0), .second, .val (.long j1), .second, .val (.int i2), .val (.int i3), .val (.int i4), .val (.int md), .val (.ref kd), .val (.int nC), .val (.int nK), .val (.int ng), .val (.int qv), .unset, .unset, .unset, .unset, .unset, .unset, .unset, .unset] [(.long (0 : Int64)), (.long j0)]))
        refine own_st (fun t k => XS.lcmp X0.here hx rfl (hb hby at_147) rfl k) ?_
        show own_Run p e below s _ _ _ (T0.setTop (mkF m 148 #[.val (.long j0), .second, .val (.long j1), .second, .val (.int i2), .val (.int i3), .val (.int i4), .val (.int md), .val (.ref kd), .val (.int nC), .val (.int nK), .val (.int ng), .val (.int qv), .unset, .unset, .unset, .unset, .unset, .unset, .unset, .unset] [(.int (lcmpW j0 (0 : Int64)))]))
        by_cases hZ0 : j0 = (0 : Int64)
        · skip
          refine own_st (fun t k => XS.ifNo X0.here hx rfl (hb hby at_148) rfl ((if0 _ _).trans (teq ((lw_eq _ _).mpr hZ0 : (lcmpW j0 (0 : Int64)) = (0 : Int32))).2) k) ?_
          show own_Run p e below s _ _ _ (T0.setTop (mkF m 151 #[.val (.long j0), .second, .val (.long j1), .second, .val (.int i2), .val (.int i3), .val (.int i4), .val (.int md), .val (.ref kd), .val (.int nC), .val (.int nK), .val (.int ng), .val (.int qv), .unset, .unset, .unset, .unset, .unset, .unset, .unset, .unset] []))
          refine own_st (fun t k => XS.lconst X0.here hx rfl (hb hby at_151) k) ?_
          show own_Run p e below s _ _ _ (T0.setTop (mkF m 152 #[.val (.long j0), .second, .val (.long j1), .second, .val (.int i2), .val (.int i3), .val (.int i4), .val (.int md), .val (.ref kd), .val (.int nC), .val (.int nK), .val (.int ng), .val (.int qv), .unset, .unset, .unset, .unset, .unset, .unset, .unset, .unset] [(.long (1 : Int64))]))
          refine own_st (fun t k => XS.goto X0.here hx rfl (pc0 := 152) (pc' := 156) rfl (hb hby at_152) (by decide) (by decide) k) ?_
          show own_Run p e below s _ _ _ (T0.setTop (mkF m 156 #[.val (.long j0), .second, .val (.long j1), .second, .val (.int i2), .val (.int i3), .val (.int i4), .val (.int md), .val (.ref kd), .val (.int nC), .val (.int nK), .val (.int ng), .val (.int qv), .unset, .unset, .unset, .unset, .unset, .unset, .unset, .unset] [(.long (1 : Int64))]))
          refine own_st (fun t k => XS.lstore X0.here hx rfl (hb hby at_156) rfl (l' := #[.val (.long j0), .second, .val (.long j1), .second, .val (.int i2), .val (.int i3), .val (.int i4), .val (.int md), .val (.ref kd), .val (.int nC), .val (.int nK), .val (.int ng), .val (.int qv), .val (.long (1 : Int64)), .second, .unset, .unset, .unset, .unset, .unset, .unset]) rfl k) ?_
          show own_Run p e below s _ _ _ (T0.setTop (mkF m 158 #[.val (.long j0), .second, .val (.long j1), .second, .val (.int i2), .val (.int i3), .val (.int i4), .val (.int md), .val (.ref kd), .val (.int nC), .val (.int nK), .val (.int ng), .val (.int qv), .val (.long (1 : Int64)), .second, .unset, .unset, .unset, .unset, .unset, .unset] []))
          refine own_st (fun t k => XS.aload X0.here hx rfl (hb hby at_158) rfl rfl k) ?_
          show own_Run p e below s _ _ _ (T0.setTop (mkF m 160 #[.val (.long j0), .second, .val (.long j1), .second, .val (.int i2), .val (.int i3), .val (.int i4), .val (.int md), .val (.ref kd), .val (.int nC), .val (.int nK), .val (.int ng), .val (.int qv), .val (.long (1 : Int64)), .second, .unset, .unset, .unset, .unset, .unset, .unset] [(.ref kd)]))
          refine own_st (fun t k => XS.lconst X0.here hx rfl (hb hby at_160) k) ?_
          show own_Run p e below s _ _ _ (T0.setTop (mkF m 161 #[.val (.long j0), .second, .val (.long j1), .second, .val (.int i2), .val (.int i3), .val (.int i4), .val (.int md), .val (.ref kd), .val (.int nC), .val (.int nK), .val (.int ng), .val (.int qv), .val (.long (1 : Int64)), .second, .unset, .unset, .unset, .unset, .unset, .unset] [(.long (0 : Int64)), (.ref kd)]))
          refine own_st (fun t k => XS.lload X0.here hx rfl (hb hby at_161) rfl k) ?_
          show own_Run p e below s _ _ _ (T0.setTop (mkF m 163 #[.val (.long j0), .second, .val (.long j1), .second, .val (.int i2), .val (.int i3), .val (.int i4), .val (.int md), .val (.ref kd), .val (.int nC), .val (.int nK), .val (.int ng), .val (.int qv), .val (.long (1 : Int64)), .second, .unset, .unset, .unset, .unset, .unset, .unset] [(.long (1 : Int64)), (.long (0 : Int64)), (.ref kd)]))
          refine own_callS X0 hx hZ (y := (⟨"com/example/tunegrid/tunegrid/IntervalContentionPinLaw", "contention", "(Lcom/example/tunegrid/tunegrid/Replication$Kind;JJ)D"⟩ : MethodName)) hown (hw _ (List.mem_of_getElem? (i := 4) rfl)) (hw _ (List.mem_of_getElem? (i := 5) rfl)) (hw _ (List.mem_of_getElem? (i := 7) rfl)) (hw _ (List.mem_of_getElem? (i := 6) rfl)) (by decide) e0 (argsL := [(.ref kd), (.long (0 : Int64)), (.long (1 : Int64))]) (rest := []) (W := 0) (own_rm1 l Z a0 hw [] kd (0 : Int64) (1 : Int64) hs n0 (Nat.le_trans Z0 K0.1) ) (by decide) (by decide) (by rw [hml]; rfl) (lenOf own_pd6 rfl) rfl (by exact Nat.le_of_eq rfl) (hb hby at_163) (by decide) (by decide) ?_
          intro T81 v81 L81 X81 hq81
          obtain ⟨rfl, N81q, K81q⟩ := hq81
          have K82 : Keep h0 T81.heap [] := K0.trans K81q all0
          have O83 := O0.keep K81q all0
          have N81 := Fr.app N0 N81q
          show own_Run p e below s _ _ _ (T81.setTop (mkF m 166 #[.val (.long j0), .second, .val (.long j1), .second, .val (.int i2), .val (.int i3), .val (.int i4), .val (.int md), .val (.ref kd), .val (.int nC), .val (.int nK), .val (.int ng), .val (.int qv), .val (.long (1 : Int64)), .second, .unset, .unset, .unset, .unset, .unset, .unset] [(.double (if (1 : Int64) = (0 : Int64) then (0 : UInt64) else (FP.ddiv (FP.l2d (0 : Int64)) (FP.l2d (1 : Int64)))))]))
          refine own_st (fun t k => XS.dconst0 X81.here hx rfl (hb hby at_166) (v := 0) rfl k) ?_
          show own_Run p e below s _ _ _ (T81.setTop (mkF m 167 #[.val (.long j0), .second, .val (.long j1), .second, .val (.int i2), .val (.int i3), .val (.int i4), .val (.int md), .val (.ref kd), .val (.int nC), .val (.int nK), .val (.int ng), .val (.int qv), .val (.long (1 : Int64)), .second, .unset, .unset, .unset, .unset, .unset, .unset] [(.double (0 : UInt64)), (.double (if (1 : Int64) = (0 : Int64) then (0 : UInt64) else (FP.ddiv (FP.l2d (0 : Int64)) (FP.l2d (1 : Int64)))))]))
          refine own_st (fun t k => XS.dcmpS X81.here hx rfl (hb hby at_167) rfl (v := (0 : Int32)) (own_zeroq (by decide) _) k) ?_
          show own_Run p e below s _ _ _ (T81.setTop (mkF m 168 #[.val (.long j0), .second, .val (.long j1), .second, .val (.int i2), .val (.int i3), .val (.int i4), .val (.int md), .val (.ref kd), .val (.int nC), .val (.int nK), .val (.int ng), .val (.int qv), .val (.long (1 : Int64)), .second, .unset, .unset, .unset, .unset, .unset, .unset] [(.int (0 : Int32))]))
          refine own_st (fun t k => XS.ifNo X81.here hx rfl (hb hby at_168) rfl ((if0 _ _).trans (teq (by decide : (0 : Int32) = (0 : Int32))).2) k) ?_
          show own_Run p e below s _ _ _ (T81.setTop (mkF m 171 #[.val (.long j0), .second, .val (.long j1), .second, .val (.int i2), .val (.int i3), .val (.int i4), .val (.int md), .val (.ref kd), .val (.int nC), .val (.int nK), .val (.int ng), .val (.int qv), .val (.long (1 : Int64)), .second, .unset, .unset, .unset, .unset, .unset, .unset] []))
          refine own_st (fun t k => XS.iconst X81.here hx rfl (hb hby at_171) k) ?_
          show own_Run p e below s _ _ _ (T81.setTop (mkF m 172 #[.val (.long j0), .second, .val (.long j1), .second, .val (.int i2), .val (.int i3), .val (.int i4), .val (.int md), .val (.ref kd), .val (.int nC), .val (.int nK), .val (.int ng), .val (.int qv), .val (.long (1 : Int64)), .second, .unset, .unset, .unset, .unset, .unset, .unset] [(.int (1 : Int32))]))
          refine own_st (fun t k => XS.goto X81.here hx rfl (pc0 := 172) (pc' := 176) rfl (hb hby at_172) (by decide) (by decide) k) ?_
          show own_Run p e below s _ _ _ (T81.setTop (mkF m 176 #[.val (.long j0), .second, .val (.long j1), .second, .val (.int i2), .val (.int i3), .val (.int i4), .val (.int md), .val (.ref kd), .val (.int nC), .val (.int nK), .val (.int ng), .val (.int qv), .val (.long (1 : Int64)), .second, .unset, .unset, .unset, .unset, .unset, .unset] [(.int (1 : Int32))]))
          exact own_ret X81 hx hlk (t := .boolean) hret rfl (Or.inl ⟨rfl, by simp, _, rfl⟩) (hb hby at_176) (by decide) (by decide) ⟨rfl, N81⟩
        · skip
          refine own_st (fun t k => XS.ifYes X0.here hx rfl (pc0 := 148) (pc' := 155) rfl (hb hby at_148) rfl ((if0 _ _).trans (feq (fun z => hZ0 ((lw_eq _ _).mp z) : ¬ ((lcmpW j0 (0 : Int64)) = (0 : Int32)))).2) (by decide) (by decide) k) ?_
          show own_Run p e below s _ _ _ (T0.setTop (mkF m 155 #[.val (.long j0), .second, .val (.long j1), .second, .val (.int i2), .val (.int i3), .val (.int i4), .val (.int md), .val (.ref kd), .val (.int nC), .val (.int nK), .val (.int ng), .val (.int qv), .unset, .unset, .unset, .unset, .unset, .unset, .unset, .unset] []))
          refine own_st (fun t k => XS.lloadN X0.here hx rfl (hb hby at_155) rfl k) ?_
          show own_Run p e below s _ _ _ (T0.setTop (mkF m 156 #[.val (.long j0), .second, .val (.long j1), .second, .val (.int i2), .val (.int i3), .val (.int i4), .val (.int md), .val (.ref kd), .val (.int nC), .val (.int nK), .val (.int ng), .val (.int qv), .unset, .unset, .unset, .unset, .unset, .unset, .unset, .unset] [(.long j0)]))
          refine own_st (fun t k => XS.lstore X0.here hx rfl (hb hby at_156) rfl (l' := #[.val (.long j0), .second, .val (.long j1), .second, .val (.int i2), .val (.int i3), .val (.int i4), .val (.int md), .val (.ref kd), .val (.int nC), .val (.int nK), .val (.int ng), .val (.int qv), .val (.long j0), .second, .unset, .unset, .unset, .unset, .unset, .unset]) rfl k) ?_
          show own_Run p e below s _ _ _ (T0.setTop (mkF m 158 #[.val (.long j0), .second, .val (.long j1), .second, .val (.int i2), .val (.int i3), .val (.int i4), .val (.int md), .val (.ref kd), .val (.int nC), .val (.int nK), .val (.int ng), .val (.int qv), .val (.long j0), .second, .unset, .unset, .unset, .unset, .unset, .unset] []))
          refine own_st (fun t k => XS.aload X0.here hx rfl (hb hby at_158) rfl rfl k) ?_
          show own_Run p e below s _ _ _ (T0.setTop (mkF m 160 #[.val (.long j0), .second, .val (.long j1), .second, .val (.int i2), .val (.int i3), .val (.int i4), .val (.int md), .val (.ref kd), .val (.int nC), .val (.int nK), .val (.int ng), .val (.int qv), .val (.long j0), .second, .unset, .unset, .unset, .unset, .unset, .unset] [(.ref kd)]))
          refine own_st (fun t k => XS.lconst X0.here hx rfl (hb hby at_160) k) ?_
          show own_Run p e below s _ _ _ (T0.setTop (mkF m 161 #[.val (.long j0), .second, .val (.long j1), .second, .val (.int i2), .val (.int i3), .val (.int i4), .val (.int md), .val (.ref kd), .val (.int nC), .val (.int nK), .val (.int ng), .val (.int qv), .val (.long j0), .second, .unset, .unset, .unset, .unset, .unset, .unset] [(.long (0 : Int64)), (.ref kd)]))
          refine own_st (fun t k => XS.lload X0.here hx rfl (hb hby at_161) rfl k) ?_
          show own_Run p e below s _ _ _ (T0.setTop (mkF m 163 #[.val (.long j0), .second, .val (.long j1), .second, .val (.int i2), .val (.int i3), .val (.int i4), .val (.int md), .val (.ref kd), .val (.int nC), .val (.int nK), .val (.int ng), .val (.int qv), .val (.long j0), .second, .unset, .unset, .unset, .unset, .unset, .unset] [(.long j0), (.long (0 : Int64)), (.ref kd)]))
          refine own_callS X0 hx hZ (y := (⟨"com/example/tunegrid/tunegrid/IntervalContentionPinLaw", "contention", "(Lcom/example/tunegrid/tunegrid/Replication$Kind;JJ)D"⟩ : MethodName)) hown (hw _ (List.mem_of_getElem? (i := 4) rfl)) (hw _ (List.mem_of_getElem? (i := 5) rfl)) (hw _ (List.mem_of_getElem? (i := 7) rfl)) (hw _ (List.mem_of_getElem? (i := 6) rfl)) (by decide) e0 (argsL := [(.ref kd), (.long (0 : Int64)), (.long j0)]) (rest := []) (W := 0) (own_rm1 l Z a0 hw [] kd (0 : Int64) j0 hs n0 (Nat.le_trans Z0 K0.1) ) (by decide) (by decide) (by rw [hml]; rfl) (lenOf own_pd6 rfl) rfl (by exact Nat.le_of_eq rfl) (hb hby at_163) (by decide) (by decide) ?_
          intro T84 v84 L84 X84 hq84
          obtain ⟨rfl, N84q, K84q⟩ := hq84
          have K85 : Keep h0 T84.heap [] := K0.trans K84q all0
          have O86 := O0.keep K84q all0
          have N84 := Fr.app N0 N84q
          show own_Run p e below s _ _ _ (T84.setTop (mkF m 166 #[.val (.long j0), .second, .val (.long j1), .second, .val (.int i2), .val (.int i3), .val (.int i4), .val (.int md), .val (.ref kd), .val (.int nC), .val (.int nK), .val (.int ng), .val (.int qv), .val (.long j0), .second, .unset, .unset, .unset, .unset, .unset, .unset] [(.double (if j0 = (0 : Int64) then (0 : UInt64) else (FP.ddiv (FP.l2d (0 : Int64)) (FP.l2d j0))))]))
          refine own_st (fun t k => XS.dconst0 X84.here hx rfl (hb hby at_166) (v := 0) rfl k) ?_
          show own_Run p e below s _ _ _ (T84.setTop (mkF m 167 #[.val (.long j0), .second, .val (.long j1), .second, .val (.int i2), .val (.int i3), .val (.int i4), .val (.int md), .val (.ref kd), .val (.int nC), .val (.int nK), .val (.int ng), .val (.int qv), .val (.long j0), .second, .unset, .unset, .unset, .unset, .unset, .unset] [(.double (0 : UInt64)), (.double (if j0 = (0 : Int64) then (0 : UInt64) else (FP.ddiv (FP.l2d (0 : Int64)) (FP.l2d j0))))]))
          refine own_st (fun t k => XS.dcmpS X84.here hx rfl (hb hby at_167) rfl (v := (0 : Int32)) (own_zeroq hZ0 _) k) ?_
          show own_Run p e below s _ _ _ (T84.setTop (mkF m 168 #[.val (.long j0), .second, .val (.long j1), .second, .val (.int i2), .val (.int i3), .val (.int i4), .val (.int md), .val (.ref kd), .val (.int nC), .val (.int nK), .val (.int ng), .val (.int qv), .val (.long j0), .second, .unset, .unset, .unset, .unset, .unset, .unset] [(.int (0 : Int32))]))
          refine own_st (fun t k => XS.ifNo X84.here hx rfl (hb hby at_168) rfl ((if0 _ _).trans (teq (by decide : (0 : Int32) = (0 : Int32))).2) k) ?_
          show own_Run p e below s _ _ _ (T84.setTop (mkF m 171 #[.val (.long j0), .second, .val (.long j1), .second, .val (.int i2), .val (.int i3), .val (.int i4), .val (.int md), .val (.ref kd), .val (.int nC), .val (.int nK), .val (.int ng), .val (.int qv), .val (.long j0), .second, .unset, .unset, .unset, .unset, .unset, .unset] []))
          refine own_st (fun t k => XS.iconst X84.here hx rfl (hb hby at_171) k) ?_
          show own_Run p e below s _ _ _ (T84.setTop (mkF m 172 #[.val (.long j0), .second, .val (.long j1), .second, .val (.int i2), .val (.int i3), .val (.int i4), .val (.int md), .val (.ref kd), .val (.int nC), .val (.int nK), .val (.int ng), .val (.int qv), .val (.long j0), .second, .unset, .unset, .unset, .unset, .unset, .unset] [(.int (1 : Int32))]))
          refine own_st (fun t k => XS.goto X84.here hx rfl (pc0 := 172) (pc' := 176) rfl (hb hby at_172) (by decide) (by decide) k) ?_
          show own_Run p e below s _ _ _ (T84.setTop (mkF m 176 #[.val (.long j0), .second, .val (.long j1), .second, .val (.int i2), .val (.int i3), .val (.int i4), .val (.int md), .val (.ref kd), .val (.int nC), .val (.int nK), .val (.int ng), .val (.int qv), .val (.long j0), .second, .unset, .unset, .unset, .unset, .unset, .unset] [(.int (1 : Int32))]))
          exact own_ret X84 hx hlk (t := .boolean) hret rfl (Or.inl ⟨rfl, by simp, _, rfl⟩) (hb hby at_176) (by decide) (by decide) ⟨rfl, N84⟩
      · skip
        refine own_st (fun t k => XS.icmpYes X0.here hx rfl (pc0 := 142) (pc' := 177) rfl (hb hby at_142) rfl (feq (hM2 : ¬ (md = (2 : Int32)))).2 (by decide) (by decide) k) ?_
        show own_Run p e below s _ _ _ (T0.setTop (mkF m 177 #[.val (.long j0), .second, .val (.long j1), .second, .val (.int i2), .val (.int i3), .val (.int i4), .val (.int md), .val (.ref kd), .val (.int nC), .val (.int nK), .val (.int ng), .val (.int qv), .unset, .unset, .unset, .unset, .unset, .unset, .unset, .unset] []))
        refine own_st (fun t k => XS.iload X0.here hx rfl (hb hby at_177) rfl k) ?_
        show own_Run p e below s _ _ _ (T0.setTop (mkF m 179 #[.val (.long j0), .second, .val (.long j1), .second, .val (.int i2), .val (.int i3), .val (.int i4), .val (.int md), .val (.ref kd), .val (.int nC), .val (.int nK), .val (.int ng), .val (.int qv), .unset, .unset, .unset, .unset, .unset, .unset, .unset, .unset] [(.int md)]))
        refine own_st (fun t k => XS.iconst X0.here hx rfl (hb hby at_179) k) ?_
        show own_Run p e below s _ _ _ (T0.setTop (mkF m 180 #[.val (.long j0), .second, .val (.long j1), .second, .val (.int i2), .val (.int i3), .val (.int i4), .val (.int md), .val (.ref kd), .val (.int nC), .val (.int nK), .val (.int ng), .val (.int qv), .unset, .unset, .unset, .unset, .unset, .unset, .unset, .unset] [(.int (3 : Int32)), (.int md)]))
        by_cases hM3 : md = (3 : Int32)
        · skip
          refine own_st (fun t k => XS.icmpNo X0.here hx rfl (hb hby at_180) rfl (teq (hM3 : md = (3 : Int32))).2 k) ?_
          show own_Run p e below s _ _ _ (T0.setTop (mkF m 183 #[.val (.long j0), .second, .val (.long j1), .second, .val (.int i2), .val (.int i3), .val (.int i4), .val (.int md), .val (.ref kd), .val (.int nC), .val (.int nK), .val (.int ng), .val (.int qv), .unset, .unset, .unset, .unset, .unset, .unset, .unset, .unset] []))
          refine own_st (fun t k => XS.iload X0.here hx rfl (hb hby at_183) rfl k) ?_
          show own_Run p e below s _ _ _ (T0.setTop (mkF m 185 #[.val (.long j0), .second, .val (.long j1), .second, .val (.int i2), .val (.int i3), .val (.int i4), .val (.int md), .val (.ref kd), .val (.int nC), .val (.int nK), .val (.int ng), .val (.int qv), .unset, .unset, .unset, .unset, .unset, .unset, .unset, .unset] [(.int i2)]))
          refine own_st (X0.ldcInt hx hown (mvT hZ (hw _ (List.mem_of_getElem? (i := 47) rfl))) (g := (mkF m 185 #[.val (.long j0), .second, .val (.long j1), .second, .val (.int i2), .val (.int i3), .val (.int i4), .val (.int md), .val (.ref kd), .val (.int nC), .val (.int nK), .val (.int ng), .val (.int qv), .unset, .unset, .unset, .unset, .unset, .unset, .unset, .unset] [(.int i2)])) rfl (hb hby at_185)) ?_
          show own_Run p e below s _ _ _ (T0.setTop (mkF m 187 #[.val (.long j0), .second, .val (.long j1), .second, .val (.int i2), .val (.int i3), .val (.int i4), .val (.int md), .val (.ref kd), .val (.int nC), .val (.int nK), .val (.int ng), .val (.int qv), .unset, .unset, .unset, .unset, .unset, .unset, .unset, .unset] [(.int (1048575 : Int32)), (.int i2)]))
          refine own_st (fun t k => XS.iand X0.here hx rfl (hb hby at_187) rfl k) ?_
          show own_Run p e below s _ _ _ (T0.setTop (mkF m 188 #[.val (.long j0), .second, .val (.long j1), .second, .val (.int i2), .val (.int i3), .val (.int i4), .val (.int md), .val (.ref kd), .val (.int nC), .val (.int nK), .val (.int ng), .val (.int qv), .unset, .unset, .unset, .unset, .unset, .unset, .unset, .unset] [(.int (i2 &&& (1048575 : Int32)))]))
          refine own_st (fun t k => XS.iconst X0.here hx rfl (hb hby at_188) k) ?_
          show own_Run p e below s _ _ _ (T0.setTop (mkF m 189 #[.val (.long j0), .second, .val (.long j1), .second, .val (.int i2), .val (.int i3), .val (.int i4), .val (.int md), .val (.ref kd), .val (.int nC), .val (.int nK), .val (.int ng), .val (.int qv), .unset, .unset, .unset, .unset, .unset, .unset, .unset, .unset] [(.int (1 : Int32)), (.int (i2 &&& (1048575 : Int32)))]))
          refine own_st (fun t k => XS.iadd X0.here hx rfl (hb hby at_189) rfl k) ?_
          show own_Run p e below s _ _ _ (T0.setTop (mkF m 190 #[.val (.long j0), .second, .val (.long j1), .second, .val (.int i2), .val (.int i3), .val (.int i4), .val (.int md), .val (.ref kd), .val (.int nC), .val (.int nK), .val (.int ng), .val (.int qv), .unset, .unset, .unset, .unset, .unset, .unset, .unset, .unset] [(.int ((i2 &&& (1048575 : Int32)) + (1 : Int32)))]))
          refine own_st (fun t k => XS.i2l X0.here hx rfl (hb hby at_190) rfl k) ?_
          show own_Run p e below s _ _ _ (T0.setTop (mkF m 191 #[.val (.long j0), .second, .val (.long j1), .second, .val (.int i2), .val (.int i3), .val (.int i4), .val (.int md), .val (.ref kd), .val (.int nC), .val (.int nK), .val (.int ng), .val (.int qv), .unset, .unset, .unset, .unset, .unset, .unset, .unset, .unset] [(.long (((i2 &&& (1048575 : Int32)) + (1 : Int32)).toInt64))]))
          obtain ⟨kk, h_kk⟩ : ∃ z, ((((i2 &&& (1048575 : Int32)) + (1 : Int32)).toInt64) : Int64) = z := ⟨_, rfl⟩
          refine own_topJ h_kk ?_
          show own_Run p e below s _ _ _ (T0.setTop (mkF m 191 #[.val (.long j0), .second, .val (.long j1), .second, .val (.int i2), .val (.int i3), .val (.int i4), .val (.int md), .val (.ref kd), .val (.int nC), .val (.int nK), .val (.int ng), .val (.int qv), .unset, .unset, .unset, .unset, .unset, .unset, .unset, .unset] [(.long kk)]))
          have r_kk := own_kk3 h_kk
          refine own_st (fun t k => XS.lstore X0.here hx rfl (hb hby at_191) rfl (l' := #[.val (.long j0), .second, .val (.long j1), .second, .val (.int i2), .val (.int i3), .val (.int i4), .val (.int md), .val (.ref kd), .val (.int nC), .val (.int nK), .val (.int ng), .val (.int qv), .val (.long kk), .second, .unset, .unset, .unset, .unset, .unset, .unset]) rfl k) ?_
          show own_Run p e below s _ _ _ (T0.setTop (mkF m 193 #[.val (.long j0), .second, .val (.long j1), .second, .val (.int i2), .val (.int i3), .val (.int i4), .val (.int md), .val (.ref kd), .val (.int nC), .val (.int nK), .val (.int ng), .val (.int qv), .val (.long kk), .second, .unset, .unset, .unset, .unset, .unset, .unset] []))
          refine own_st (fun t k => XS.iload X0.here hx rfl (hb hby at_193) rfl k) ?_
          show own_Run p e below s _ _ _ (T0.setTop (mkF m 195 #[.val (.long j0), .second, .val (.long j1), .second, .val (.int i2), .val (.int i3), .val (.int i4), .val (.int md), .val (.ref kd), .val (.int nC), .val (.int nK), .val (.int ng), .val (.int qv), .val (.long kk), .second, .unset, .unset, .unset, .unset, .unset, .unset] [(.int qv)]))
          refine own_st (fun t k => XS.i2l X0.here hx rfl (hb hby at_195) rfl k) ?_
          show own_Run p e below s _ _ _ (T0.setTop (mkF m 196 #[.val (.long j0), .second, .val (.long j1), .second, .val (.int i2), .val (.int i3), .val (.int i4), .val (.int md), .val (.ref kd), .val (.int nC), .val (.int nK), .val (.int ng), .val (.int qv), .val (.long kk), .second, .unset, .unset, .unset, .unset, .unset, .unset] [(.long (qv.toInt64))]))
          refine own_st (fun t k => XS.lload X0.here hx rfl (hb hby at_196) rfl k) ?_
          show own_Run p e below s _ _ _ (T0.setTop (mkF m 198 #[.val (.long j0), .second, .val (.long j1), .second, .val (.int i2), .val (.int i3), .val (.int i4), .val (.int md), .val (.ref kd), .val (.int nC), .val (.int nK), .val (.int ng), .val (.int qv), .val (.long kk), .second, .unset, .unset, .unset, .unset, .unset, .unset] [(.long kk), (.long (qv.toInt64))]))
          refine own_st (fun t k => XS.lmul X0.here hx rfl (hb hby at_198) rfl k) ?_
          show own_Run p e below s _ _ _ (T0.setTop (mkF m 199 #[.val (.long j0), .second, .val (.long j1), .second, .val (.int i2), .val (.int i3), .val (.int i4), .val (.int md), .val (.ref kd), .val (.int nC), .val (.int nK), .val (.int ng), .val (.int qv), .val (.long kk), .second, .unset, .unset, .unset, .unset, .unset, .unset] [(.long ((qv.toInt64) * kk))]))
          obtain ⟨cc, h_cc⟩ : ∃ z, (((qv.toInt64) * kk) : Int64) = z := ⟨_, rfl⟩
          refine own_topJ h_cc ?_
          show own_Run p e below s _ _ _ (T0.setTop (mkF m 199 #[.val (.long j0), .second, .val (.long j1), .second, .val (.int i2), .val (.int i3), .val (.int i4), .val (.int md), .val (.ref kd), .val (.int nC), .val (.int nK), .val (.int ng), .val (.int qv), .val (.long kk), .second, .unset, .unset, .unset, .unset, .unset, .unset] [(.long cc)]))
          have r_cc := own_cc3 hq r_kk h_cc
          refine own_st (fun t k => XS.lstore X0.here hx rfl (hb hby at_199) rfl (l' := #[.val (.long j0), .second, .val (.long j1), .second, .val (.int i2), .val (.int i3), .val (.int i4), .val (.int md), .val (.ref kd), .val (.int nC), .val (.int nK), .val (.int ng), .val (.int qv), .val (.long kk), .second, .val (.long cc), .second, .unset, .unset, .unset, .unset]) rfl k) ?_
          show own_Run p e below s _ _ _ (T0.setTop (mkF m 201 #[.val (.long j0), .second, .val (.long j1), .second, .val (.int i2), .val (.int i3), .val (.int i4), .val (.int md), .val (.ref kd), .val (.int nC), .val (.int nK), .val (.int ng), .val (.int qv), .val (.long kk), .second, .val (.long cc), .second, .unset, .unset, .unset, .unset] []))
          refine own_st (fun t k => XS.aload X0.here hx rfl (hb hby at_201) rfl rfl k) ?_
          show own_Run p e below s _ _ _ (T0.setTop (mkF m 203 #[.val (.long j0), .second, .val (.long j1), .second, .val (.int i2), .val (.int i3), .val (.int i4), .val (.int md), .val (.ref kd), .val (.int nC), .val (.int nK), .val (.int ng), .val (.int qv), .val (.long kk), .second, .val (.long cc), .second, .unset, .unset, .unset, .unset] [(.ref kd)]))
          refine own_st (fun t k => XS.iload X0.here hx rfl (hb hby at_203) rfl k) ?_
          show own_Run p e below s _ _ _ (T0.setTop (mkF m 205 #[.val (.long j0), .second, .val (.long j1), .second, .val (.int i2), .val (.int i3), .val (.int i4), .val (.int md), .val (.ref kd), .val (.int nC), .val (.int nK), .val (.int ng), .val (.int qv), .val (.long kk), .second, .val (.long cc), .second, .unset, .unset, .unset, .unset] [(.int nC), (.ref kd)]))
          by_cases hC0 : nC = (0 : Int32)
          · skip
            refine own_st (fun t k => XS.ifYes X0.here hx rfl (pc0 := 205) (pc' := 214) rfl (hb hby at_205) rfl ((if0 _ _).trans (teq (hC0 : nC = (0 : Int32))).1) (by decide) (by decide) k) ?_
            show own_Run p e below s _ _ _ (T0.setTop (mkF m 214 #[.val (.long j0), .second, .val (.long j1), .second, .val (.int i2), .val (.int i3), .val (.int i4), .val (.int md), .val (.ref kd), .val (.int nC), .val (.int nK), .val (.int ng), .val (.int qv), .val (.long kk), .second, .val (.long cc), .second, .unset, .unset, .unset, .unset] [(.ref kd)]))
            refine own_st (fun t k => XS.lload X0.here hx rfl (hb hby at_214) rfl k) ?_
            show own_Run p e below s _ _ _ (T0.setTop (mkF m 216 #[.val (.long j0), .second, .val (.long j1), .second, .val (.int i2), .val (.int i3), .val (.int i4), .val (.int md), .val (.ref kd), .val (.int nC), .val (.int nK), .val (.int ng), .val (.int qv), .val (.long kk), .second, .val (.long cc), .second, .unset, .unset, .unset, .unset] [(.long cc), (.ref kd)]))
            refine own_st (fun t k => XS.iload X0.here hx rfl (hb hby at_216) rfl k) ?_
            show own_Run p e below s _ _ _ (T0.setTop (mkF m 218 #[.val (.long j0), .second, .val (.long j1), .second, .val (.int i2), .val (.int i3), .val (.int i4), .val (.int md), .val (.ref kd), .val (.int nC), .val (.int nK), .val (.int ng), .val (.int qv), .val (.long kk), .second, .val (.long cc), .second, .unset, .unset, .unset, .unset] [(.int nK), (.long cc), (.ref kd)]))
            by_cases hK0 : nK = (0 : Int32)
            · skip
              refine own_st (fun t k => XS.ifYes X0.here hx rfl (pc0 := 218) (pc' := 227) rfl (hb hby at_218) rfl ((if0 _ _).trans (teq (hK0 : nK = (0 : Int32))).1) (by decide) (by decide) k) ?_
              show own_Run p e below s _ _ _ (T0.setTop (mkF m 227 #[.val (.long j0), .second, .val (.long j1), .second, .val (.int i2), .val (.int i3), .val (.int i4), .val (.int md), .val (.ref kd), .val (.int nC), .val (.int nK), .val (.int ng), .val (.int qv), .val (.long kk), .second, .val (.long cc), .second, .unset, .unset, .unset, .unset] [(.long cc), (.ref kd)]))
              refine own_st (fun t k => XS.lload X0.here hx rfl (hb hby at_227) rfl k) ?_
              show own_Run p e below s _ _ _ (T0.setTop (mkF m 229 #[.val (.long j0), .second, .val (.long j1), .second, .val (.int i2), .val (.int i3), .val (.int i4), .val (.int md), .val (.ref kd), .val (.int nC), .val (.int nK), .val (.int ng), .val (.int qv), .val (.long kk), .second, .val (.long cc), .second, .unset, .unset, .unset, .unset] [(.long kk), (.long cc), (.ref kd)]))
              refine own_callS X0 hx hZ (y := (⟨"com/example/tunegrid/tunegrid/IntervalContentionPinLaw", "contention", "(Lcom/example/tunegrid/tunegrid/Replication$Kind;JJ)D"⟩ : MethodName)) hown (hw _ (List.mem_of_getElem? (i := 4) rfl)) (hw _ (List.mem_of_getElem? (i := 5) rfl)) (hw _ (List.mem_of_getElem? (i := 7) rfl)) (hw _ (List.mem_of_getElem? (i := 6) rfl)) (by decide) e0 (argsL := [(.ref kd), (.long cc), (.long kk)]) (rest := []) (W := 0) (own_rm1 l Z a0 hw [] kd cc kk hs n0 (Nat.le_trans Z0 K0.1) ) (by decide) (by decide) (by rw [hml]; rfl) (lenOf own_pd6 rfl) rfl (by exact Nat.le_of_eq rfl) (hb hby at_229) (by decide) (by decide) ?_
              intro T87 v87 L87 X87 hq87
              obtain ⟨rfl, N87q, K87q⟩ := hq87
              have K88 : Keep h0 T87.heap [] := K0.trans K87q all0
              have O89 := O0.keep K87q all0
              have N87 := Fr.app N0 N87q
              show own_Run p e below s _ _ _ (T87.setTop (mkF m 232 #[.val (.long j0), .second, .val (.long j1), .second, .val (.int i2), .val (.int i3), .val (.int i4), .val (.int md), .val (.ref kd), .val (.int nC), .val (.int nK), .val (.int ng), .val (.int qv), .val (.long kk), .second, .val (.long cc), .second, .unset, .unset, .unset, .unset] [(.double (if kk = (0 : Int64) then (0 : UInt64) else (FP.ddiv (FP.l2d cc) (FP.l2d kk))))]))
              obtain ⟨r, h_r⟩ : ∃ z, ((if kk = (0 : Int64) then (0 : UInt64) else (FP.ddiv (FP.l2d cc) (FP.l2d kk))) : UInt64) = z := ⟨_, rfl⟩
              refine own_topD h_r ?_
              show own_Run p e below s _ _ _ (T87.setTop (mkF m 232 #[.val (.long j0), .second, .val (.long j1), .second, .val (.int i2), .val (.int i3), .val (.int i4), .val (.int md), .val (.ref kd), .val (.int nC), .val (.int nK), .val (.int ng), .val (.int qv), .val (.long kk), .second, .val (.long cc), .second, .unset, .unset, .unset, .unset] [(.double r)]))
              have z_r := own_m3a hq r_kk r_cc h_r
              refine own_st (fun t k => XS.dstore X87.here hx rfl (hb hby at_232) rfl (l' := #[.val (.long j0), .second, .val (.long j1), .second, .val (.int i2), .val (.int i3), .val (.int i4), .val (.int md), .val (.ref kd), .val (.int nC), .val (.int nK), .val (.int ng), .val (.int qv), .val (.long kk), .second, .val (.long cc), .second, .val (.double r), .second, .unset, .unset]) rfl k) ?_
              show own_Run p e below s _ _ _ (T87.setTop (mkF m 234 #[.val (.long j0), .second, .val (.long j1), .second, .val (.int i2), .val (.int i3), .val (.int i4), .val (.int md), .val (.ref kd), .val (.int nC), .val (.int nK), .val (.int ng), .val (.int qv), .val (.long kk), .second, .val (.long cc), .second, .val (.double r), .second, .unset, .unset] []))
              refine own_st (fun t k => XS.iload X87.here hx rfl (hb hby at_234) rfl k) ?_
              show own_Run p e below s _ _ _ (T87.setTop (mkF m 236 #[.val (.long j0), .second, .val (.long j1), .second, .val (.int i2), .val (.int i3), .val (.int i4), .val (.int md), .val (.ref kd), .val (.int nC), .val (.int nK), .val (.int ng), .val (.int qv), .val (.long kk), .second, .val (.long cc), .second, .val (.double r), .second, .unset, .unset] [(.int ng)]))
              refine own_st (fun t k => XS.ifYes X87.here hx rfl (pc0 := 236) (pc' := 245) rfl (hb hby at_236) rfl ((if0 _ _).trans (teq (by rw [hng, hC0, hK0]; decide : ng = (0 : Int32))).1) (by decide) (by decide) k) ?_
              show own_Run p e below s _ _ _ (T87.setTop (mkF m 245 #[.val (.long j0), .second, .val (.long j1), .second, .val (.int i2), .val (.int i3), .val (.int i4), .val (.int md), .val (.ref kd), .val (.int nC), .val (.int nK), .val (.int ng), .val (.int qv), .val (.long kk), .second, .val (.long cc), .second, .val (.double r), .second, .unset, .unset] []))
              refine own_st (fun t k => XS.iload X87.here hx rfl (hb hby at_245) rfl k) ?_
              show own_Run p e below s _ _ _ (T87.setTop (mkF m 247 #[.val (.long j0), .second, .val (.long j1), .second, .val (.int i2), .val (.int i3), .val (.int i4), .val (.int md), .val (.ref kd), .val (.int nC), .val (.int nK), .val (.int ng), .val (.int qv), .val (.long kk), .second, .val (.long cc), .second, .val (.double r), .second, .unset, .unset] [(.int qv)]))
              refine own_st (fun t k => XS.istore X87.here hx rfl (hb hby at_247) rfl (l' := #[.val (.long j0), .second, .val (.long j1), .second, .val (.int i2), .val (.int i3), .val (.int i4), .val (.int md), .val (.ref kd), .val (.int nC), .val (.int nK), .val (.int ng), .val (.int qv), .val (.long kk), .second, .val (.long cc), .second, .val (.double r), .second, .val (.int qv), .unset]) rfl k) ?_
              show own_Run p e below s _ _ _ (T87.setTop (mkF m 249 #[.val (.long j0), .second, .val (.long j1), .second, .val (.int i2), .val (.int i3), .val (.int i4), .val (.int md), .val (.ref kd), .val (.int nC), .val (.int nK), .val (.int ng), .val (.int qv), .val (.long kk), .second, .val (.long cc), .second, .val (.double r), .second, .val (.int qv), .unset] []))
              refine own_st (fun t k => XS.dload X87.here hx rfl (hb hby at_249) rfl k) ?_
              show own_Run p e below s _ _ _ (T87.setTop (mkF m 251 #[.val (.long j0), .second, .val (.long j1), .second, .val (.int i2), .val (.int i3), .val (.int i4), .val (.int md), .val (.ref kd), .val (.int nC), .val (.int nK), .val (.int ng), .val (.int qv), .val (.long kk), .second, .val (.long cc), .second, .val (.double r), .second, .val (.int qv), .unset] [(.double r)]))
              refine own_st (fun t k => XS.iload X87.here hx rfl (hb hby at_251) rfl k) ?_
              show own_Run p e below s _ _ _ (T87.setTop (mkF m 253 #[.val (.long j0), .second, .val (.long j1), .second, .val (.int i2), .val (.int i3), .val (.int i4), .val (.int md), .val (.ref kd), .val (.int nC), .val (.int nK), .val (.int ng), .val (.int qv), .val (.long kk), .second, .val (.long cc), .second, .val (.double r), .second, .val (.int qv), .unset] [(.int qv), (.double r)]))
              refine own_st (fun t k => XS.i2dS X87.here hx rfl (hb hby at_253) rfl (v := (FP.i2d qv)) (rfl) k) ?_
              show own_Run p e below s _ _ _ (T87.setTop (mkF m 254 #[.val (.long j0), .second, .val (.long j1), .second, .val (.int i2), .val (.int i3), .val (.int i4), .val (.int md), .val (.ref kd), .val (.int nC), .val (.int nK), .val (.int ng), .val (.int qv), .val (.long kk), .second, .val (.long cc), .second, .val (.double r), .second, .val (.int qv), .unset] [(.double (FP.i2d qv)), (.double r)]))
              refine own_st (fun t k => XS.dcmpS X87.here hx rfl (hb hby at_254) rfl (v := (0 : Int32)) (z_r.cmpE (own_Z.i2d _) (rfl) _) k) ?_
              show own_Run p e below s _ _ _ (T87.setTop (mkF m 255 #[.val (.long j0), .second, .val (.long j1), .second, .val (.int i2), .val (.int i3), .val (.int i4), .val (.int md), .val (.ref kd), .val (.int nC), .val (.int nK), .val (.int ng), .val (.int qv), .val (.long kk), .second, .val (.long cc), .second, .val (.double r), .second, .val (.int qv), .unset] [(.int (0 : Int32))]))
              refine own_st (fun t k => XS.ifNo X87.here hx rfl (hb hby at_255) rfl ((if0 _ _).trans (teq (by decide : (0 : Int32) = (0 : Int32))).2) k) ?_
              show own_Run p e below s _ _ _ (T87.setTop (mkF m 258 #[.val (.long j0), .second, .val (.long j1), .second, .val (.int i2), .val (.int i3), .val (.int i4), .val (.int md), .val (.ref kd), .val (.int nC), .val (.int nK), .val (.int ng), .val (.int qv), .val (.long kk), .second, .val (.long cc), .second, .val (.double r), .second, .val (.int qv), .unset] []))
              refine own_st (fun t k => XS.iconst X87.here hx rfl (hb hby at_258) k) ?_
              show own_Run p e below s _ _ _ (T87.setTop (mkF m 259 #[.val (.long j0), .second, .val (.long j1), .second, .val (.int i2), .val (.int i3), .val (.int i4), .val (.int md), .val (.ref kd), .val (.int nC), .val (.int nK), .val (.int ng), .val (.int qv), .val (.long kk), .second, .val (.long cc), .second, .val (.double r), .second, .val (.int qv), .unset] [(.int (1 : Int32))]))
              refine own_st (fun t k => XS.goto X87.here hx rfl (pc0 := 259) (pc' := 263) rfl (hb hby at_259) (by decide) (by decide) k) ?_
              show own_Run p e below s _ _ _ (T87.setTop (mkF m 263 #[.val (.long j0), .second, .val (.long j1), .second, .val (.int i2), .val (.int i3), .val (.int i4), .val (.int md), .val (.ref kd), .val (.int nC), .val (.int nK), .val (.int ng), .val (.int qv), .val (.long kk), .second, .val (.long cc), .second, .val (.double r), .second, .val (.int qv), .unset] [(.int (1 : Int32))]))
              exact own_ret X87 hx hlk (t := .boolean) hret rfl (Or.inl ⟨rfl, by simp, _, rfl⟩) (hb hby at_263) (by decide) (by decide) ⟨rfl, N87⟩
            · skip
              have hK1 := hnK.resolve_left hK0
              refine own_st (fun t k => XS.ifNo X0.here hx rfl (hb hby at_218) rfl ((if0 _ _).trans (feq (hK0 : ¬ (nK = (0 : Int32)))).1) k) ?_
              show own_Run p e below s _ _ _ (T0.setTop (mkF m 221 #[.val (.long j0), .second, .val (.long j1), .second, .val (.int i2), .val (.int i3), .val (.int i4), .val (.int md), .val (.ref kd), .val (.int nC), .val (.int nK), .val (.int ng), .val (.int qv), .val (.long kk), .second, .val (.long cc), .second, .unset, .unset, .unset, .unset] [(.long cc), (.ref kd)]))
              refine own_st (fun t k => XS.lload X0.here hx rfl (hb hby at_221) rfl k) ?_
              show own_Run p e below s _ _ _ (T0.setTop (mkF m 223 #[.val (.long j0), .second, .val (.long j1), .second, .val (.int i2), .val (.int i3), .val (.int i4), .val (.int md), .val (.ref kd), .val (.int nC), .val (.int nK), .val (.int ng), .val (.int qv), .val (.long kk), .second, .val (.long cc), .second, .unset, .unset, .unset, .unset] [(.long kk), (.long cc), (.ref kd)]))
              refine own_st (fun t k => XS.lneg X0.here hx rfl (hb hby at_223) rfl k) ?_
              show own_Run p e below s _ _ _ (T0.setTop (mkF m 224 #[.val (.long j0), .second, .val (.long j1), .second, .val (.int i2), .val (.int i3), .val (.int i4), .val (.int md), .val (.ref kd), .val (.int nC), .val (.int nK), .val (.int ng), .val (.int qv), .val (.long kk), .second, .val (.long cc), .second, .unset, .unset, .unset, .unset] [(.long (-kk)), (.long cc), (.ref kd)]))
              refine own_st (fun t k => XS.goto X0.here hx rfl (pc0 := 224) (pc' := 229) rfl (hb hby at_224) (by decide) (by decide) k) ?_
              show own_Run p e below s _ _ _ (T0.setTop (mkF m 229 #[.val (.long j0), .second, .val (.long j1), .second, .val (.int i2), .val (.int i3), .val (.int i4), .val (.int md), .val (.ref kd), .val (.int nC), .val (.int nK), .val (.int ng), .val (.int qv), .val (.long kk), .second, .val (.long cc), .second, .unset, .unset, .unset, .unset] [(.long (-kk)), (.long cc), (.ref kd)]))
              refine own_callS X0 hx hZ (y := (⟨"com/example/tunegrid/tunegrid/IntervalContentionPinLaw", "contention", "(Lcom/example/tunegrid/tunegrid/Replication$Kind;JJ)D"⟩ : MethodName)) hown (hw _ (List.mem_of_getElem? (i := 4) rfl)) (hw _ (List.mem_of_getElem? (i := 5) rfl)) (hw _ (List.mem_of_getElem? (i := 7) rfl)) (hw _ (List.mem_of_getElem? (i := 6) rfl)) (by decide) e0 (argsL := [(.ref kd), (.long cc), (.long (-kk))]) (rest := []) (W := 0) (own_rm1 l Z a0 hw [] kd cc (-kk) hs n0 (Nat.le_trans Z0 K0.1) ) (by decide) (by decide) (by rw [hml]; rfl) (lenOf own_pd6 rfl) rfl (by exact Nat.le_of_eq rfl) (hb hby at_229) (by decide) (by decide) ?_
              intro T90 v90 L90 X90 hq90
              obtain ⟨rfl, N90q, K90q⟩ := hq90
              have K91 : Keep h0 T90.heap [] := K0.trans K90q all0
              have O92 := O0.keep K90q all0
              have N90 := Fr.app N0 N90q
              show own_Run p e below s _ _ _ (T90.setTop (mkF m 232 #[.val (.long j0), .second, .val (.long j1), .second, .val (.int i2), .val (.int i3), .val (.int i4), .val (.int md), .val (.ref kd), .val (.int nC), .val (.int nK), .val (.int ng), .val (.int qv), .val (.long kk), .second, .val (.long cc), .second, .unset, .unset, .unset, .unset] [(.double (if (-kk) = (0 : Int64) then (0 : UInt64) else (FP.ddiv (FP.l2d cc) (FP.l2d (-kk)))))]))
              obtain ⟨r, h_r⟩ : ∃ z, ((if (-kk) = (0 : Int64) then (0 : UInt64) else (FP.ddiv (FP.l2d cc) (FP.l2d (-kk)))) : UInt64) = z := ⟨_, rfl⟩
              refine own_topD h_r ?_
              show own_Run p e below s _ _ _ (T90.setTop (mkF m 232 #[.val (.long j0), .second, .val (.long j1), .second, .val (.int i2), .val (.int i3), .val (.int i4), .val (.int md), .val (.ref kd), .val (.int nC), .val (.int nK), .val (.int ng), .val (.int qv), .val (.long kk), .second, .val (.long cc), .second, .unset, .unset, .unset, .unset] [(.double r)]))
              have z_r := own_m3c hq r_kk r_cc h_r
              refine own_st (fun t k => XS.dstore X90.here hx rfl (hb hby at_232) rfl (l' := #[.val (.long j0), .second, .val (.long j1), .second, .val (.int i2), .val (.int i3), .val (.int i4), .val (.int md), .val (.ref kd), .val (.int nC), .val (.int nK), .val (.int ng), .val (.int qv), .val (.long kk), .second, .val (.long cc), .second, .val (.double r), .second, .unset, .unset]) rfl k) ?_
              show own_Run p e below s _ _ _ (T90.setTop (mkF m 234 #[.val (.long j0), .second, .val (.long j1), .second, .val (.int i2), .val (.int i3), .val (.int i4), .val (.int md), .val (.ref kd), .val (.int nC), .val (.int nK), .val (.int ng), .val (.int qv), .val (.long kk), .second, .val (.long cc), .second, .val (.double r), .second, .unset, .unset] []))
              refine own_st (fun t k => XS.iload X90.here hx rfl (hb hby at_234) rfl k) ?_
              show own_Run p e below s _ _ _ (T90.setTop (mkF m 236 #[.val (.long j0), .second, .val (.long j1), .second, .val (.int i2), .val (.int i3), .val (.int i4), .val (.int md), .val (.ref kd), .val (.int nC), .val (.int nK), .val (.int ng), .val (.int qv), .val (.long kk), .second, .val (.long cc), .second, .val (.double r), .second, .unset, .unset] [(.int ng)]))
              refine own_st (fun t k => XS.ifNo X90.here hx rfl (hb hby at_236) rfl ((if0 _ _).trans (feq (by rw [hng, hC0, hK1]; decide : ¬ (ng = (0 : Int32)))).1) k) ?_
              show own_Run p e below s _ _ _ (T90.setTop (mkF m 239 #[.val (.long j0), .second, .val (.long j1), .second, .val (.int i2), .val (.int i3), .val (.int i4), .val (.int md), .val (.ref kd), .val (.int nC), .val (.int nK), .val (.int ng), .val (.int qv), .val (.long kk), .second, .val (.long cc), .second, .val (.double r), .second, .unset, .unset] []))
              refine own_st (fun t k => XS.iload X90.here hx rfl (hb hby at_239) rfl k) ?_
              show own_Run p e below s _ _ _ (T90.setTop (mkF m 241 #[.val (.long j0), .second, .val (.long j1), .second, .val (.int i2), .val (.int i3), .val (.int i4), .val (.int md), .val (.ref kd), .val (.int nC), .val (.int nK), .val (.int ng), .val (.int qv), .val (.long kk), .second, .val (.long cc), .second, .val (.double r), .second, .unset, .unset] [(.int qv)]))
              refine own_st (fun t k => XS.ineg X90.here hx rfl (hb hby at_241) rfl k) ?_
              show own_Run p e below s _ _ _ (T90.setTop (mkF m 242 #[.val (.long j0), .second, .val (.long j1), .second, .val (.int i2), .val (.int i3), .val (.int i4), .val (.int md), .val (.ref kd), .val (.int nC), .val (.int nK), .val (.int ng), .val (.int qv), .val (.long kk), .second, .val (.long cc), .second, .val (.double r), .second, .unset, .unset] [(.int (-qv))]))
              refine own_st (fun t k => XS.goto X90.here hx rfl (pc0 := 242) (pc' := 247) rfl (hb hby at_242) (by decide) (by decide) k) ?_
              show own_Run p e below s _ _ _ (T90.setTop (mkF m 247 #[.val (.long j0), .second, .val (.long j1), .second, .val (.int i2), .val (.int i3), .val (.int i4), .val (.int md), .val (.ref kd), .val (.int nC), .val (.int nK), .val (.int ng), .val (.int qv), .val (.long kk), .second, .val (.long cc), .second, .val (.double r), .second, .unset, .unset] [(.int (-qv))]))
              refine own_st (fun t k => XS.istore X90.here hx rfl (hb hby at_247) rfl (l' := #[.val (.long j0), .second, .val (.long j1), .second, .val (.int i2), .val (.int i3), .val (.int i4), .val (.int md), .val (.ref kd), .val (.int nC), .val (.int nK), .val (.int ng), .val (.int qv), .val (.long kk), .second, .val (.long cc), .second, .val (.double r), .second, .val (.int (-qv)), .unset]) rfl k) ?_
              show own_Run p e below s _ _ _ (T90.setTop (mkF m 249 #[.val (.long j0), .second, .val (.long j1), .second, .val (.int i2), .val (.int i3), .val (.int i4), .val (.int md), .val (.ref kd), .val (.int nC), .val (.int nK), .val (.int ng), .val (.int qv), .val (.long kk), .second, .val (.long cc), .second, .val (.double r), .second, .val (.int (-qv)), .unset] []))
              refine own_st (fun t k => XS.dload X90.here hx rfl (hb hby at_249) rfl k) ?_
              show own_Run p e below s _ _ _ (T90.setTop (mkF m 251 #[.val (.long j0), .second, .val (.long j1), .second, .val (.int i2), .val (.int i3), .val (.int i4), .val (.int md), .val (.ref kd), .val (.int nC), .val (.int nK), .val (.int ng), .val (.int qv), .val (.long kk), .second, .val (.long cc), .second, .val (.double r), .second, .val (.int (-qv)), .unset] [(.double r)]))
              refine own_st (fun t k => XS.iload X90.here hx rfl (hb hby at_251) rfl k) ?_
              show own_Run p e below s _ _ _ (T90.setTop (mkF m 253 #[.val (.long j0), .second, .val (.long j1), .second, .val (.int i2), .val (.int i3), .val (.int i4), .val (.int md), .val (.ref kd), .val (.int nC), .val (.int nK), .val (.int ng), .val (.int qv), .val (.long kk), .second, .val (.long cc), .second, .val (.double r), .second, .val (.int (-qv)), .unset] [(.int (-qv)), (.double r)]))
              refine own_st (fun t k => XS.i2dS X90.here hx rfl (hb hby at_253) rfl (v := (FP.i2d (-qv))) (rfl) k) ?_
              show own_Run p e below s _ _ _ (T90.setTop (mkF m 254 #[.val (.long j0), .second, .val (.long j1), .second, .val (.int i2), .val (.int i3), .val (.int i4), .val (.int md), .val (.ref kd), .val (.int nC), .val (.int nK), .val (.int ng), .val (.int qv), .val (.long kk), .second, .val (.long cc), .second, .val (.double r), .second, .val (.int (-qv)), .unset] [(.double (FP.i2d (-qv))), (.double r)]))
              refine own_st (fun t k => XS.dcmpS X90.here hx rfl (hb hby at_254) rfl (v := (0 : Int32)) (z_r.cmpE (own_Z.i2d _) ((own_n32 hq).symm) _) k) ?_
              show own_Run p e below s _ _ _ (T90.setTop (mkF m 255 #[.val (.long j0), .second, .val (.long j1), .second, .val (.int i2), .val (.int i3), .val (.int i4), .val (.int md), .val (.ref kd), .val (.int nC), .val (.int nK), .val (.int ng), .val (.int qv), .val (.long kk), .second, .val (.long cc), .second, .val (.double r), .second, .val (.int (-qv)), .unset] [(.int (0 : Int32))]))
              refine own_st (fun t k => XS.ifNo X90.here hx rfl (hb hby at_255) rfl ((if0 _ _).trans (teq (by decide : (0 : Int32) = (0 : Int32))).2) k) ?_
              show own_Run p e below s _ _ _ (T90.setTop (mkF m 258 #[.val (.long j0), .second, .val (.long j1), .second, .val (.int i2), .val (.int i3), .val (.int i4), .val (.int md), .val (.ref kd), .val (.int nC), .val (.int nK), .val (.int ng), .val (.int qv), .val (.long kk), .second, .val (.long cc), .second, .val (.double r), .second, .val (.int (-qv)), .unset] []))
              refine own_st (fun t k => XS.iconst X90.here hx rfl (hb hby at_258) k) ?_
              show own_Run p e below s _ _ _ (T90.setTop (mkF m 259 #[.val (.long j0), .second, .val (.long j1), .second, .val (.int i2), .val (.int i3), .val (.int i4), .val (.int md), .val (.ref kd), .val (.int nC), .val (.int nK), .val (.int ng), .val (.int qv), .val (.long kk), .second, .val (.long cc), .second, .val (.double r), .second, .val (.int (-qv)), .unset] [(.int (1 : Int32))]))
              refine own_st (fun t k => XS.goto X90.here hx rfl (pc0 := 259) (pc' := 263) rfl (hb hby at_259) (by decide) (by decide) k) ?_
              show own_Run p e below s _ _ _ (T90.setTop (mkF m 263 #[.val (.long j0), .second, .val (.long j1), .second, .val (.int i2), .val (.int i3), .val (.int i4), .val (.int md), .val (.ref kd), .val (.int nC), .val (.int nK), .val (.int ng), .val (.int qv), .val (.long kk), .second, .val (.long cc), .second, .val (.double r), .second, .val (.int (-qv)), .unset] [(.int (1 : Int32))]))
              exact own_ret X90 hx hlk (t := .boolean) hret rfl (Or.inl ⟨rfl, by simp, _, rfl⟩) (hb hby at_263) (by decide) (by decide) ⟨rfl, N90⟩
          · skip
            have hC1 := hnC.resolve_left hC0
            refine own_st (fun t k => XS.ifNo X0.here hx rfl (hb hby at_205) rfl ((if0 _ _).trans (feq (hC0 : ¬ (nC = (0 : Int32)))).1) k) ?_
            show own_Run p e below s _ _ _ (T0.setTop (mkF m 208 #[.val (.long j0), .second, .val (.long j1), .second, .val (.int i2), .val (.int i3), .val (.int i4), .val (.int md), .val (.ref kd), .val (.int nC), .val (.int nK), .val (.int ng), .val (.int qv), .val (.long kk), .second, .val (.long cc), .second, .unset, .unset, .unset, .unset] [(.ref kd)]))
            refine own_st (fun t k => XS.lload X0.here hx rfl (hb hby at_208) rfl k) ?_
            show own_Run p e below s _ _ _ (T0.setTop (mkF m 210 #[.val (.long j0), .second, .val (.long j1), .second, .val (.int i2), .val (.int i3), .val (.int i4), .val (.int md), .val (.ref kd), .val (.int nC), .val (.int nK), .val (.int ng), .val (.int qv), .val (.long kk), .second, .val (.long cc), .second, .unset, .unset, .unset, .unset] [(.long cc), (.ref kd)]))
            refine own_st (fun t k => XS.lneg X0.here hx rfl (hb hby at_210) rfl k) ?_
            show own_Run p e below s _ _ _ (T0.setTop (mkF m 211 #[.val (.long j0), .second, .val (.long j1), .second, .val (.int i2), .val (.int i3), .val (.int i4), .val (.int md), .val (.ref kd), .val (.int nC), .val (.int nK), .val (.int ng), .val (.int qv), .val (.long kk), .second, .val (.long cc), .second, .unset, .unset, .unset, .unset] [(.long (-cc)), (.ref kd)]))
            refine own_st (fun t k => XS.goto X0.here hx rfl (pc0 := 211) (pc' := 216) rfl (hb hby at_211) (by decide) (by decide) k) ?_
            show own_Run p e below s _ _ _ (T0.setTop (mkF m 216 #[.val (.long j0), .second, .val (.long j1), .second, .val (.int i2), .val (.int i3), .val (.int i4), .val (.int md), .val (.ref kd), .val (.int nC), .val (.int nK), .val (.int ng), .val (.int qv), .val (.long kk), .second, .val (.long cc), .second, .unset, .unset, .unset, .unset] [(.long (-cc)), (.ref kd)]))
            refine own_st (fun t k => XS.iload X0.here hx rfl (hb hby at_216) rfl k) ?_
            show own_Run p e below s _ _ _ (T0.setTop (mkF m 218 #[.val (.long j0), .second, .val (.long j1), .second, .val (.int i2), .val (.int i3), .val (.int i4), .val (.int md), .val (.ref kd), .val (.int nC), .val (.int nK), .val (.int ng), .val (.int qv), .val (.long kk), .second, .val (.long cc), .second, .unset, .unset, .unset, .unset] [(.int nK), (.long (-cc)), (.ref kd)]))
            by_cases hK0 : nK = (0 : Int32)
            · skip
              refine own_st (fun t k => XS.ifYes X0.here hx rfl (pc0 := 218) (pc' := 227) rfl (hb hby at_218) rfl ((if0 _ _).trans (teq (hK0 : nK = (0 : Int32))).1) (by decide) (by decide) k) ?_
              show own_Run p e below s _ _ _ (T0.setTop (mkF m 227 #[.val (.long j0), .second, .val (.long j1), .second, .val (.int i2), .val (.int i3), .val (.int i4), .val (.int md), .val (.ref kd), .val (.int nC), .val (.int nK), .val (.int ng), .val (.int qv), .val (.long kk), .second, .val (.long cc), .second, .unset, .unset, .unset, .unset] [(.long (-cc)), (.ref kd)]))
              refine own_st (fun t k => XS.lload X0.here hx rfl (hb hby at_227) rfl k) ?_
              show own_Run p e below s _ _ _ (T0.setTop (mkF m 229 #[.val (.long j0), .second, .val (.long j1), .second, .val (.int i2), .val (.int i3), .val (.int i4), .val (.int md), .val (.ref kd), .val (.int nC), .val (.int nK), .val (.int ng), .val (.int qv), .val (.long kk), .second, .val (.long cc), .second, .unset, .unset, .unset, .unset] [(.long kk), (.long (-cc)), (.ref kd)]))
              refine own_callS X0 hx hZ (y := (⟨"com/example/tunegrid/tunegrid/IntervalContentionPinLaw", "contention", "(Lcom/example/tunegrid/tunegrid/Replication$Kind;JJ)D"⟩ : MethodName)) hown (hw _ (List.mem_of_getElem? (i := 4) rfl)) (hw _ (List.mem_of_getElem? (i := 5) rfl)) (hw _ (List.mem_of_getElem? (i := 7) rfl)) (hw _ (List.mem_of_getElem? (i := 6) rfl)) (by decide) e0 (argsL := [(.ref kd), (.long (-cc)), (.long kk)]) (rest := []) (W := 0) (own_rm1 l Z a0 hw [] kd (-cc) kk hs n0 (Nat.le_trans Z0 K0.1) ) (by decide) (by decide) (by rw [hml]; rfl) (lenOf own_pd6 rfl) rfl (by exact Nat.le_of_eq rfl) (hb hby at_229) (by decide) (by decide) ?_
              intro T93 v93 L93 X93 hq93
              obtain ⟨rfl, N93q, K93q⟩ := hq93
              have K94 : Keep h0 T93.heap [] := K0.trans K93q all0
              have O95 := O0.keep K93q all0
              have N93 := Fr.app N0 N93q
              show own_Run p e below s _ _ _ (T93.setTop (mkF m 232 #[.val (.long j0), .second, .val (.long j1), .second, .val (.int i2), .val (.int i3), .val (.int i4), .val (.int md), .val (.ref kd), .val (.int nC), .val (.int nK), .val (.int ng), .val (.int qv), .val (.long kk), .second, .val (.long cc), .second, .unset, .unset, .unset, .unset] [(.double (if kk = (0 : Int64) then (0 : UInt64) else (FP.ddiv (FP.l2d (-cc)) (FP.l2d kk))))]))
              obtain ⟨r, h_r⟩ : ∃ z, ((if kk = (0 : Int64) then (0 : UInt64) else (FP.ddiv (FP.l2d (-cc)) (FP.l2d kk))) : UInt64) = z := ⟨_, rfl⟩
              refine own_topD h_r ?_
              show own_Run p e below s _ _ _ (T93.setTop (mkF m 232 #[.val (.long j0), .second, .val (.long j1), .second, .val (.int i2), .val (.int i3), .val (.int i4), .val (.int md), .val (.ref kd), .val (.int nC), .val (.int nK), .val (.int ng), .val (.int qv), .val (.long kk), .second, .val (.long cc), .second, .unset, .unset, .unset, .unset] [(.double r)]))
              have z_r := own_m3b hq r_kk r_cc h_r
              refine own_st (fun t k => XS.dstore X93.here hx rfl (hb hby at_232) rfl (l' := #[.val (.long j0), .second, .val (.long j1), .second, .val (.int i2), .val (.int i3), .val (.int i4), .val (.int md), .val (.ref kd), .val (.int nC), .val (.int nK), .val (.int ng), .val (.int qv), .val (.long kk), .second, .val (.long cc), .second, .val (.double r), .second, .unset, .unset]) rfl k) ?_
              show own_Run p e below s _ _ _ (T93.setTop (mkF m 234 #[.val (.long j0), .second, .val (.long j1), .second, .val (.int i2), .val (.int i3), .val (.int i4), .val (.int md), .val (.ref kd), .val (.int nC), .val (.int nK), .val (.int ng), .val (.int qv), .val (.long kk), .second, .val (.long cc), .second, .val (.double r), .second, .unset, .unset] []))
              refine own_st (fun t k => XS.iload X93.here hx rfl (hb hby at_234) rfl k) ?_
              show own_Run p e below s _ _ _ (T93.setTop (mkF m 236 #[.val (.long j0), .second, .val (.long j1), .second, .val (.int i2), .val (.int i3), .val (.int i4), .val (.int md), .val (.ref kd), .val (.int nC), .val (.int nK), .val (.int ng), .val (.int qv), .val (.long kk), .second, .val (.long cc), .second, .val (.double r), .second, .unset, .unset] [(.int ng)]))
              refine own_st (fun t k => XS.ifNo X93.here hx rfl (hb hby at_236) rfl ((if0 _ _).trans (feq (by rw [hng, hC1, hK0]; decide : ¬ (ng = (0 : Int32)))).1) k) ?_
              show own_Run p e below s _ _ _ (T93.setTop (mkF m 239 #[.val (.long j0), .second, .val (.long j1), .second, .val (.int i2), .val (.int i3), .val (.int i4), .val (.int md), .val (.ref kd), .val (.int nC), .val (.int nK), .val (.int ng), .val (.int qv), .val (.long kk), .second, .val (.long cc), .second, .val (.double r), .second, .unset, .unset] []))
              refine own_st (fun t k => XS.iload X93.here hx rfl (hb hby at_239) rfl k) ?_
              show own_Run p e below s _ _ _ (T93.setTop (mkF m 241 #[.val (.long j0), .second, .val (.long j1), .second, .val (.int i2), .val (.int i3), .val (.int i4), .val (.int md), .val (.ref kd), .val (.int nC), .val (.int nK), .val (.int ng), .val (.int qv), .val (.long kk), .second, .val (.long cc), .second, .val (.double r), .second, .unset, .unset] [(.int qv)]))
              refine own_st (fun t k => XS.ineg X93.here hx rfl (hb hby at_241) rfl k) ?_
              show own_Run p e below s _ _ _ (T93.setTop (mkF m 242 #[.val (.long j0), .second, .val (.long j1), .second, .val (.int i2), .val (.int i3), .val (.int i4), .val (.int md), .val (.ref kd), .val (.int nC), .val (.int nK), .val (.int ng), .val (.int qv), .val (.long kk), .second, .val (.long cc), .second, .val (.double r), .second, .unset, .unset] [(.int (-qv))]))
              refine own_st (fun t k => XS.goto X93.here hx rfl (pc0 := 242) (pc' := 247) rfl (hb hby at_242) (by decide) (by decide) k) ?_
              show own_Run p e below s _ _ _ (T93.setTop (mkF m 247 #[.val (.long j0), .second, .val (.long j1), .second, .val (.int i2), .val (.int i3), .val (.int i4), .val (.int md), .val (.ref kd), .val (.int nC), .val (.int nK), .val (.int ng), .val (.int qv), .val (.long kk), .second, .val (.long cc), .second, .val (.double r), .second, .unset, .unset] [(.int (-qv))]))
              refine own_st (fun t k => XS.istore X93.here hx rfl (hb hby at_247) rfl (l' := #[.val (.long j0), .second, .val (.long j1), .second, .val (.int i2), .val (.int i3), .val (.int i4), .val (.int md), .val (.ref kd), .val (.int nC), .val (.int nK), .val (.int ng), .val (.int qv), .val (.long kk), .second, .val (.long cc), .second, .val (.double r), .second, .val (.int (-qv)), .unset]) rfl k) ?_
              show own_Run p e below s _ _ _ (T93.setTop (mkF m 249 #[.val (.long j0), .second, .val (.long j1), .second, .val (.int i2), .val (.int i3), .val (.int i4), .val (.int md), .val (.ref kd), .val (.int nC), .val (.int nK), .val (.int ng), .val (.int qv), .val (.long kk), .second, .val (.long cc), .second, .val (.double r), .second, .val (.int (-qv)), .unset] []))
              refine own_st (fun t k => XS.dload X93.here hx rfl (hb hby at_249) rfl k) ?_
              show own_Run p e below s _ _ _ (T93.setTop (mkF m 251 #[.val (.long j0), .second, .val (.long j1), .second, .val (.int i2), .val (.int i3), .val (.int i4), .val (.int md), .val (.ref kd), .val (.int nC), .val (.int nK), .val (.int ng), .val (.int qv), .val (.long kk), .second, .val (.long cc), .second, .val (.double r), .second, .val (.int (-qv)), .unset] [(.double r)]))
              refine own_st (fun t k => XS.iload X93.here hx rfl (hb hby at_251) rfl k) ?_
              show own_Run p e below s _ _ _ (T93.setTop (mkF m 253 #[.val (.long j0), .second, .val (.long j1), .second, .val (.int i2), .val (.int i3), .val (.int i4), .val (.int md), .val (.ref kd), .val (.int nC), .val (.int nK), .val (.int ng), .val (.int qv), .val (.long kk), .second, .val (.long cc), .second, .val (.double r), .second, .val (.int (-qv)), .unset] [(.int (-qv)), (.double r)]))
              refine own_st (fun t k => XS.i2dS X93.here hx rfl (hb hby at_253) rfl (v := (FP.i2d (-qv))) (rfl) k) ?_
              show own_Run p e below s _ _ _ (T93.setTop (mkF m 254 #[.val (.long j0), .second, .val (.long j1), .second, .val (.int i2), .val (.int i3), .val (.int i4), .val (.int md), .val (.ref kd), .val (.int nC), .val (.int nK), .val (.int ng), .val (.int qv), .val (.long kk), .second, .val (.long cc), .second, .val (.double r), .second, .val (.int (-qv)), .unset] [(.double (FP.i2d (-qv))), (.double r)]))
              refine own_st (fun t k => XS.dcmpS X93.here hx rfl (hb hby at_254) rfl (v := (0 : Int32)) (z_r.cmpE (own_Z.i2d _) ((own_n32 hq).symm) _) k) ?_
              show own_Run p e below s _ _ _ (T93.setTop (mkF m 255 #[.val (.long j0), .second, .val (.long j1), .second, .val (.int i2), .val (.int i3), .val (.int i4), .val (.int md), .val (.ref kd), .val (.int nC), .val (.int nK), .val (.int ng), .val (.int qv), .val (.long kk), .second, .val (.long cc), .second, .val (.double r), .second, .val (.int (-qv)), .unset] [(.int (0 : Int32))]))
              refine own_st (fun t k => XS.ifNo X93.here hx rfl (hb hby at_255) rfl ((if0 _ _).trans (teq (by decide : (0 : Int32) = (0 : Int32))).2) k) ?_
              show own_Run p e below s _ _ _ (T93.setTop (mkF m 258 #[.val (.long j0), .second, .val (.long j1), .second, .val (.int i2), .val (.int i3), .val (.int i4), .val (.int md), .val (.ref kd), .val (.int nC), .val (.int nK), .val (.int ng), .val (.int qv), .val (.long kk), .second, .val (.long cc), .second, .val (.double r), .second, .val (.int (-qv)), .unset] []))
              refine own_st (fun t k => XS.iconst X93.here hx rfl (hb hby at_258) k) ?_
              show own_Run p e below s _ _ _ (T93.setTop (mkF m 259 #[.val (.long j0), .second, .val (.long j1), .second, .val (.int i2), .val (.int i3), .val (.int i4), .val (.int md), .val (.ref kd), .val (.int nC), .val (.int nK), .val (.int ng), .val (.int qv), .val (.long kk), .second, .val (.long cc), .second, .val (.double r), .second, .val (.int (-qv)), .unset] [(.int (1 : Int32))]))
              refine own_st (fun t k => XS.goto X93.here hx rfl (pc0 := 259) (pc' := 263) rfl (hb hby at_259) (by decide) (by decide) k) ?_
              show own_Run p e below s _ _ _ (T93.setTop (mkF m 263 #[.val (.long j0), .second, .val (.long j1), .second, .val (.int i2), .val (.int i3), .val (.int i4), .val (.int md), .val (.ref kd), .val (.int nC), .val (.int nK), .val (.int ng), .val (.int qv), .val (.long kk), .second, .val (.long cc), .second, .val (.double r), .second, .val (.int (-qv)), .unset] [(.int (1 : Int32))]))
              exact own_ret X93 hx hlk (t := .boolean) hret rfl (Or.inl ⟨rfl, by simp, _, rfl⟩) (hb hby at_263) (by decide) (by decide) ⟨rfl, N93⟩
            · skip
              have hK1 := hnK.resolve_left hK0
              refine own_st (fun t k => XS.ifNo X0.here hx rfl (hb hby at_218) rfl ((if0 _ _).trans (feq (hK0 : ¬ (nK = (0 : Int32)))).1) k) ?_
              show own_Run p e below s _ _ _ (T0.setTop (mkF m 221 #[.val (.long j0), .second, .val (.long j1), .second, .val (.int i2), .val (.int i3), .val (.int i4), .val (.int md), .val (.ref kd), .val (.int nC), .val (.int nK), .val (.int ng), .val (.int qv), .val (.long kk), .second, .val (.long cc), .second, .unset, .unset, .unset, .unset] [(.long (-cc)), (.ref kd)]))
              refine own_st (fun t k => XS.lload X0.here hx rfl (hb hby at_221) rfl k) ?_
              show own_Run p e below s _ _ _ (T0.setTop (mkF m 223 #[.val (.long j0), .second, .val (.long j1), .second, .val (.int i2), .val (.int i3), .val (.int i4), .val (.int md), .val (.ref kd), .val (.int nC), .val (.int nK), .val (.int ng), .val (.int qv), .val (.long kk), .second, .val (.long cc), .second, .unset, .unset, .unset, .unset] [(.long kk), (.long (-cc)), (.ref kd)]))
              refine own_st (fun t k => XS.lneg X0.here hx rfl (hb hby at_223) rfl k) ?_
              show own_Run p e below s _ _ _ (T0.setTop (mkF m 224 #[.val (.long j0), .second, .val (.long j1), .second, .val (.int i2), .val (.int i3), .val (.int i4), .val (.int md), .val (.ref kd), .val (.int nC), .val (.int nK), .val (.int ng), .val (.int qv), .val (.long kk), .second, .val (.long cc), .second, .unset, .unset, .unset, .unset] [(.long (-kk)), (.long (-cc)), (.ref kd)]))
              refine own_st (fun t k => XS.goto X0.here hx rfl (pc0 := 224) (pc' := 229) rfl (hb hby at_224) (by decide) (by decide) k) ?_
              show own_Run p e below s _ _ _ (T0.setTop (mkF m 229 #[.val (.long j0), .second, .val (.long j1), .second, .val (.int i2), .val (.int i3), .val (.int i4), .val (.int md), .val (.ref kd), .val (.int nC), .val (.int nK), .val (.int ng), .val (.int qv), .val (.long kk), .second, .val (.long cc), .second, .unset, .unset, .unset, .unset] [(.long (-kk)), (.long (-cc)), (.ref kd)]))
              refine own_callS X0 hx hZ (y := (⟨"com/example/tunegrid/tunegrid/IntervalContentionPinLaw", "contention", "(Lcom/example/tunegrid/tunegrid/Replication$Kind;JJ)D"⟩ : MethodName)) hown (hw _ (List.mem_of_getElem? (i := 4) rfl)) (hw _ (List.mem_of_getElem? (i := 5) rfl)) (hw _ (List.mem_of_getElem? (i := 7) rfl)) (hw _ (List.mem_of_getElem? (i := 6) rfl)) (by decide) e0 (argsL := [(.ref kd), (.long (-cc)), (.long (-kk))]) (rest := []) (W := 0) (own_rm1 l Z a0 hw [] kd (-cc) (-kk) hs n0 (Nat.le_trans Z0 K0.1) ) (by decide) (by decide) (by rw [hml]; rfl) (lenOf own_pd6 rfl) rfl (by exact Nat.le_of_eq rfl) (hb hby at_229) (by decide) (by decide) ?_
              intro T96 v96 L96 X96 hq96
              obtain ⟨rfl, N96q, K96q⟩ := hq96
              have K97 : Keep h0 T96.heap [] := K0.trans K96q all0
              have O98 := O0.keep K96q all0
              have N96 := Fr.app N0 N96q
              show own_Run p e below s _ _ _ (T96.setTop (mkF m 232 #[.val (.long j0), .second, .val (.long j1), .second, .val (.int i2), .val (.int i3), .val (.int i4), .val (.int md), .val (.ref kd), .val (.int nC), .val (.int nK), .val (.int ng), .val (.int qv), .val (.long kk), .second, .val (.long cc), .second, .unset, .unset, .unset, .unset] [(.double (if (-kk) = (0 : Int64) then (0 : UInt64) else (FP.ddiv (FP.l2d (-cc)) (FP.l2d (-kk)))))]))
              obtain ⟨r, h_r⟩ : ∃ z, ((if (-kk) = (0 : Int64) then (0 : UInt64) else (FP.ddiv (FP.l2d (-cc)) (FP.l2d (-kk)))) : UInt64) = z := ⟨_, rfl⟩
              refine own_topD h_r ?_
              show own_Run p e below s _ _ _ (T96.setTop (mkF m 232 #[.val (.long j0), .second, .val (.long j1), .second, .val (.int i2), .val (.int i3), .val (.int i4), .val (.int md), .val (.ref kd), .val (.int nC), .val (.int nK), .val (.int ng), .val (.int qv), .val (.long kk), .second, .val (.long cc), .second, .unset, .unset, .unset, .unset] [(.double r)]))
              have z_r := own_m3d hq r_kk r_cc h_r
              refine own_st (fun t k => XS.dstore X96.here hx rfl (hb hby at_232) rfl (l' := #[.val (.long j0), .second, .val (.long j1), .second, .val (.int i2), .val (.int i3), .val (.int i4), .val (.int md), .val (.ref kd), .val (.int nC), .val (.int nK), .val (.int ng), .val (.int qv), .val (.long kk), .second, .val (.long cc), .second, .val (.double r), .second, .unset, .unset]) rfl k) ?_
              show own_Run p e below s _ _ _ (T96.setTop (mkF m 234 #[.val (.long j0), .second, .val (.long j1), .second, .val (.int i2), .val (.int i3), .val (.int i4), .val (.int md), .val (.ref kd), .val (.int nC), .val (.int nK), .val (.int ng), .val (.int qv), .val (.long kk), .second, .val (.long cc), .second, .val (.double r), .second, .unset, .unset] []))
              refine own_st (fun t k => XS.iload X96.here hx rfl (hb hby at_234) rfl k) ?_
              show own_Run p e below s _ _ _ (T96.setTop (mkF m 236 #[.val (.long j0), .second, .val (.long j1), .second, .val (.int i2), .val (.int i3), .val (.int i4), .val (.int md), .val (.ref kd), .val (.int nC), .val (.int nK), .val (.int ng), .val (.int qv), .val (.long kk), .second, .val (.long cc), .second, .val (.double r), .second, .unset, .unset] [(.int ng)]))
              refine own_st (fun t k => XS.ifYes X96.here hx rfl (pc0 := 236) (pc' := 245) rfl (hb hby at_236) rfl ((if0 _ _).trans (teq (by rw [hng, hC1, hK1]; decide : ng = (0 : Int32))).1) (by decide) (by decide) k) ?_
              show own_Run p e below s _ _ _ (T96.setTop (mkF m 245 #[.val (.long j0), .second, .val (.long j1), .second, .val (.int i2), .val (.int i3), .val (.int i4), .val (.int md), .val (.ref kd), .val (.int nC), .val (.int nK), .val (.int ng), .val (.int qv), .val (.long kk), .second, .val (.long cc), .second, .val (.double r), .second, .unset, .unset] []))
              refine own_st (fun t k => XS.iload X96.here hx rfl (hb hby at_245) rfl k) ?_
              show own_Run p e below s _ _ _ (T96.setTop (mkF m 247 #[.val (.long j0), .second, .val (.long j1), .second, .val (.int i2), .val (.int i3), .val (.int i4), .val (.int md), .val (.ref kd), .val (.int nC), .val (.int nK), .val (.int ng), .val (.int qv), .val (.long kk), .second, .val (.long cc), .second, .val (.double r), .second, .unset, .unset] [(.int qv)]))
              refine own_st (fun t k => XS.istore X96.here hx rfl (hb hby at_247) rfl (l' := #[.val (.long j0), .second, .val (.long j1), .second, .val (.int i2), .val (.int i3), .val (.int i4), .val (.int md), .val (.ref kd), .val (.int nC), .val (.int nK), .val (.int ng), .val (.int qv), .val (.long kk), .second, .val (.long cc), .second, .val (.double r), .second, .val (.int qv), .unset]) rfl k) ?_
              show own_Run p e below s _ _ _ (T96.setTop (mkF m 249 #[.val (.long j0), .second, .val (.long j1), .second, .val (.int i2), .val (.int i3), .val (.int i4), .val (.int md), .val (.ref kd), .val (.int nC), .val (.int nK), .val (.int ng), .val (.int qv), .val (.long kk), .second, .val (.long cc), .second, .val (.double r), .second, .val (.int qv), .unset] []))
              refine own_st (fun t k => XS.dload X96.here hx rfl (hb hby at_249) rfl k) ?_
              show own_Run p e below s _ _ _ (T96.setTop (mkF m 251 #[.val (.long j0), .second, .val (.long j1), .second, .val (.int i2), .val (.int i3), .val (.int i4), .val (.int md), .val (.ref kd), .val (.int nC), .val (.int nK), .val (.int ng), .val (.int qv), .val (.long kk), .second, .val (.long cc), .second, .val (.double r), .second, .val (.int qv), .unset] [(.double r)]))
              refine own_st (fun t k => XS.iload X96.here hx rfl (hb hby at_251) rfl k) ?_
              show own_Run p e below s _ _ _ (T96.setTop (mkF m 253 #[.val (.long j0), .second, .val (.long j1), .second, .val (.int i2), .val (.int i3), .val (.int i4), .val (.int md), .val (.ref kd), .val (.int nC), .val (.int nK), .val (.int ng), .val (.int qv), .val (.long kk), .second, .val (.long cc), .second, .val (.double r), .second, .val (.int qv), .unset] [(.int qv), (.double r)]))
              refine own_st (fun t k => XS.i2dS X96.here hx rfl (hb hby at_253) rfl (v := (FP.i2d qv)) (rfl) k) ?_
              show own_Run p e below s _ _ _ (T96.setTop (mkF m 254 #[.val (.long j0), .second, .val (.long j1), .second, .val (.int i2), .val (.int i3), .val (.int i4), .val (.int md), .val (.ref kd), .val (.int nC), .val (.int nK), .val (.int ng), .val (.int qv), .val (.long kk), .second, .val (.long cc), .second, .val (.double r), .second, .val (.int qv), .unset] [(.double (FP.i2d qv)), (.double r)]))
              refine own_st (fun t k => XS.dcmpS X96.here hx rfl (hb hby at_254) rfl (v := (0 : Int32)) (z_r.cmpE (own_Z.i2d _) (rfl) _) k) ?_
              show own_Run p e below s _ _ _ (T96.setTop (mkF m 255 #[.val (.long j0), .second, .val (.long j1), .second, .val (.int i2), .val (.int i3), .val (.int i4), .val (.int md), .val (.ref kd), .val (.int nC), .val (.int nK), .val (.int ng), .val (.int qv), .val (.long kk), .second, .val (.long cc), .second, .val (.double r), .second, .val (.int qv), .unset] [(.int (0 : Int32))]))
              refine own_st (fun t k => XS.ifNo X96.here hx rfl (hb hby at_255) rfl ((if0 _ _).trans (teq (by decide : (0 : Int32) = (0 : Int32))).2) k) ?_
              show own_Run p e below s _ _ _ (T96.setTop (mkF m 258 #[.val (.long j0), .second, .val (.long j1), .second, .val (.int i2), .val (.int i3), .val (.int i4), .val (.int md), .val (.ref kd), .val (.int nC), .val (.int nK), .val (.int ng), .val (.int qv), .val (.long kk), .second, .val (.long cc), .second, .val (.double r), .second, .val (.int qv), .unset] []))
              refine own_st (fun t k => XS.iconst X96.here hx rfl (hb hby at_258) k) ?_
              show own_Run p e below s _ _ _ (T96.setTop (mkF m 259 #[.val (.long j0), .second, .val (.long j1), .second, .val (.int i2), .val (.int i3), .val (.int i4), .val (.int md), .val (.ref kd), .val (.int nC), .val (.int nK), .val (.int ng), .val (.int qv), .val (.long kk), .second, .val (.long cc), .second, .val (.double r), .second, .val (.int qv), .unset] [(.int (1 : Int32))]))
              refine own_st (fun t k => XS.goto X96.here hx rfl (pc0 := 259) (pc' := 263) rfl (hb hby at_259) (by decide) (by decide) k) ?_
              show own_Run p e below s _ _ _ (T96.setTop (mkF m 263 #[.val (.long j0), .second, .val (.long j1), .second, .val (.int i2), .val (.int i3), .val (.int i4), .val (.int md), .val (.ref kd), .val (.int nC), .val (.int nK), .val (.int ng), .val (.int qv), .val (.long kk), .second, .val (.long cc), .second, .val (.double r), .second, .val (.int qv), .unset] [(.int (1 : Int32))]))
              exact own_ret X96 hx hlk (t := .boolean) hret rfl (Or.inl ⟨rfl, by simp, _, rfl⟩) (hb hby at_263) (by decide) (by decide) ⟨rfl, N96⟩
        · skip
          refine own_st (fun t k => XS.icmpYes X0.here hx rfl (pc0 := 180) (pc' := 264) rfl (hb hby at_180) rfl (feq (hM3 : ¬ (md = (3 : Int32)))).2 (by decide) (by decide) k) ?_
          show own_Run p e below s _ _ _ (T0.setTop (mkF m 264 #[.val (.long j0), .second, .val (.long j1), .second, .val (.int i2), .val (.int i3), .val (.int i4), .val (.int md), .val (.ref kd), .val (.int nC), .val (.int nK), .val (.int ng), .val (.int qv), .unset, .unset, .unset, .unset, .unset, .unset, .unset, .unset] []))
          refine own_st (fun t k => XS.iload X0.here hx rfl (hb hby at_264) rfl k) ?_
          show own_Run p e below s _ _ _ (T0.setTop (mkF m 266 #[.val (.long j0), .second, .val (.long j1), .second, .val (.int i2), .val (.int i3), .val (.int i4), .val (.int md), .val (.ref kd), .val (.int nC), .val (.int nK), .val (.int ng), .val (.int qv), .unset, .unset, .unset, .unset, .unset, .unset, .unset, .unset] [(.int md)]))
          refine own_st (fun t k => XS.iconst X0.here hx rfl (hb hby at_266) k) ?_
          show own_Run p e below s _ _ _ (T0.setTop (mkF m 267 #[.val (.long j0), .second, .val (.long j1), .second, .val (.int i2), .val (.int i3), .val (.int i4), .val (.int md), .val (.ref kd), .val (.int nC), .val (.int nK), .val (.int ng), .val (.int qv), .unset, .unset, .unset, .unset, .unset, .unset, .unset, .unset] [(.int (4 : Int32)), (.int md)]))
          by_cases hM4 : md = (4 : Int32)
          · skip
            refine own_st (fun t k => XS.icmpNo X0.here hx rfl (hb hby at_267) rfl (teq (hM4 : md = (4 : Int32))).2 k) ?_
            show own_Run p e below s _ _ _ (T0.setTop (mkF m 270 #[.val (.long j0), .second, .val (.long j1), .second, .val (.int i2), .val (.int i3), .val (.int i4), .val (.int md), .val (.ref kd), .val (.int nC), .val (.int nK), .val (.int ng), .val (.int qv), .unset, .unset, .unset, .unset, .unset, .unset, .unset, .unset] []))
            refine own_st (fun t k => XS.iload X0.here hx rfl (hb hby at_270) rfl k) ?_
            show own_Run p e below s _ _ _ (T0.setTop (mkF m 272 #[.val (.long j0), .second, .val (.long j1), .second, .val (.int i2), .val (.int i3), .val (.int i4), .val (.int md), .val (.ref kd), .val (.int nC), .val (.int nK), .val (.int ng), .val (.int qv), .unset, .unset, .unset, .unset, .unset, .unset, .unset, .unset] [(.int i2)]))
            refine own_st (X0.ldcInt hx hown (mvT hZ (hw _ (List.mem_of_getElem? (i := 54) rfl))) (g := (mkF m 272 #[.val (.long j0), .second, .val (.long j1), .second, .val (.int i2), .val (.int i3), .val (.int i4), .val (.int md), .val (.ref kd), .val (.int nC), .val (.int nK), .val (.int ng), .val (.int qv), .unset, .unset, .unset, .unset, .unset, .unset, .unset, .unset] [(.int i2)])) rfl (hb hby at_272)) ?_
            show own_Run p e below s _ _ _ (T0.setTop (mkF m 274 #[.val (.long j0), .second, .val (.long j1), .second, .val (.int i2), .val (.int i3), .val (.int i4), .val (.int md), .val (.ref kd), .val (.int nC), .val (.int nK), .val (.int ng), .val (.int qv), .unset, .unset, .unset, .unset, .unset, .unset, .unset, .unset] [(.int (524287 : Int32)), (.int i2)]))
            refine own_st (fun t k => XS.iand X0.here hx rfl (hb hby at_274) rfl k) ?_
            show own_Run p e below s _ _ _ (T0.setTop (mkF m 275 #[.val (.long j0), .second, .val (.long j1), .second, .val (.int i2), .val (.int i3), .val (.int i4), .val (.int md), .val (.ref kd), .val (.int nC), .val (.int nK), .val (.int ng), .val (.int qv), .unset, .unset, .unset, .unset, .unset, .unset, .unset, .unset] [(.int (i2 &&& (524287 : Int32)))]))
            refine own_st (fun t k => XS.i2l X0.here hx rfl (hb hby at_275) rfl k) ?_
            show own_Run p e below s _ _ _ (T0.setTop (mkF m 276 #[.val (.long j0), .second, .val (.long j1), .second, .val (.int i2), .val (.int i3), .val (.int i4), .val (.int md), .val (.ref kd), .val (.int nC), .val (.int nK), .val (.int ng), .val (.int qv), .unset, .unset, .unset, .unset, .unset, .unset, .unset, .unset] [(.long ((i2 &&& (524287 : Int32)).toInt64))]))
            refine own_st (fun t k => XS.lconst X0.here hx rfl (hb hby at_276) k) ?_
            show own_Run p e below s _ _ _ (T0.setTop (mkF m 277 #[.val (.long j0), .second, .val (.long j1), .second, .val (.int i2), .val (.int i3), .val (.int i4), .val (.int md), .val (.ref kd), .val (.int nC), .val (.int nK), .val (.int ng), .val (.int qv), .unset, .unset, .unset, .unset, .unset, .unset, .unset, .unset] [(.long (1 : Int64)), (.long ((i2 &&& (524287 : Int32)).toInt64))]))
            refine own_st (fun t k => XS.ladd X0.here hx rfl (hb hby at_277) rfl k) ?_
            show own_Run p e below s _ _ _ (T0.setTop (mkF m 278 #[.val (.long j0), .second, .val (.long j1), .second, .val (.int i2), .val (.int i3), .val (.int i4), .val (.int md), .val (.ref kd), .val (.int nC), .val (.int nK), .val (.int ng), .val (.int qv), .unset, .unset, .unset, .unset, .unset, .unset, .unset, .unset] [(.long (((i2 &&& (524287 : Int32)).toInt64) + (1 : Int64)))]))
            refine own_st (X0.ldc2Long hx hown (mvT hZ (hw _ (List.mem_of_getElem? (i := 55) rfl))) (g := (mkF m 278 #[.val (.long j0), .second, .val (.long j1), .second, .val (.int i2), .val (.int i3), .val (.int i4), .val (.int md), .val (.ref kd), .val (.int nC), .val (.int nK), .val (.int ng), .val (.int qv), .unset, .unset, .unset, .unset, .unset, .unset, .unset, .unset] [(.long (((i2 &&& (524287 : Int32)).toInt64) + (1 : Int64)))])) rfl (hb hby at_278)) ?_
            show own_Run p e below s _ _ _ (T0.setTop (mkF m 281 #[.val (.long j0), .second, .val (.long j1), .second, .val (.int i2), .val (.int i3), .val (.int i4), .val (.int md), .val (.ref kd), .val (.int nC), .val (.int nK), .val (.int ng), .val (.int qv), .unset, .unset, .unset, .unset, .unset, .unset, .unset, .unset] [(.long (2 : Int64)), (.long (((i2 &&& (524287 : Int32)).toInt64) + (1 : Int64)))]))
            refine own_st (fun t k => XS.lmul X0.here hx rfl (hb hby at_281) rfl k) ?_
            show own_Run p e below s _ _ _ (T0.setTop (mkF m 282 #[.val (.long j0), .second, .val (.long j1), .second, .val (.int i2), .val (.int i3), .val (.int i4), .val (.int md), .val (.ref kd), .val (.int nC), .val (.int nK), .val (.int ng), .val (.int qv), .unset, .unset, .unset, .unset, .unset, .unset, .unset, .unset] [(.long ((((i2 &&& (524287 : Int32)).toInt64) + (1 : Int64)) * (2 : Int64)))]))
            obtain ⟨kk, h_kk⟩ : ∃ z, (((((i2 &&& (524287 : Int32)).toInt64) + (1 : Int64)) * (2 : Int64)) : Int64) = z := ⟨_, rfl⟩
            refine own_topJ h_kk ?_
            show own_Run p e below s _ _ _ (T0.setTop (mkF m 282 #[.val (.long j0), .second, .val (.long j1), .second, .val (.int i2), .val (.int i3), .val (.int i4), .val (.int md), .val (.ref kd), .val (.int nC), .val (.int nK), .val (.int ng), .val (.int qv), .unset, .unset, .unset, .unset, .unset, .unset, .unset, .unset] [(.long kk)]))
            obtain ⟨m4, r_m4, r_kk⟩ := own_kk4 h_kk
            refine own_st (fun t k => XS.lstore X0.here hx rfl (hb hby at_282) rfl (l' := #[.val (.long j0), .second, .val (.long j1), .second, .val (.int i2), .val (.int i3), .val (.int i4), .val (.int md), .val (.ref kd), .val (.int nC), .val (.int nK), .val (.int ng), .val (.int qv), .val (.long kk), .second, .unset, .unset, .unset, .unset, .unset, .unset]) rfl k) ?_
            show own_Run p e below s _ _ _ (T0.setTop (mkF m 284 #[.val (.long j0), .second, .val (.long j1), .second, .val (.int i2), .val (.int i3), .val (.int i4), .val (.int md), .val (.ref kd), .val (.int nC), .val (.int nK), .val (.int ng), .val (.int qv), .val (.long kk), .second, .unset, .unset, .unset, .unset, .unset, .unset] []))
            refine own_st (fun t k => XS.iload X0.here hx rfl (hb hby at_284) rfl k) ?_
            show own_Run p e below s _ _ _ (T0.setTop (mkF m 286 #[.val (.long j0), .second, .val (.long j1), .second, .val (.int i2), .val (.int i3), .val (.int i4), .val (.int md), .val (.ref kd), .val (.int nC), .val (.int nK), .val (.int ng), .val (.int qv), .val (.long kk), .second, .unset, .unset, .unset, .unset, .unset, .unset] [(.int qv)]))
            refine own_st (fun t k => XS.i2l X0.here hx rfl (hb hby at_286) rfl k) ?_
            show own_Run p e below s _ _ _ (T0.setTop (mkF m 287 #[.val (.long j0), .second, .val (.long j1), .second, .val (.int i2), .val (.int i3), .val (.int i4), .val (.int md), .val (.ref kd), .val (.int nC), .val (.int nK), .val (.int ng), .val (.int qv), .val (.long kk), .second, .unset, .unset, .unset, .unset, .unset, .unset] [(.long (qv.toInt64))]))
            refine own_st (fun t k => XS.lload X0.here hx rfl (hb hby at_287) rfl k) ?_
            show own_Run p e below s _ _ _ (T0.setTop (mkF m 289 #[.val (.long j0), .second, .val (.long j1), .second, .val (.int i2), .val (.int i3), .val (.int i4), .val (.int md), .val (.ref kd), .val (.int nC), .val (.int nK), .val (.int ng), .val (.int qv), .val (.long kk), .second, .unset, .unset, .unset, .unset, .unset, .unset] [(.long kk), (.long (qv.toInt64))]))
            refine own_st (fun t k => XS.lmul X0.here hx rfl (hb hby at_289) rfl k) ?_
            show own_Run p e below s _ _ _ (T0.setTop (mkF m 290 #[.val (.long j0), .second, .val (.long j1), .second, .val (.int i2), .val (.int i3), .val (.int i4), .val (.int md), .val (.ref kd), .val (.int nC), .val (.int nK), .val (.int ng), .val (.int qv), .val (.long kk), .second, .unset, .unset, .unset, .unset, .unset, .unset] [(.long ((qv.toInt64) * kk))]))
            refine own_st (fun t k => XS.lload X0.here hx rfl (hb hby at_290) rfl k) ?_
            show own_Run p e below s _ _ _ (T0.setTop (mkF m 292 #[.val (.long j0), .second, .val (.long j1), .second, .val (.int i2), .val (.int i3), .val (.int i4), .val (.int md), .val (.ref kd), .val (.int nC), .val (.int nK), .val (.int ng), .val (.int qv), .val (.long kk), .second, .unset, .unset, .unset, .unset, .unset, .unset] [(.long kk), (.long ((qv.toInt64) * kk))]))
            refine own_st (X0.ldc2Long hx hown (mvT hZ (hw _ (List.mem_of_getElem? (i := 55) rfl))) (g := (mkF m 292 #[.val (.long j0), .second, .val (.long j1), .second, .val (.int i2), .val (.int i3), .val (.int i4), .val (.int md), .val (.ref kd), .val (.int nC), .val (.int nK), .val (.int ng), .val (.int qv), .val (.long kk), .second, .unset, .unset, .unset, .unset, .unset, .unset] [(.long kk), (.long ((qv.toInt64) * kk))])) rfl (hb hby at_292)) ?_
            show own_Run p e below s _ _ _ (T0.setTop (mkF m 295 #[.val (.long j0), .second, .val (.long j1), .second, .val (.int i2), .val (.int i3), .val (.int i4), .val (.int md), .val (.ref kd), .val (.int nC), .val (.int nK), .val (.int ng), .val (.int qv), .val (.long kk), .second, .unset, .unset, .unset, .unset, .unset, .unset] [(.long (2 : Int64)), (.long kk), (.long ((qv.toInt64) * kk))]))
            refine own_st (fun t k => XS.ldiv X0.here hx rfl (hb hby at_295) rfl (by decide) k) ?_
            show own_Run p e below s _ _ _ (T0.setTop (mkF m 296 #[.val (.long j0), .second, .val (.long j1), .second, .val (.int i2), .val (.int i3), .val (.int i4), .val (.int md), .val (.ref kd), .val (.int nC), .val (.int nK), .val (.int ng), .val (.int qv), .val (.long kk), .second, .unset, .unset, .unset, .unset, .unset, .unset] [(.long (kk / (2 : Int64))), (.long ((qv.toInt64) * kk))]))
            refine own_st (fun t k => XS.ladd X0.here hx rfl (hb hby at_296) rfl k) ?_
            show own_Run p e below s _ _ _ (T0.setTop (mkF m 297 #[.val (.long j0), .second, .val (.long j1), .second, .val (.int i2), .val (.int i3), .val (.int i4), .val (.int md), .val (.ref kd), .val (.int nC), .val (.int nK), .val (.int ng), .val (.int qv), .val (.long kk), .second, .unset, .unset, .unset, .unset, .unset, .unset] [(.long (((qv.toInt64) * kk) + (kk / (2 : Int64))))]))
            obtain ⟨cc, h_cc⟩ : ∃ z, ((((qv.toInt64) * kk) + (kk / (2 : Int64))) : Int64) = z := ⟨_, rfl⟩
            refine own_topJ h_cc ?_
            show own_Run p e below s _ _ _ (T0.setTop (mkF m 297 #[.val (.long j0), .second, .val (.long j1), .second, .val (.int i2), .val (.int i3), .val (.int i4), .val (.int md), .val (.ref kd), .val (.int nC), .val (.int nK), .val (.int ng), .val (.int qv), .val (.long kk), .second, .unset, .unset, .unset, .unset, .unset, .unset] [(.long cc)]))
            have r_cc := own_cc4 hq r_m4 r_kk h_cc
            refine own_st (fun t k => XS.lstore X0.here hx rfl (hb hby at_297) rfl (l' := #[.val (.long j0), .second, .val (.long j1), .second, .val (.int i2), .val (.int i3), .val (.int i4), .val (.int md), .val (.ref kd), .val (.int nC), .val (.int nK), .val (.int ng), .val (.int qv), .val (.long kk), .second, .val (.long cc), .second, .unset, .unset, .unset, .unset]) rfl k) ?_
            show own_Run p e below s _ _ _ (T0.setTop (mkF m 299 #[.val (.long j0), .second, .val (.long j1), .second, .val (.int i2), .val (.int i3), .val (.int i4), .val (.int md), .val (.ref kd), .val (.int nC), .val (.int nK), .val (.int ng), .val (.int qv), .val (.long kk), .second, .val (.long cc), .second, .unset, .unset, .unset, .unset] []))
            refine own_st (fun t k => XS.aload X0.here hx rfl (hb hby at_299) rfl rfl k) ?_
            show own_Run p e below s _ _ _ (T0.setTop (mkF m 301 #[.val (.long j0), .second, .val (.long j1), .second, .val (.int i2), .val (.int i3), .val (.int i4), .val (.int md), .val (.ref kd), .val (.int nC), .val (.int nK), .val (.int ng), .val (.int qv), .val (.long kk), .second, .val (.long cc), .second, .unset, .unset, .unset, .unset] [(.ref kd)]))
            refine own_st (fun t k => XS.iload X0.here hx rfl (hb hby at_301) rfl k) ?_
            show own_Run p e below s _ _ _ (T0.setTop (mkF m 303 #[.val (.long j0), .second, .val (.long j1), .second, .val (.int i2), .val (.int i3), .val (.int i4), .val (.int md), .val (.ref kd), .val (.int nC), .val (.int nK), .val (.int ng), .val (.int qv), .val (.long kk), .second, .val (.long cc), .second, .unset, .unset, .unset, .unset] [(.int nC), (.ref kd)]))
            by_cases hC0 : nC = (0 : Int32)
            · skip
              refine own_st (fun t k => XS.ifYes X0.here hx rfl (pc0 := 303) (pc' := 312) rfl (hb hby at_303) rfl ((if0 _ _).trans (teq (hC0 : nC = (0 : Int32))).1) (by decide) (by decide) k) ?_
              show own_Run p e below s _ _ _ (T0.setTop (mkF m 312 #[.val (.long j0), .second, .val (.long j1), .second, .val (.int i2), .val (.int i3), .val (.int i4), .val (.int md), .val (.ref kd), .val (.int nC), .val (.int nK), .val (.int ng), .val (.int qv), .val (.long kk), .second, .val (.long cc), .second, .unset, .unset, .unset, .unset] [(.ref kd)]))
              refine own_st (fun t k => XS.lload X0.here hx rfl (hb hby at_312) rfl k) ?_
              show own_Run p e below s _ _ _ (T0.setTop (mkF m 314 #[.val (.long j0), .second, .val (.long j1), .second, .val (.int i2), .val (.int i3), .val (.int i4), .val (.int md), .val (.ref kd), .val (.int nC), .val (.int nK), .val (.int ng), .val (.int qv), .val (.long kk), .second, .val (.long cc), .second, .unset, .unset, .unset, .unset] [(.long cc), (.ref kd)]))
              refine own_st (fun t k => XS.iload X0.here hx rfl (hb hby at_314) rfl k) ?_
              show own_Run p e below s _ _ _ (T0.setTop (mkF m 316 #[.val (.long j0), .second, .val (.long j1), .second, .val (.int i2), .val (.int i3), .val (.int i4), .val (.int md), .val (.ref kd), .val (.int nC), .val (.int nK), .val (.int ng), .val (.int qv), .val (.long kk), .second, .val (.long cc), .second, .unset, .unset, .unset, .unset] [(.int nK), (.long cc), (.ref kd)]))
              by_cases hK0 : nK = (0 : Int32)
              · skip
                refine own_st (fun t k => XS.ifYes X0.here hx rfl (pc0 := 316) (pc' := 325) rfl (hb hby at_316) rfl ((if0 _ _).trans (teq (hK0 : nK = (0 : Int32))).1) (by decide) (by decide) k) ?_
                show own_Run p e below s _ _ _ (T0.setTop (mkF m 325 #[.val (.long j0), .second, .val (.long j1), .second, .val (.int i2), .val (.int i3), .val (.int i4), .val (.int md), .val (.ref kd), .val (.int nC), .val (.int nK), .val (.int ng), .val (.int qv), .val (.long kk), .second, .val (.long cc), .second, .unset, .unset, .unset, .unset] [(.long cc), (.ref kd)]))
                refine own_st (fun t k => XS.lload X0.here hx rfl (hb hby at_325) rfl k) ?_
                show own_Run p e below s _ _ _ (T0.setTop (mkF m 327 #[.val (.long j0), .second, .val (.long j1), .second, .val (.int i2), .val (.int i3), .val (.int i4), .val (.int md), .val (.ref kd), .val (.int nC), .val (.int nK), .val (.int ng), .val (.int qv), .val (.long kk), .second, .val (.long cc), .second, .unset, .unset, .unset, .unset] [(.long kk), (.long cc), (.ref kd)]))
                refine own_callS X0 hx hZ (y := (⟨"com/example/tunegrid/tunegrid/IntervalContentionPinLaw", "contention", "(Lcom/example/tunegrid/tunegrid/Replication$Kind;JJ)D"⟩ : MethodName)) hown (hw _ (List.mem_of_getElem? (i := 4) rfl)) (hw _ (List.mem_of_getElem? (i := 5) rfl)) (hw _ (List.mem_of_getElem? (i := 7) rfl)) (hw _ (List.mem_of_getElem? (i := 6) rfl)) (by decide) e0 (argsL := [(.ref kd), (.long cc), (.long kk)]) (rest := []) (W := 0) (own_rm1 l Z a0 hw [] kd cc kk hs n0 (Nat.le_trans Z0 K0.1) ) (by decide) (by decide) (by rw [hml]; rfl) (lenOf own_pd6 rfl) rfl (by exact Nat.le_of_eq rfl) (hb hby at_327) (by decide) (by decide) ?_
                intro T99 v99 L99 X99 hq99
                obtain ⟨rfl, N99q, K99q⟩ := hq99
                have K100 : Keep h0 T99.heap [] := K0.trans K99q all0
                have O101 := O0.keep K99q all0
                have N99 := Fr.app N0 N99q
                show own_Run p e below s _ _ _ (T99.setTop (mkF m 330 #[.val (.long j0), .second, .val (.long j1), .second, .val (.int i2), .val (.int i3), .val (.int i4), .val (.int md), .val (.ref kd), .val (.int nC), .val (.int nK), .val (.int ng), .val (.int qv), .val (.long kk), .second, .val (.long cc), .second, .unset, .unset, .unset, .unset] [(.double (if kk = (0 : Int64) then (0 : UInt64) else (FP.ddiv (FP.l2d cc) (FP.l2d kk))))]))
                obtain ⟨r, h_r⟩ : ∃ z, ((if kk = (0 : Int64) then (0 : UInt64) else (FP.ddiv (FP.l2d cc) (FP.l2d kk))) : UInt64) = z := ⟨_, rfl⟩
                refine own_topD h_r ?_
                show own_Run p e below s _ _ _ (T99.setTop (mkF m 330 #[.val (.long j0), .second, .val (.long j1), .second, .val (.int i2), .val (.int i3), .val (.int i4), .val (.int md), .val (.ref kd), .val (.int nC), .val (.int nK), .val (.int ng), .val (.int qv), .val (.long kk), .second, .val (.long cc), .second, .unset, .unset, .unset, .unset] [(.double r)]))
                have z_r := own_m4a hq r_m4 r_kk r_cc h_r
                have z_rr := z_r.add z_r (by omega)
                refine own_st (fun t k => XS.dstore X99.here hx rfl (hb hby at_330) rfl (l' := #[.val (.long j0), .second, .val (.long j1), .second, .val (.int i2), .val (.int i3), .val (.int i4), .val (.int md), .val (.ref kd), .val (.int nC), .val (.int nK), .val (.int ng), .val (.int qv), .val (.long kk), .second, .val (.long cc), .second, .val (.double r), .second, .unset, .unset]) rfl k) ?_
                show own_Run p e below s _ _ _ (T99.setTop (mkF m 332 #[.val (.long j0), .second, .val (.long j1), .second, .val (.int i2), .val (.int i3), .val (.int i4), .val (.int md), .val (.ref kd), .val (.int nC), .val (.int nK), .val (.int ng), .val (.int qv), .val (.long kk), .second, .val (.long cc), .second, .val (.double r), .second, .unset, .unset] []))
                refine own_st (fun t k => XS.iload X99.here hx rfl (hb hby at_332) rfl k) ?_
                show own_Run p e below s _ _ _ (T99.setTop (mkF m 334 #[.val (.long j0), .second, .val (.long j1), .second, .val (.int i2), .val (.int i3), .val (.int i4), .val (.int md), .val (.ref kd), .val (.int nC), .val (.int nK), .val (.int ng), .val (.int qv), .val (.long kk), .second, .val (.long cc), .second, .val (.double r), .second, .unset, .unset] [(.int ng)]))
                refine own_st (fun t k => XS.ifYes X99.here hx rfl (pc0 := 334) (pc' := 347) rfl (hb hby at_334) rfl ((if0 _ _).trans (teq (by rw [hng, hC0, hK0]; decide : ng = (0 : Int32))).1) (by decide) (by decide) k) ?_
                show own_Run p e below s _ _ _ (T99.setTop (mkF m 347 #[.val (.long j0), .second, .val (.long j1), .second, .val (.int i2), .val (.int i3), .val (.int i4), .val (.int md), .val (.ref kd), .val (.int nC), .val (.int nK), .val (.int ng), .val (.int qv), .val (.long kk), .second, .val (.long cc), .second, .val (.double r), .second, .unset, .unset] []))
                refine own_st (fun t k => XS.iconst X99.here hx rfl (hb hby at_347) k) ?_
                show own_Run p e below s _ _ _ (T99.setTop (mkF m 348 #[.val (.long j0), .second, .val (.long j1), .second, .val (.int i2), .val (.int i3), .val (.int i4), .val (.int md), .val (.ref kd), .val (.int nC), .val (.int nK), .val (.int ng), .val (.int qv), .val (.long kk), .second, .val (.long cc), .second, .val (.double r), .second, .unset, .unset] [(.int (2 : Int32))]))
                refine own_st (fun t k => XS.iload X99.here hx rfl (hb hby at_348) rfl k) ?_
                show own_Run p e below s _ _ _ (T99.setTop (mkF m 350 #[.val (.long j0), .second, .val (.long j1), .second, .val (.int i2), .val (.int i3), .val (.int i4), .val (.int md), .val (.ref kd), .val (.int nC), .val (.int nK), .val (.int ng), .val (.int qv), .val (.long kk), .second, .val (.long cc), .second, .val (.double r), .second, .unset, .unset] [(.int qv), (.int (2 : Int32))]))
                refine own_st (fun t k => XS.imul X99.here hx rfl (hb hby at_350) rfl k) ?_
                show own_Run p e below s _ _ _ (T99.setTop (mkF m 351 #[.val (.long j0), .second, .val (.long j1), .second, .val (.int i2), .val (.int i3), .val (.int i4), .val (.int md), .val (.ref kd), .val (.int nC), .val (.int nK), .val (.int ng), .val (.int qv), .val (.long kk), .second, .val (.long cc), .second, .val (.double r), .second, .unset, .unset] [(.int ((2 : Int32) * qv))]))
                refine own_st (fun t k => XS.iconst X99.here hx rfl (hb hby at_351) k) ?_
                show own_Run p e below s _ _ _ (T99.setTop (mkF m 352 #[.val (.long j0), .second, .val (.long j1), .second, .val (.int i2), .val (.int i3), .val (.int i4), .val (.int md), .val (.ref kd), .val (.int nC), .val (.int nK), .val (.int ng), .val (.int qv), .val (.long kk), .second, .val (.long cc), .second, .val (.double r), .second, .unset, .unset] [(.int (1 : Int32)), (.int ((2 : Int32) * qv))]))
                refine own_st (fun t k => XS.iadd X99.here hx rfl (hb hby at_352) rfl k) ?_
                show own_Run p e below s _ _ _ (T99.setTop (mkF m 353 #[.val (.long j0), .second, .val (.long j1), .second, .val (.int i2), .val (.int i3), .val (.int i4), .val (.int md), .val (.ref kd), .val (.int nC), .val (.int nK), .val (.int ng), .val (.int qv), .val (.long kk), .second, .val (.long cc), .second, .val (.double r), .second, .unset, .unset] [(.int (((2 : Int32) * qv) + (1 : Int32)))]))
                refine own_st (fun t k => XS.istore X99.here hx rfl (hb hby at_353) rfl (l' := #[.val (.long j0), .second, .val (.long j1), .second, .val (.int i2), .val (.int i3), .val (.int i4), .val (.int md), .val (.ref kd), .val (.int nC), .val (.int nK), .val (.int ng), .val (.int qv), .val (.long kk), .second, .val (.long cc), .second, .val (.double r), .second, .val (.int (((2 : Int32) * qv) + (1 : Int32))), .unset]) rfl k) ?_
                show own_Run p e below s _ _ _ (T99.setTop (mkF m 355 #[.val (.long j0), .second, .val (.long j1), .second, .val (.int i2), .val (.int i3), .val (.int i4), .val (.int md), .val (.ref kd), .val (.int nC), .val (.int nK), .val (.int ng), .val (.int qv), .val (.long kk), .second, .val (.long cc), .second, .val (.double r), .second, .val (.int (((2 : Int32) * qv) + (1 : Int32))), .unset] []))
                refine own_st (fun t k => XS.dload X99.here hx rfl (hb hby at_355) rfl k) ?_
                show own_Run p e below s _ _ _ (T99.setTop (mkF m 357 #[.val (.long j0), .second, .val (.long j1), .second, .val (.int i2), .val (.int i3), .val (.int i4), .val (.int md), .val (.ref kd), .val (.int nC), .val (.int nK), .val (.int ng), .val (.int qv), .val (.long kk), .second, .val (.long cc), .second, .val (.double r), .second, .val (.int (((2 : Int32) * qv) + (1 : Int32))), .unset] [(.double r)]))
                refine own_st (fun t k => XS.dload X99.here hx rfl (hb hby at_357) rfl k) ?_
                show own_Run p e below s _ _ _ (T99.setTop (mkF m 359 #[.val (.long j0), .second, .val (.long j1), .second, .val (.int i2), .val (.int i3), .val (.int i4), .val (.int md), .val (.ref kd), .val (.int nC), .val (.int nK), .val (.int ng), .val (.int qv), .val (.long kk), .second, .val (.long cc), .second, .val (.double r), .second, .val (.int (((2 : Int32) * qv) + (1 : Int32))), .unset] [(.double r), (.double r)]))
                refine own_st (fun t k => XS.daddS X99.here hx rfl (hb hby at_359) rfl (z_rr.nn) (v := (FP.dadd r r)) (rfl) k) ?_
                show own_Run p e below s _ _ _ (T99.setTop (mkF m 360 #[.val (.long j0), .second, .val (.long j1), .second, .val (.int i2), .val (.int i3), .val (.int i4), .val (.int md), .val (.ref kd), .val (.int nC), .val (.int nK), .val (.int ng), .val (.int qv), .val (.long kk), .second, .val (.long cc), .second, .val (.double r), .second, .val (.int (((2 : Int32) * qv) + (1 : Int32))), .unset] [(.double (FP.dadd r r))]))
                refine own_st (fun t k => XS.iload X99.here hx rfl (hb hby at_360) rfl k) ?_
                show own_Run p e below s _ _ _ (T99.setTop (mkF m 362 #[.val (.long j0), .second, .val (.long j1), .second, .val (.int i2), .val (.int i3), .val (.int i4), .val (.int md), .val (.ref kd), .val (.int nC), .val (.int nK), .val (.int ng), .val (.int qv), .val (.long kk), .second, .val (.long cc), .second, .val (.double r), .second, .val (.int (((2 : Int32) * qv) + (1 : Int32))), .unset] [(.int (((2 : Int32) * qv) + (1 : Int32))), (.double (FP.dadd r r))]))
                refine own_st (fun t k => XS.i2dS X99.here hx rfl (hb hby at_362) rfl (v := (FP.i2d (((2 : Int32) * qv) + (1 : Int32)))) (rfl) k) ?_
                show own_Run p e below s _ _ _ (T99.setTop (mkF m 363 #[.val (.long j0), .second, .val (.long j1), .second, .val (.int i2), .val (.int i3), .val (.int i4), .val (.int md), .val (.ref kd), .val (.int nC), .val (.int nK), .val (.int ng), .val (.int qv), .val (.long kk), .second, .val (.long cc), .second, .val (.double r), .second, .val (.int (((2 : Int32) * qv) + (1 : Int32))), .unset] [(.double (FP.i2d (((2 : Int32) * qv) + (1 : Int32)))), (.double (FP.dadd r r))]))
                refine own_st (fun t k => XS.dcmpS X99.here hx rfl (hb hby at_363) rfl (v := (0 : Int32)) (z_rr.cmpE (own_half (own_Z.i2d _)) (own_e4 hq) _) k) ?_
                show own_Run p e below s _ _ _ (T99.setTop (mkF m 364 #[.val (.long j0), .second, .val (.long j1), .second, .val (.int i2), .val (.int i3), .val (.int i4), .val (.int md), .val (.ref kd), .val (.int nC), .val (.int nK), .val (.int ng), .val (.int qv), .val (.long kk), .second, .val (.long cc), .second, .val (.double r), .second, .val (.int (((2 : Int32) * qv) + (1 : Int32))), .unset] [(.int (0 : Int32))]))
                refine own_st (fun t k => XS.ifNo X99.here hx rfl (hb hby at_364) rfl ((if0 _ _).trans (teq (by decide : (0 : Int32) = (0 : Int32))).2) k) ?_
                show own_Run p e below s _ _ _ (T99.setTop (mkF m 367 #[.val (.long j0), .second, .val (.long j1), .second, .val (.int i2), .val (.int i3), .val (.int i4), .val (.int md), .val (.ref kd), .val (.int nC), .val (.int nK), .val (.int ng), .val (.int qv), .val (.long kk), .second, .val (.long cc), .second, .val (.double r), .second, .val (.int (((2 : Int32) * qv) + (1 : Int32))), .unset] []))
                refine own_st (fun t k => XS.iconst X99.here hx rfl (hb hby at_367) k) ?_
                show own_Run p e below s _ _ _ (T99.setTop (mkF m 368 #[.val (.long j0), .second, .val (.long j1), .second, .val (.int i2), .val (.int i3), .val (.int i4), .val (.int md), .val (.ref kd), .val (.int nC), .val (.int nK), .val (.int ng), .val (.int qv), .val (.long kk), .second, .val (.long cc), .second, .val (.double r), .second, .val (.int (((2 : Int32) * qv) + (1 : Int32))), .unset] [(.int (1 : Int32))]))
                refine own_st (fun t k => XS.goto X99.here hx rfl (pc0 := 368) (pc' := 372) rfl (hb hby at_368) (by decide) (by decide) k) ?_
                show own_Run p e below s _ _ _ (T99.setTop (mkF m 372 #[.val (.long j0), .second, .val (.long j1), .second, .val (.int i2), .val (.int i3), .val (.int i4), .val (.int md), .val (.ref kd), .val (.int nC), .val (.int nK), .val (.int ng), .val (.int qv), .val (.long kk), .second, .val (.long cc), .second, .val (.double r), .second, .val (.int (((2 : Int32) * qv) + (1 : Int32))), .unset] [(.int (1 : Int32))]))
                exact own_ret X99 hx hlk (t := .boolean) hret rfl (Or.inl ⟨rfl, by simp, _, rfl⟩) (hb hby at_372) (by decide) (by decide) ⟨rfl, N99⟩
              · skip
                have hK1 := hnK.resolve_left hK0
                refine own_st (fun t k => XS.ifNo X0.here hx rfl (hb hby at_316) rfl ((if0 _ _).trans (feq (hK0 : ¬ (nK = (0 : Int32)))).1) k) ?_
                show own_Run p e below s _ _ _ (T0.setTop (mkF m 319 #[.val (.long j0), .second, .val (.long j1), .second, .val (.int i2), .val (.int i3), .val (.int i4), .val (.int md), .val (.ref kd), .val (.int nC), .val (.int nK), .val (.int ng), .val (.int qv), .val (.long kk), .second, .val (.long cc), .second, .unset, .unset, .unset, .unset] [(.long cc), (.ref kd)]))
                refine own_st (fun t k => XS.lload X0.here hx rfl (hb hby at_319) rfl k) ?_
                show own_Run p e below s _ _ _ (T0.setTop (mkF m 321 #[.val (.long j0), .second, .val (.long j1), .second, .val (.int i2), .val (.int i3), .val (.int i4), .val (.int md), .val (.ref kd), .val (.int nC), .val (.int nK), .val (.int ng), .val (.int qv), .val (.long kk), .second, .val (.long cc), .second, .unset, .unset, .unset, .unset] [(.long kk), (.long cc), (.ref kd)]))
                refine own_st (fun t k => XS.lneg X0.here hx rfl (hb hby at_321) rfl k) ?_
                show own_Run p e below s _ _ _ (T0.setTop (mkF m 322 #[.val (.long j0), .second, .val (.long j1), .second, .val (.int i2), .val (.int i3), .val (.int i4), .val (.int md), .val (.ref kd), .val (.int nC), .val (.int nK), .val (.int ng), .val (.int qv), .val (.long kk), .second, .val (.long cc), .second, .unset, .unset, .unset, .unset] [(.long (-kk)), (.long cc), (.ref kd)]))
                refine own_st (fun t k => XS.goto X0.here hx rfl (pc0 := 322) (pc' := 327) rfl (hb hby at_322) (by decide) (by decide) k) ?_
                show own_Run p e below s _ _ _ (T0.setTop (mkF m 327 #[.val (.long j0), .second, .val (.long j1), .second, .val (.int i2), .val (.int i3), .val (.int i4), .val (.int md), .val (.ref kd), .val (.int nC), .val (.int nK), .val (.int ng), .val (.int qv), .val (.long kk), .second, .val (.long cc), .second, .unset, .unset, .unset, .unset] [(.long (-kk)), (.long cc), (.ref kd)]))
                refine own_callS X0 hx hZ (y := (⟨"com/example/tunegrid/tunegrid/IntervalContentionPinLaw", "contention", "(Lcom/example/tunegrid/tunegrid/Replication$Kind;JJ)D"⟩ : MethodName)) hown (hw _ (List.mem_of_getElem? (i := 4) rfl)) (hw _ (List.mem_of_getElem? (i := 5) rfl)) (hw _ (List.mem_of_getElem? (i := 7) rfl)) (hw _ (List.mem_of_getElem? (i := 6) rfl)) (by decide) e0 (argsL := [(.ref kd), (.long cc), (.long (-kk))]) (rest := []) (W := 0) (own_rm1 l Z a0 hw [] kd cc (-kk) hs n0 (Nat.le_trans Z0 K0.1) ) (by decide) (by decide) (by rw [hml]; rfl) (lenOf own_pd6 rfl) rfl (by exact Nat.le_of_eq rfl) (hb hby at_327) (by decide) (by decide) ?_
                intro T102 v102 L102 X102 hq102
                obtain ⟨rfl, N102q, K102q⟩ := hq102
                have K103 : Keep h0 T102.heap [] := K0.trans K102q all0
                have O104 := O0.keep K102q all0
                have N102 := Fr.app N0 N102q
                show own_Run p e below s _ _ _ (T102.setTop (mkF m 330 #[.val (.long j0), .second, .val (.long j1), .second, .val (.int i2), .val (.int i3), .val (.int i4), .val (.int md), .val (.ref kd), .val (.int nC), .val (.int nK), .val (.int ng), .val (.int qv), .val (.long kk), .second, .val (.long cc), .second, .unset, .unset, .unset, .unset] [(.double (if (-kk) = (0 : Int64) then (0 : UInt64) else (FP.ddiv (FP.l2d cc) (FP.l2d (-kk)))))]))
                obtain ⟨r, h_r⟩ : ∃ z, ((if (-kk) = (0 : Int64) then (0 : UInt64) else (FP.ddiv (FP.l2d cc) (FP.l2d (-kk)))) : UInt64) = z := ⟨_, rfl⟩
                refine own_topD h_r ?_
                show own_Run p e below s _ _ _ (T102.setTop (mkF m 330 #[.val (.long j0), .second, .val (.long j1), .second, .val (.int i2), .val (.int i3), .val (.int i4), .val (.int md), .val (.ref kd), .val (.int nC), .val (.int nK), .val (.int ng), .val (.int qv), .val (.long kk), .second, .val (.long cc), .second, .unset, .unset, .unset, .unset] [(.double r)]))
                have z_r := own_m4c hq r_m4 r_kk r_cc h_r
                have z_rr := z_r.add z_r (by omega)
                refine own_st (fun t k => XS.dstore X102.here hx rfl (hb hby at_330) rfl (l' := #[.val (.long j0), .second, .val (.long j1), .second, .val (.int i2), .val (.int i3), .val (.int i4), .val (.int md), .val (.ref kd), .val (.int nC), .val (.int nK), .val (.int ng), .val (.int qv), .val (.long kk), .second, .val (.long cc), .second, .val (.double r), .second, .unset, .unset]) rfl k) ?_
                show own_Run p e below s _ _ _ (T102.setTop (mkF m 332 #[.val (.long j0), .second, .val (.long j1), .second, .val (.int i2), .val (.int i3), .val (.int i4), .val (.int md), .val (.ref kd), .val (.int nC), .val (.int nK), .val (.int ng), .val (.int qv), .val (.long kk), .second, .val (.long cc), .second, .val (.double r), .second, .unset, .unset] []))
                refine own_st (fun t k => XS.iload X102.here hx rfl (hb hby at_332) rfl k) ?_
                show own_Run p e below s _ _ _ (T102.setTop (mkF m 334 #[.val (.long j0), .second, .val (.long j1), .second, .val (.int i2), .val (.int i3), .val (.int i4), .val (.int md), .val (.ref kd), .val (.int nC), .val (.int nK), .val (.int ng), .val (.int qv), .val (.long kk), .second, .val (.long cc), .second, .val (.double r), .second, .unset, .unset] [(.int ng)]))
                refine own_st (fun t k => XS.ifNo X102.here hx rfl (hb hby at_334) rfl ((if0 _ _).trans (feq (by rw [hng, hC0, hK1]; decide : ¬ (ng = (0 : Int32)))).1) k) ?_
                show own_Run p e below s _ _ _ (T102.setTop (mkF m 337 #[.val (.long j0), .second, .val (.long j1), .second, .val (.int i2), .val (.int i3), .val (.int i4), .val (.int md), .val (.ref kd), .val (.int nC), .val (.int nK), .val (.int ng), .val (.int qv), .val (.long kk), .second, .val (.long cc), .second, .val (.double r), .second, .unset, .unset] []))
                refine own_st (fun t k => XS.iconst X102.here hx rfl (hb hby at_337) k) ?_
                show own_Run p e below s _ _ _ (T102.setTop (mkF m 338 #[.val (.long j0), .second, .val (.long j1), .second, .val (.int i2), .val (.int i3), .val (.int i4), .val (.int md), .val (.ref kd), .val (.int nC), .val (.int nK), .val (.int ng), .val (.int qv), .val (.long kk), .second, .val (.long cc), .second, .val (.double r), .second, .unset, .unset] [(.int (2 : Int32))]))
                refine own_st (fun t k => XS.iload X102.here hx rfl (hb hby at_338) rfl k) ?_
                show own_Run p e below s _ _ _ (T102.setTop (mkF m 340 #[.val (.long j0), .second, .val (.long j1), .second, .val (.int i2), .val (.int i3), .val (.int i4), .val (.int md), .val (.ref kd), .val (.int nC), .val (.int nK), .val (.int ng), .val (.int qv), .val (.long kk), .second, .val (.long cc), .second, .val (.double r), .second, .unset, .unset] [(.int qv), (.int (2 : Int32))]))
                refine own_st (fun t k => XS.imul X102.here hx rfl (hb hby at_340) rfl k) ?_
                show own_Run p e below s _ _ _ (T102.setTop (mkF m 341 #[.val (.long j0), .second, .val (.long j1), .second, .val (.int i2), .val (.int i3), .val (.int i4), .val (.int md), .val (.ref kd), .val (.int nC), .val (.int nK), .val (.int ng), .val (.int qv), .val (.long kk), .second, .val (.long cc), .second, .val (.double r), .second, .unset, .unset] [(.int ((2 : Int32) * qv))]))
                refine own_st (fun t k => XS.iconst X102.here hx rfl (hb hby at_341) k) ?_
                show own_Run p e below s _ _ _ (T102.setTop (mkF m 342 #[.val (.long j0), .second, .val (.long j1), .second, .val (.int i2), .val (.int i3), .val (.int i4), .val (.int md), .val (.ref kd), .val (.int nC), .val (.int nK), .val (.int ng), .val (.int qv), .val (.long kk), .second, .val (.long cc), .second, .val (.double r), .second, .unset, .unset] [(.int (1 : Int32)), (.int ((2 : Int32) * qv))]))
                refine own_st (fun t k => XS.iadd X102.here hx rfl (hb hby at_342) rfl k) ?_
                show own_Run p e below s _ _ _ (T102.setTop (mkF m 343 #[.val (.long j0), .second, .val (.long j1), .second, .val (.int i2), .val (.int i3), .val (.int i4), .val (.int md), .val (.ref kd), .val (.int nC), .val (.int nK), .val (.int ng), .val (.int qv), .val (.long kk), .second, .val (.long cc), .second, .val (.double r), .second, .unset, .unset] [(.int (((2 : Int32) * qv) + (1 : Int32)))]))
                refine own_st (fun t k => XS.ineg X102.here hx rfl (hb hby at_343) rfl k) ?_
                show own_Run p e below s _ _ _ (T102.setTop (mkF m 344 #[.val (.long j0), .second, .val (.long j1), .second, .val (.int i2), .val (.int i3), .val (.int i4), .val (.int md), .val (.ref kd), .val (.int nC), .val (.int nK), .val (.int ng), .val (.int qv), .val (.long kk), .second, .val (.long cc), .second, .val (.double r), .second, .unset, .unset] [(.int (-(((2 : Int32) * qv) + (1 : Int32))))]))
                refine own_st (fun t k => XS.goto X102.here hx rfl (pc0 := 344) (pc' := 353) rfl (hb hby at_344) (by decide) (by decide) k) ?_
                show own_Run p e below s _ _ _ (T102.setTop (mkF m 353 #[.val (.long j0), .second, .val (.long j1), .second, .val (.int i2), .val (.int i3), .val (.int i4), .val (.int md), .val (.ref kd), .val (.int nC), .val (.int nK), .val (.int ng), .val (.int qv), .val (.long kk), .second, .val (.long cc), .second, .val (.double r), .second, .unset, .unset] [(.int (-(((2 : Int32) * qv) + (1 : Int32))))]))
                refine own_st (fun t k => XS.istore X102.here hx rfl (hb hby at_353) rfl (l' := #[.val (.long j0), .second, .val (.long j1), .second, .val (.int i2), .val (.int i3), .val (.int i4), .val (.int md), .val (.ref kd), .val (.int nC), .val (.int nK), .val (.int ng), .val (.int qv), .val (.long kk), .second, .val (.long cc), .second, .val (.double r), .second, .val (.int (-(((2 : Int32) * qv) + (1 : Int32)))), .unset]) rfl k) ?_
                show own_Run p e below s _ _ _ (T102.setTop (mkF m 355 #[.val (.long j0), .second, .val (.long j1), .second, .val (.int i2), .val (.int i3), .val (.int i4), .val (.int md), .val (.ref kd), .val (.int nC), .val (.int nK), .val (.int ng), .val (.int qv), .val (.long kk), .second, .val (.long cc), .second, .val (.double r), .second, .val (.int (-(((2 : Int32) * qv) + (1 : Int32)))), .unset] []))
                refine own_st (fun t k => XS.dload X102.here hx rfl (hb hby at_355) rfl k) ?_
                show own_Run p e below s _ _ _ (T102.setTop (mkF m 357 #[.val (.long j0), .second, .val (.long j1), .second, .val (.int i2), .val (.int i3), .val (.int i4), .val (.int md), .val (.ref kd), .val (.int nC), .val (.int nK), .val (.int ng), .val (.int qv), .val (.long kk), .second, .val (.long cc), .second, .val (.double r), .second, .val (.int (-(((2 : Int32) * qv) + (1 : Int32)))), .unset] [(.double r)]))
                refine own_st (fun t k => XS.dload X102.here hx rfl (hb hby at_357) rfl k) ?_
                show own_Run p e below s _ _ _ (T102.setTop (mkF m 359 #[.val (.long j0), .second, .val (.long j1), .second, .val (.int i2), .val (.int i3), .val (.int i4), .val (.int md), .val (.ref kd), .val (.int nC), .val (.int nK), .val (.int ng), .val (.int qv), .val (.long kk), .second, .val (.long cc), .second, .val (.double r), .second, .val (.int (-(((2 : Int32) * qv) + (1 : Int32)))), .unset] [(.double r), (.double r)]))
                refine own_st (fun t k => XS.daddS X102.here hx rfl (hb hby at_359) rfl (z_rr.nn) (v := (FP.dadd r r)) (rfl) k) ?_
                show own_Run p e below s _ _ _ (T102.setTop (mkF m 360 #[.val (.long j0), .second, .val (.long j1), .second, .val (.int i2), .val (.int i3), .val (.int i4), .val (.int md), .val (.ref kd), .val (.int nC), .val (.int nK), .val (.int ng), .val (.int qv), .val (.long kk), .second, .val (.long cc), .second, .val (.double r), .second, .val (.int (-(((2 : Int32) * qv) + (1 : Int32)))), .unset] [(.double (FP.dadd r r))]))
                refine own_st (fun t k => XS.iload X102.here hx rfl (hb hby at_360) rfl k) ?_
                show own_Run p e below s _ _ _ (T102.setTop (mkF m 362 #[.val (.long j0), .second, .val (.long j1), .second, .val (.int i2), .val (.int i3), .val (.int i4), .val (.int md), .val (.ref kd), .val (.int nC), .val (.int nK), .val (.int ng), .val (.int qv), .val (.long kk), .second, .val (.long cc), .second, .val (.double r), .second, .val (.int (-(((2 : Int32) * qv) + (1 : Int32)))), .unset] [(.int (-(((2 : Int32) * qv) + (1 : Int32)))), (.double (FP.dadd r r))]))
                refine own_st (fun t k => XS.i2dS X102.here hx rfl (hb hby at_362) rfl (v := (FP.i2d (-(((2 : Int32) * qv) + (1 : Int32))))) (rfl) k) ?_
                show own_Run p e below s _ _ _ (T102.setTop (mkF m 363 #[.val (.long j0), .second, .val (.long j1), .second, .val (.int i2), .val (.int i3), .val (.int i4), .val (.int md), .val (.ref kd), .val (.int nC), .val (.int nK), .val (.int ng), .val (.int qv), .val (.long kk), .second, .val (.long cc), .second, .val (.double r), .second, .val (.int (-(((2 : Int32) * qv) + (1 : Int32)))), .unset] [(.double (FP.i2d (-(((2 : Int32) * qv) + (1 : Int32))))), (.double (FP.dadd r r))]))
                refine own_st (fun t k => XS.dcmpS X102.here hx rfl (hb hby at_363) rfl (v := (0 : Int32)) (z_rr.cmpE (own_half (own_Z.i2d _)) (own_e4n hq) _) k) ?_
                show own_Run p e below s _ _ _ (T102.setTop (mkF m 364 #[.val (.long j0), .second, .val (.long j1), .second, .val (.int i2), .val (.int i3), .val (.int i4), .val (.int md), .val (.ref kd), .val (.int nC), .val (.int nK), .val (.int ng), .val (.int qv), .val (.long kk), .second, .val (.long cc), .second, .val (.double r), .second, .val (.int (-(((2 : Int32) * qv) + (1 : Int32)))), .unset] [(.int (0 : Int32))]))
                refine own_st (fun t k => XS.ifNo X102.here hx rfl (hb hby at_364) rfl ((if0 _ _).trans (teq (by decide : (0 : Int32) = (0 : Int32))).2) k) ?_
                show own_Run p e below s _ _ _ (T102.setTop (mkF m 367 #[.val (.long j0), .second, .val (.long j1), .second, .val (.int i2), .val (.int i3), .val (.int i4), .val (.int md), .val (.ref kd), .val (.int nC), .val (.int nK), .val (.int ng), .val (.int qv), .val (.long kk), .second, .val (.long cc), .second, .val (.double r), .second, .val (.int (-(((2 : Int32) * qv) + (1 : Int32)))), .unset] []))
                refine own_st (fun t k => XS.iconst X102.here hx rfl (hb hby at_367) k) ?_
                show own_Run p e below s _ _ _ (T102.setTop (mkF m 368 #[.val (.long j0), .second, .val (.long j1), .second, .val (.int i2), .val (.int i3), .val (.int i4), .val (.int md), .val (.ref kd), .val (.int nC), .val (.int nK), .val (.int ng), .val (.int qv), .val (.long kk), .second, .val (.long cc), .second, .val (.double r), .second, .val (.int (-(((2 : Int32) * qv) + (1 : Int32)))), .unset] [(.int (1 : Int32))]))
                refine own_st (fun t k => XS.goto X102.here hx rfl (pc0 := 368) (pc' := 372) rfl (hb hby at_368) (by decide) (by decide) k) ?_
                show own_Run p e below s _ _ _ (T102.setTop (mkF m 372 #[.val (.long j0), .second, .val (.long j1), .second, .val (.int i2), .val (.int i3), .val (.int i4), .val (.int md), .val (.ref kd), .val (.int nC), .val (.int nK), .val (.int ng), .val (.int qv), .val (.long kk), .second, .val (.long cc), .second, .val (.double r), .second, .val (.int (-(((2 : Int32) * qv) + (1 : Int32)))), .unset] [(.int (1 : Int32))]))
                exact own_ret X102 hx hlk (t := .boolean) hret rfl (Or.inl ⟨rfl, by simp, _, rfl⟩) (hb hby at_372) (by decide) (by decide) ⟨rfl, N102⟩
            · skip
              have hC1 := hnC.resolve_left hC0
              refine own_st (fun t k => XS.ifNo X0.here hx rfl (hb hby at_303) rfl ((if0 _ _).trans (feq (hC0 : ¬ (nC = (0 : Int32)))).1) k) ?_
              show own_Run p e below s _ _ _ (T0.setTop (mkF m 306 #[.val (.long j0), .second, .val (.long j1), .second, .val (.int i2), .val (.int i3), .val (.int i4), .val (.int md), .val (.ref kd), .val (.int nC), .val (.int nK), .val (.int ng), .val (.int qv), .val (.long kk), .second, .val (.long cc), .second, .unset, .unset, .unset, .unset] [(.ref kd)]))
              refine own_st (fun t k => XS.lload X0.here hx rfl (hb hby at_306) rfl k) ?_
              show own_Run p e below s _ _ _ (T0.setTop (mkF m 308 #[.val (.long j0), .second, .val (.long j1), .second, .val (.int i2), .val (.int i3), .val (.int i4), .val (.int md), .val (.ref kd), .val (.int nC), .val (.int nK), .val (.int ng), .val (.int qv), .val (.long kk), .second, .val (.long cc), .second, .unset, .unset, .unset, .unset] [(.long cc), (.ref kd)]))
              refine own_st (fun t k => XS.lneg X0.here hx rfl (hb hby at_308) rfl k) ?_
              show own_Run p e below s _ _ _ (T0.setTop (mkF m 309 #[.val (.long j0), .second, .val (.long j1), .second, .val (.int i2), .val (.int i3), .val (.int i4), .val (.int md), .val (.ref kd), .val (.int nC), .val (.int nK), .val (.int ng), .val (.int qv), .val (.long kk), .second, .val (.long cc), .second, .unset, .unset, .unset, .unset] [(.long (-cc)), (.ref kd)]))
              refine own_st (fun t k => XS.goto X0.here hx rfl (pc0 := 309) (pc' := 314) rfl (hb hby at_309) (by decide) (by decide) k) ?_
              show own_Run p e below s _ _ _ (T0.setTop (mkF m 314 #[.val (.long j0), .second, .val (.long j1), .second, .val (.int i2), .val (.int i3), .val (.int i4), .val (.int md), .val (.ref kd), .val (.int nC), .val (.int nK), .val (.int ng), .val (.int qv), .val (.long kk), .second, .val (.long cc), .second, .unset, .unset, .unset, .unset] [(.long (-cc)), (.ref kd)]))
              refine own_st (fun t k => XS.iload X0.here hx rfl (hb hby at_314) rfl k) ?_
              show own_Run p e below s _ _ _ (T0.setTop (mkF m 316 #[.val (.long j0), .second, .val (.long j1), .second, .val (.int i2), .val (.int i3), .val (.int i4), .val (.int md), .val (.ref kd), .val (.int nC), .val (.int nK), .val (.int ng), .val (.int qv), .val (.long kk), .second, .val (.long cc), .second, .unset, .unset, .unset, .unset] [(.int nK), (.long (-cc)), (.ref kd)]))
              by_cases hK0 : nK = (0 : Int32)
              · skip
                refine own_st (fun t k => XS.ifYes X0.here hx rfl (pc0 := 316) (pc' := 325) rfl (hb hby at_316) rfl ((if0 _ _).trans (teq (hK0 : nK = (0 : Int32))).1) (by decide) (by decide) k) ?_
                show own_Run p e below s _ _ _ (T0.setTop (mkF m 325 #[.val (.long j0), .second, .val (.long j1), .second, .val (.int i2), .val (.int i3), .val (.int i4), .val (.int md), .val (.ref kd), .val (.int nC), .val (.int nK), .val (.int ng), .val (.int qv), .val (.long kk), .second, .val (.long cc), .second, .unset, .unset, .unset, .unset] [(.long (-cc)), (.ref kd)]))
                refine own_st (fun t k => XS.lload X0.here hx rfl (hb hby at_325) rfl k) ?_
                show own_Run p e below s _ _ _ (T0.setTop (mkF m 327 #[.val (.long j0), .second, .val (.long j1), .second, .val (.int i2), .val (.int i3), .val (.int i4), .val (.int md), .val (.ref kd), .val (.int nC), .val (.int nK), .val (.int ng), .val (.int qv), .val (.long kk), .second, .val (.long cc), .second, .unset, .unset, .unset, .unset] [(.long kk), (.long (-cc)), (.ref kd)]))
                refine own_callS X0 hx hZ (y := (⟨"com/example/tunegrid/tunegrid/IntervalContentionPinLaw", "contention", "(Lcom/example/tunegrid/tunegrid/Replication$Kind;JJ)D"⟩ : MethodName)) hown (hw _ (List.mem_of_getElem? (i := 4) rfl)) (hw _ (List.mem_of_getElem? (i := 5) rfl)) (hw _ (List.mem_of_getElem? (i := 7) rfl)) (hw _ (List.mem_of_getElem? (i := 6) rfl)) (by decide) e0 (argsL := [(.ref kd), (.long (-cc)), (.long kk)]) (rest := []) (W := 0) (own_rm1 l Z a0 hw [] kd (-cc) kk hs n0 (Nat.le_trans Z0 K0.1) ) (by decide) (by decide) (by rw [hml]; rfl) (lenOf own_pd6 rfl) rfl (by exact Nat.le_of_eq rfl) (hb hby at_327) (by decide) (by decide) ?_
                intro T105 v105 L105 X105 hq105
                obtain ⟨rfl, N105q, K105q⟩ := hq105
                have K106 : Keep h0 T105.heap [] := K0.trans K105q all0
                have O107 := O0.keep K105q all0
                have N105 := Fr.app N0 N105q
                show own_Run p e below s _ _ _ (T105.setTop (mkF m 330 #[.val (.long j0), .second, .val (.long j1), .second, .val (.int i2), .val (.int i3), .val (.int i4), .val (.int md), .val (.ref kd), .val (.int nC), .val (.int nK), .val (.int ng), .val (.int qv), .val (.long kk), .second, .val (.long cc), .second, .unset, .unset, .unset, .unset] [(.double (if kk = (0 : Int64) then (0 : UInt64) else (FP.ddiv (FP.l2d (-cc)) (FP.l2d kk))))]))
                obtain ⟨r, h_r⟩ : ∃ z, ((if kk = (0 : Int64) then (0 : UInt64) else (FP.ddiv (FP.l2d (-cc)) (FP.l2d kk))) : UInt64) = z := ⟨_, rfl⟩
                refine own_topD h_r ?_
                show own_Run p e below s _ _ _ (T105.setTop (mkF m 330 #[.val (.long j0), .second, .val (.long j1), .second, .val (.int i2), .val (.int i3), .val (.int i4), .val (.int md), .val (.ref kd), .val (.int nC), .val (.int nK), .val (.int ng), .val (.int qv), .val (.long kk), .second, .val (.long cc), .second, .unset, .unset, .unset, .unset] [(.double r)]))
                have z_r := own_m4b hq r_m4 r_kk r_cc h_r
                have z_rr := z_r.add z_r (by omega)
                refine own_st (fun t k => XS.dstore X105.here hx rfl (hb hby at_330) rfl (l' := #[.val (.long j0), .second, .val (.long j1), .second, .val (.int i2), .val (.int i3), .val (.int i4), .val (.int md), .val (.ref kd), .val (.int nC), .val (.int nK), .val (.int ng), .val (.int qv), .val (.long kk), .second, .val (.long cc), .second, .val (.double r), .second, .unset, .unset]) rfl k) ?_
                show own_Run p e below s _ _ _ (T105.setTop (mkF m 332 #[.val (.long j0), .second, .val (.long j1), .second, .val (.int i2), .val (.int i3), .val (.int i4), .val (.int md), .val (.ref kd), .val (.int nC), .val (.int nK), .val (.int ng), .val (.int qv), .val (.long kk), .second, .val (.long cc), .second, .val (.double r), .second, .unset, .unset] []))
                refine own_st (fun t k => XS.iload X105.here hx rfl (hb hby at_332) rfl k) ?_
                show own_Run p e below s _ _ _ (T105.setTop (mkF m 334 #[.val (.long j0), .second, .val (.long j1), .second, .val (.int i2), .val (.int i3), .val (.int i4), .val (.int md), .val (.ref kd), .val (.int nC), .val (.int nK), .val (.int ng), .val (.int qv), .val (.long kk), .second, .val (.long cc), .second, .val (.double r), .second, .unset, .unset] [(.int ng)]))
                refine own_st (fun t k => XS.ifNo X105.here hx rfl (hb hby at_334) rfl ((if0 _ _).trans (feq (by rw [hng, hC1, hK0]; decide : ¬ (ng = (0 : Int32)))).1) k) ?_
                show own_Run p e below s _ _ _ (T105.setTop (mkF m 337 #[.val (.long j0), .second, .val (.long j1), .second, .val (.int i2), .val (.int i3), .val (.int i4), .val (.int md), .val (.ref kd), .val (.int nC), .val (.int nK), .val (.int ng), .val (.int qv), .val (.long kk), .second, .val (.long cc), .second, .val (.double r), .second, .unset, .unset] []))
                refine own_st (fun t k => XS.iconst X105.here hx rfl (hb hby at_337) k) ?_
                show own_Run p e below s _ _ _ (T105.setTop (mkF m 338 #[.val (.long j0), .second, .val (.long j1), .second, .val (.int i2), .val (.int i3), .val (.int i4), .val (.int md), .val (.ref kd), .val (.int nC), .val (.int nK), .val (.int ng), .val (.int qv), .val (.long kk), .second, .val (.long cc), .second, .val (.double r), .second, .unset, .unset] [(.int (2 : Int32))]))
                refine own_st (fun t k => XS.iload X105.here hx rfl (hb hby at_338) rfl k) ?_
                show own_Run p e below s _ _ _ (T105.setTop (mkF m 340 #[.val (.long j0), .second, .val (.long j1), .second, .val (.int i2), .val (.int i3), .val (.int i4), .val (.int md), .val (.ref kd), .val (.int nC), .val (.int nK), .val (.int ng), .val (.int qv), .val (.long kk), .second, .val (.long cc), .second, .val (.double r), .second, .unset, .unset] [(.int qv), (.int (2 : Int32))]))
                refine own_st (fun t k => XS.imul X105.here hx rfl (hb hby at_340) rfl k) ?_
                show own_Run p e below s _ _ _ (T105.setTop (mkF m 341 #[.val (.long j0), .second, .val (.long j1), .second, .val (.int i2), .val (.int i3), .val (.int i4), .val (.int md), .val (.ref kd), .val (.int nC), .val (.int nK), .val (.int ng), .val (.int qv), .val (.long kk), .second, .val (.long cc), .second, .val (.double r), .second, .unset, .unset] [(.int ((2 : Int32) * qv))]))
                refine own_st (fun t k => XS.iconst X105.here hx rfl (hb hby at_341) k) ?_
                show own_Run p e below s _ _ _ (T105.setTop (mkF m 342 #[.val (.long j0), .second, .val (.long j1), .second, .val (.int i2), .val (.int i3), .val (.int i4), .val (.int md), .val (.ref kd), .val (.int nC), .val (.int nK), .val (.int ng), .val (.int qv), .val (.long kk), .second, .val (.long cc), .second, .val (.double r), .second, .unset, .unset] [(.int (1 : Int32)), (.int ((2 : Int32) * qv))]))
                refine own_st (fun t k => XS.iadd X105.here hx rfl (hb hby at_342) rfl k) ?_
                show own_Run p e below s _ _ _ (T105.setTop (mkF m 343 #[.val (.long j0), .second, .val (.long j1), .second, .val (.int i2), .val (.int i3), .val (.int i4), .val (.int md), .val (.ref kd), .val (.int nC), .val (.int nK), .val (.int ng), .val (.int qv), .val (.long kk), .second, .val (.long cc), .second, .val (.double r), .second, .unset, .unset] [(.int (((2 : Int32) * qv) + (1 : Int32)))]))
                refine own_st (fun t k => XS.ineg X105.here hx rfl (hb hby at_343) rfl k) ?_
                show own_Run p e below s _ _ _ (T105.setTop (mkF m 344 #[.val (.long j0), .second, .val (.long j1), .second, .val (.int i2), .val (.int i3), .val (.int i4), .val (.int md), .val (.ref kd), .val (.int nC), .val (.int nK), .val (.int ng), .val (.int qv), .val (.long kk), .second, .val (.long cc), .second, .val (.double r), .second, .unset, .unset] [(.int (-(((2 : Int32) * qv) + (1 : Int32))))]))
                refine own_st (fun t k => XS.goto X105.here hx rfl (pc0 := 344) (pc' := 353) rfl (hb hby at_344) (by decide) (by decide) k) ?_
                show own_Run p e below s _ _ _ (T105.setTop (mkF m 353 #[.val (.long j0), .second, .val (.long j1), .second, .val (.int i2), .val (.int i3), .val (.int i4), .val (.int md), .val (.ref kd), .val (.int nC), .val (.int nK), .val (.int ng), .val (.int qv), .val (.long kk), .second, .val (.long cc), .second, .val (.double r), .second, .unset, .unset] [(.int (-(((2 : Int32) * qv) + (1 : Int32))))]))
                refine own_st (fun t k => XS.istore X105.here hx rfl (hb hby at_353) rfl (l' := #[.val (.long j0), .second, .val (.long j1), .second, .val (.int i2), .val (.int i3), .val (.int i4), .val (.int md), .val (.ref kd), .val (.int nC), .val (.int nK), .val (.int ng), .val (.int qv), .val (.long kk), .second, .val (.long cc), .second, .val (.double r), .second, .val (.int (-(((2 : Int32) * qv) + (1 : Int32)))), .unset]) rfl k) ?_
                show own_Run p e below s _ _ _ (T105.setTop (mkF m 355 #[.val (.long j0), .second, .val (.long j1), .second, .val (.int i2), .val (.int i3), .val (.int i4), .val (.int md), .val (.ref kd), .val (.int nC), .val (.int nK), .val (.int ng), .val (.int qv), .val (.long kk), .second, .val (.long cc), .second, .val (.double r), .second, .val (.int (-(((2 : Int32) * qv) + (1 : Int32)))), .unset] []))
                refine own_st (fun t k => XS.dload X105.here hx rfl (hb hby at_355) rfl k) ?_
                show own_Run p e below s _ _ _ (T105.setTop (mkF m 357 #[.val (.long j0), .second, .val (.long j1), .second, .val (.int i2), .val (.int i3), .val (.int i4), .val (.int md), .val (.ref kd), .val (.int nC), .val (.int nK), .val (.int ng), .val (.int qv), .val (.long kk), .second, .val (.long cc), .second, .val (.double r), .second, .val (.int (-(((2 : Int32) * qv) + (1 : Int32)))), .unset] [(.double r)]))
                refine own_st (fun t k => XS.dload X105.here hx rfl (hb hby at_357) rfl k) ?_
                show own_Run p e below s _ _ _ (T105.setTop (mkF m 359 #[.val (.long j0), .second, .val (.long j1), .second, .val (.int i2), .val (.int i3), .val (.int i4), .val (.int md), .val (.ref kd), .val (.int nC), .val (.int nK), .val (.int ng), .val (.int qv), .val (.long kk), .second, .val (.long cc), .second, .val (.double r), .second, .val (.int (-(((2 : Int32) * qv) + (1 : Int32)))), .unset] [(.double r), (.double r)]))
                refine own_st (fun t k => XS.daddS X105.here hx rfl (hb hby at_359) rfl (z_rr.nn) (v := (FP.dadd r r)) (rfl) k) ?_
                show own_Run p e below s _ _ _ (T105.setTop (mkF m 360 #[.val (.long j0), .second, .val (.long j1), .second, .val (.int i2), .val (.int i3), .val (.int i4), .val (.int md), .val (.ref kd), .val (.int nC), .val (.int nK), .val (.int ng), .val (.int qv), .val (.long kk), .second, .val (.long cc), .second, .val (.double r), .second, .val (.int (-(((2 : Int32) * qv) + (1 : Int32)))), .unset] [(.double (FP.dadd r r))]))
                refine own_st (fun t k => XS.iload X105.here hx rfl (hb hby at_360) rfl k) ?_
                show own_Run p e below s _ _ _ (T105.setTop (mkF m 362 #[.val (.long j0), .second, .val (.long j1), .second, .val (.int i2), .val (.int i3), .val (.int i4), .val (.int md), .val (.ref kd), .val (.int nC), .val (.int nK), .val (.int ng), .val (.int qv), .val (.long kk), .second, .val (.long cc), .second, .val (.double r), .second, .val (.int (-(((2 : Int32) * qv) + (1 : Int32)))), .unset] [(.int (-(((2 : Int32) * qv) + (1 : Int32)))), (.double (FP.dadd r r))]))
                refine own_st (fun t k => XS.i2dS X105.here hx rfl (hb hby at_362) rfl (v := (FP.i2d (-(((2 : Int32) * qv) + (1 : Int32))))) (rfl) k) ?_
                show own_Run p e below s _ _ _ (T105.setTop (mkF m 363 #[.val (.long j0), .second, .val (.long j1), .second, .val (.int i2), .val (.int i3), .val (.int i4), .val (.int md), .val (.ref kd), .val (.int nC), .val (.int nK), .val (.int ng), .val (.int qv), .val (.long kk), .second, .val (.long cc), .second, .val (.double r), .second, .val (.int (-(((2 : Int32) * qv) + (1 : Int32)))), .unset] [(.double (FP.i2d (-(((2 : Int32) * qv) + (1 : Int32))))), (.double (FP.dadd r r))]))
                refine own_st (fun t k => XS.dcmpS X105.here hx rfl (hb hby at_363) rfl (v := (0 : Int32)) (z_rr.cmpE (own_half (own_Z.i2d _)) (own_e4n hq) _) k) ?_
                show own_Run p e below s _ _ _ (T105.setTop (mkF m 364 #[.val (.long j0), .second, .val (.long j1), .second, .val (.int i2), .val (.int i3), .val (.int i4), .val (.int md), .val (.ref kd), .val (.int nC), .val (.int nK), .val (.int ng), .val (.int qv), .val (.long kk), .second, .val (.long cc), .second, .val (.double r), .second, .val (.int (-(((2 : Int32) * qv) + (1 : Int32)))), .unset] [(.int (0 : Int32))]))
                refine own_st (fun t k => XS.ifNo X105.here hx rfl (hb hby at_364) rfl ((if0 _ _).trans (teq (by decide : (0 : Int32) = (0 : Int32))).2) k) ?_
                show own_Run p e below s _ _ _ (T105.setTop (mkF m 367 #[.val (.long j0), .second, .val (.long j1), .second, .val (.int i2), .val (.int i3), .val (.int i4), .val (.int md), .val (.ref kd), .val (.int nC), .val (.int nK), .val (.int ng), .val (.int qv), .val (.long kk), .second, .val (.long cc), .second, .val (.double r), .second, .val (.int (-(((2 : Int32) * qv) + (1 : Int32)))), .unset] []))
                refine own_st (fun t k => XS.iconst X105.here hx rfl (hb hby at_367) k) ?_
                show own_Run p e below s _ _ _ (T105.setTop (mkF m 368 #[.val (.long j0), .second, .val (.long j1), .second, .val (.int i2), .val (.int i3), .val (.int i4), .val (.int md), .val (.ref kd), .val (.int nC), .val (.int nK), .val (.int ng), .val (.int qv), .val (.long kk), .second, .val (.long cc), .second, .val (.double r), .second, .val (.int (-(((2 : Int32) * qv) + (1 : Int32)))), .unset] [(.int (1 : Int32))]))
                refine own_st (fun t k => XS.goto X105.here hx rfl (pc0 := 368) (pc' := 372) rfl (hb hby at_368) (by decide) (by decide) k) ?_
                show own_Run p e below s _ _ _ (T105.setTop (mkF m 372 #[.val (.long j0), .second, .val (.long j1), .second, .val (.int i2), .val (.int i3), .val (.int i4), .val (.int md), .val (.ref kd), .val (.int nC), .val (.int nK), .val (.int ng), .val (.int qv), .val (.long kk), .second, .val (.long cc), .second, .val (.double r), .second, .val (.int (-(((2 : Int32) * qv) + (1 : Int32)))), .unset] [(.int (1 : Int32))]))
                exact own_ret X105 hx hlk (t := .boolean) hret rfl (Or.inl ⟨rfl, by simp, _, rfl⟩) (hb hby at_372) (by decide) (by decide) ⟨rfl, N105⟩
              · skip
                have hK1 := hnK.resolve_left hK0
                refine own_st (fun t k => XS.ifNo X0.here hx rfl (hb hby at_316) rfl ((if0 _ _).trans (feq (hK0 : ¬ (nK = (0 : Int32)))).1) k) ?_
                show own_Run p e below s _ _ _ (T0.setTop (mkF m 319 #[.val (.long j0), .second, .val (.long j1), .second, .val (.int i2), .val (.int i3), .val (.int i4), .val (.int md), .val (.ref kd), .val (.int nC), .val (.int nK), .val (.int ng), .val (.int qv), .val (.long kk), .second, .val (.long cc), .second, .unset, .unset, .unset, .unset] [(.long (-cc)), (.ref kd)]))
                refine own_st (fun t k => XS.lload X0.here hx rfl (hb hby at_319) rfl k) ?_
                show own_Run p e below s _ _ _ (T0.setTop (mkF m 321 #[.val (.long j0), .second, .val (.long j1), .second, .val (.int i2), .val (.int i3), .val (.int i4), .val (.int md), .val (.ref kd), .val (.int nC), .val (.int nK), .val (.int ng), .val (.int qv), .val (.long kk), .second, .val (.long cc), .second, .unset, .unset, .unset, .unset] [(.long kk), (.long (-cc)), (.ref kd)]))
                refine own_st (fun t k => XS.lneg X0.here hx rfl (hb hby at_321) rfl k) ?_
                show own_Run p e below s _ _ _ (T0.setTop (mkF m 322 #[.val (.long j0), .second, .val (.long j1), .second, .val (.int i2), .val (.int i3), .val (.int i4), .val (.int md), .val (.ref kd), .val (.int nC), .val (.int nK), .val (.int ng), .val (.int qv), .val (.long kk), .second, .val (.long cc), .second, .unset, .unset, .unset, .unset] [(.long (-kk)), (.long (-cc)), (.ref kd)]))
                refine own_st (fun t k => XS.goto X0.here hx rfl (pc0 := 322) (pc' := 327) rfl (hb hby at_322) (by decide) (by decide) k) ?_
                show own_Run p e below s _ _ _ (T0.setTop (mkF m 327 #[.val (.long j0), .second, .val (.long j1), .second, .val (.int i2), .val (.int i3), .val (.int i4), .val (.int md), .val (.ref kd), .val (.int nC), .val (.int nK), .val (.int ng), .val (.int qv), .val (.long kk), .second, .val (.long cc), .second, .unset, .unset, .unset, .unset] [(.long (-kk)), (.long (-cc)), (.ref kd)]))
                refine own_callS X0 hx hZ (y := (⟨"com/example/tunegrid/tunegrid/IntervalContentionPinLaw", "contention", "(Lcom/example/tunegrid/tunegrid/Replication$Kind;JJ)D"⟩ : MethodName)) hown (hw _ (List.mem_of_getElem? (i := 4) rfl)) (hw _ (List.mem_of_getElem? (i := 5) rfl)) (hw _ (List.mem_of_getElem? (i := 7) rfl)) (hw _ (List.mem_of_getElem? (i := 6) rfl)) (by decide) e0 (argsL := [(.ref kd), (.long (-cc)), (.long (-kk))]) (rest := []) (W := 0) (own_rm1 l Z a0 hw [] kd (-cc) (-kk) hs n0 (Nat.le_trans Z0 K0.1) ) (by decide) (by decide) (by rw [hml]; rfl) (lenOf own_pd6 rfl) rfl (by exact Nat.le_of_eq rfl) (hb hby at_327) (by decide) (by decide) ?_
                intro T108 v108 L108 X108 hq108
                obtain ⟨rfl, N108q, K108q⟩ := hq108
                have K109 : Keep h0 T108.heap [] := K0.trans K108q all0
                have O110 := O0.keep K108q all0
                have N108 := Fr.app N0 N108q
                show own_Run p e below s _ _ _ (T108.setTop (mkF m 330 #[.val (.long j0), .second, .val (.long j1), .second, .val (.int i2), .val (.int i3), .val (.int i4), .val (.int md), .val (.ref kd), .val (.int nC), .val (.int nK), .val (.int ng), .val (.int qv), .val (.long kk), .second, .val (.long cc), .second, .unset, .unset, .unset, .unset] [(.double (if (-kk) = (0 : Int64) then (0 : UInt64) else (FP.ddiv (FP.l2d (-cc)) (FP.l2d (-kk)))))]))
                obtain ⟨r, h_r⟩ : ∃ z, ((if (-kk) = (0 : Int64) then (0 : UInt64) else (FP.ddiv (FP.l2d (-cc)) (FP.l2d (-kk)))) : UInt64) = z := ⟨_, rfl⟩
                refine own_topD h_r ?_
                show own_Run p e below s _ _ _ (T108.setTop (mkF m 330 #[.val (.long j0), .second, .val (.long j1), .second, .val (.int i2), .val (.int i3), .val (.int i4), .val (.int md), .val (.ref kd), .val (.int nC), .val (.int nK), .val (.int ng), .val (.int qv), .val (.long kk), .second, .val (.long cc), .second, .unset, .unset, .unset, .unset] [(.double r)]))
                have z_r := own_m4d hq r_m4 r_kk r_cc h_r
                have z_rr := z_r.add z_r (by omega)
                refine own_st (fun t k => XS.dstore X108.here hx rfl (hb hby at_330) rfl (l' := #[.val (.long j0), .second, .val (.long j1), .second, .val (.int i2), .val (.int i3), .val (.int i4), .val (.int md), .val (.ref kd), .val (.int nC), .val (.int nK), .val (.int ng), .val (.int qv), .val (.long kk), .second, .val (.long cc), .second, .val (.double r), .second, .unset, .unset]) rfl k) ?_
                show own_Run p e below s _ _ _ (T108.setTop (mkF m 332 #[.val (.long j0), .second, .val (.long j1), .second, .val (.int i2), .val (.int i3), .val (.int i4), .val (.int md), .val (.ref kd), .val (.int nC), .val (.int nK), .val (.int ng), .val (.int qv), .val (.long kk), .second, .val (.long cc), .second, .val (.double r), .second, .unset, .unset] []))
                refine own_st (fun t k => XS.iload X108.here hx rfl (hb hby at_332) rfl k) ?_
                show own_Run p e below s _ _ _ (T108.setTop (mkF m 334 #[.val (.long j0), .second, .val (.long j1), .second, .val (.int i2), .val (.int i3), .val (.int i4), .val (.int md), .val (.ref kd), .val (.int nC), .val (.int nK), .val (.int ng), .val (.int qv), .val (.long kk), .second, .val (.long cc), .second, .val (.double r), .second, .unset, .unset] [(.int ng)]))
                refine own_st (fun t k => XS.ifYes X108.here hx rfl (pc0 := 334) (pc' := 347) rfl (hb hby at_334) rfl ((if0 _ _).trans (teq (by rw [hng, hC1, hK1]; decide : ng = (0 : Int32))).1) (by decide) (by decide) k) ?_
                show own_Run p e below s _ _ _ (T108.setTop (mkF m 347 #[.val (.long j0), .second, .val (.long j1), .second, .val (.int i2), .val (.int i3), .val (.int i4), .val (.int md), .val (.ref kd), .val (.int nC), .val (.int nK), .val (.int ng), .val (.int qv), .val (.long kk), .second, .val (.long cc), .second, .val (.double r), .second, .unset, .unset] []))
                refine own_st (fun t k => XS.iconst X108.here hx rfl (hb hby at_347) k) ?_
                show own_Run p e below s _ _ _ (T108.setTop (mkF m 348 #[.val (.long j0), .second, .val (.long j1), .second, .val (.int i2), .val (.int i3), .val (.int i4), .val (.int md), .val (.ref kd), .val (.int nC), .val (.int nK), .val (.int ng), .val (.int qv), .val (.long kk), .second, .val (.long cc), .second, .val (.double r), .second, .unset, .unset] [(.int (2 : Int32))]))
                refine own_st (fun t k => XS.iload X108.here hx rfl (hb hby at_348) rfl k) ?_
                show own_Run p e below s _ _ _ (T108.setTop (mkF m 350 #[.val (.long j0), .second, .val (.long j1), .second, .val (.int i2), .val (.int i3), .val (.int i4), .val (.int md), .val (.ref kd), .val (.int nC), .val (.int nK), .val (.int ng), .val (.int qv), .val (.long kk), .second, .val (.long cc), .second, .val (.double r), .second, .unset, .unset] [(.int qv), (.int (2 : Int32))]))
                refine own_st (fun t k => XS.imul X108.here hx rfl (hb hby at_350) rfl k) ?_
                show own_Run p e below s _ _ _ (T108.setTop (mkF m 351 #[.val (.long j0), .second, .val (.long j1), .second, .val (.int i2), .val (.int i3), .val (.int i4), .val (.int md), .val (.ref kd), .val (.int nC), .val (.int nK), .val (.int ng), .val (.int qv), .val (.long kk), .second, .val (.long cc), .second, .val (.double r), .second, .unset, .unset] [(.int ((2 : Int32) * qv))]))
                refine own_st (fun t k => XS.iconst X108.here hx rfl (hb hby at_351) k) ?_
                show own_Run p e below s _ _ _ (T108.setTop (mkF m 352 #[.val (.long j0), .second, .val (.long j1), .second, .val (.int i2), .val (.int i3), .val (.int i4), .val (.int md), .val (.ref kd), .val (.int nC), .val (.int nK), .val (.int ng), .val (.int qv), .val (.long kk), .second, .val (.long cc), .second, .val (.double r), .second, .unset, .unset] [(.int (1 : Int32)), (.int ((2 : Int32) * qv))]))
                refine own_st (fun t k => XS.iadd X108.here hx rfl (hb hby at_352) rfl k) ?_
                show own_Run p e below s _ _ _ (T108.setTop (mkF m 353 #[.val (.long j0), .second, .val (.long j1), .second, .val (.int i2), .val (.int i3), .val (.int i4), .val (.int md), .val (.ref kd), .val (.int nC), .val (.int nK), .val (.int ng), .val (.int qv), .val (.long kk), .second, .val (.long cc), .second, .val (.double r), .second, .unset, .unset] [(.int (((2 : Int32) * qv) + (1 : Int32)))]))
                refine own_st (fun t k => XS.istore X108.here hx rfl (hb hby at_353) rfl (l' := #[.val (.long j0), .second, .val (.long j1), .second, .val (.int i2), .val (.int i3), .val (.int i4), .val (.int md), .val (.ref kd), .val (.int nC), .val (.int nK), .val (.int ng), .val (.int qv), .val (.long kk), .second, .val (.long cc), .second, .val (.double r), .second, .val (.int (((2 : Int32) * qv) + (1 : Int32))), .unset]) rfl k) ?_
                show own_Run p e below s _ _ _ (T108.setTop (mkF m 355 #[.val (.long j0), .second, .val (.long j1), .second, .val (.int i2), .val (.int i3), .val (.int i4), .val (.int md), .val (.ref kd), .val (.int nC), .val (.int nK), .val (.int ng), .val (.int qv), .val (.long kk), .second, .val (.long cc), .second, .val (.double r), .second, .val (.int (((2 : Int32) * qv) + (1 : Int32))), .unset] []))
                refine own_st (fun t k => XS.dload X108.here hx rfl (hb hby at_355) rfl k) ?_
                show own_Run p e below s _ _ _ (T108.setTop (mkF m 357 #[.val (.long j0), .second, .val (.long j1), .second, .val (.int i2), .val (.int i3), .val (.int i4), .val (.int md), .val (.ref kd), .val (.int nC), .val (.int nK), .val (.int ng), .val (.int qv), .val (.long kk), .second, .val (.long cc), .second, .val (.double r), .second, .val (.int (((2 : Int32) * qv) + (1 : Int32))), .unset] [(.double r)]))
                refine own_st (fun t k => XS.dload X108.here hx rfl (hb hby at_357) rfl k) ?_
                show own_Run p e below s _ _ _ (T108.setTop (mkF m 359 #[.val (.long j0), .second, .val (.long j1), .second, .val (.int i2), .val (.int i3), .val (.int i4), .val (.int md), .val (.ref kd), .val (.int nC), .val (.int nK), .val (.int ng), .val (.int qv), .val (.long kk), .second, .val (.long cc), .second, .val (.double r), .second, .val (.int (((2 : Int32) * qv) + (1 : Int32))), .unset] [(.double r), (.double r)]))
                refine own_st (fun t k => XS.daddS X108.here hx rfl (hb hby at_359) rfl (z_rr.nn) (v := (FP.dadd r r)) (rfl) k) ?_
                show own_Run p e below s _ _ _ (T108.setTop (mkF m 360 #[.val (.long j0), .second, .val (.long j1), .second, .val (.int i2), .val (.int i3), .val (.int i4), .val (.int md), .val (.ref kd), .val (.int nC), .val (.int nK), .val (.int ng), .val (.int qv), .val (.long kk), .second, .val (.long cc), .second, .val (.double r), .second, .val (.int (((2 : Int32) * qv) + (1 : Int32))), .unset] [(.double (FP.dadd r r))]))
                refine own_st (fun t k => XS.iload X108.here hx rfl (hb hby at_360) rfl k) ?_
                show own_Run p e below s _ _ _ (T108.setTop (mkF m 362 #[.val (.long j0), .second, .val (.long j1), .second, .val (.int i2), .val (.int i3), .val (.int i4), .val (.int md), .val (.ref kd), .val (.int nC), .val (.int nK), .val (.int ng), .val (.int qv), .val (.long kk), .second, .val (.long cc), .second, .val (.double r), .second, .val (.int (((2 : Int32) * qv) + (1 : Int32))), .unset] [(.int (((2 : Int32) * qv) + (1 : Int32))), (.double (FP.dadd r r))]))
                refine own_st (fun t k => XS.i2dS X108.here hx rfl (hb hby at_362) rfl (v := (FP.i2d (((2 : Int32) * qv) + (1 : Int32)))) (rfl) k) ?_
                show own_Run p e below s _ _ _ (T108.setTop (mkF m 363 #[.val (.long j0), .second, .val (.long j1), .second, .val (.int i2), .val (.int i3), .val (.int i4), .val (.int md), .val (.ref kd), .val (.int nC), .val (.int nK), .val (.int ng), .val (.int qv), .val (.long kk), .second, .val (.long cc), .second, .val (.double r), .second, .val (.int (((2 : Int32) * qv) + (1 : Int32))), .unset] [(.double (FP.i2d (((2 : Int32) * qv) + (1 : Int32)))), (.double (FP.dadd r r))]))
                refine own_st (fun t k => XS.dcmpS X108.here hx rfl (hb hby at_363) rfl (v := (0 : Int32)) (z_rr.cmpE (own_half (own_Z.i2d _)) (own_e4 hq) _) k) ?_
                show own_Run p e below s _ _ _ (T108.setTop (mkF m 364 #[.val (.long j0), .second, .val (.long j1), .second, .val (.int i2), .val (.int i3), .val (.int i4), .val (.int md), .val (.ref kd), .val (.int nC), .val (.int nK), .val (.int ng), .val (.int qv), .val (.long kk), .second, .val (.long cc), .second, .val (.double r), .second, .val (.int (((2 : Int32) * qv) + (1 : Int32))), .unset] [(.int (0 : Int32))]))
                refine own_st (fun t k => XS.ifNo X108.here hx rfl (hb hby at_364) rfl ((if0 _ _).trans (teq (by decide : (0 : Int32) = (0 : Int32))).2) k) ?_
                show own_Run p e below s _ _ _ (T108.setTop (mkF m 367 #[.val (.long j0), .second, .val (.long j1), .second, .val (.int i2), .val (.int i3), .val (.int i4), .val (.int md), .val (.ref kd), .val (.int nC), .val (.int nK), .val (.int ng), .val (.int qv), .val (.long kk), .second, .val (.long cc), .second, .val (.double r), .second, .val (.int (((2 : Int32) * qv) + (1 : Int32))), .unset] []))
                refine own_st (fun t k => XS.iconst X108.here hx rfl (hb hby at_367) k) ?_
                show own_Run p e below s _ _ _ (T108.setTop (mkF m 368 #[.val (.long j0), .second, .val (.long j1), .second, .val (.int i2), .val (.int i3), .val (.int i4), .val (.int md), .val (.ref kd), .val (.int nC), .val (.int nK), .val (.int ng), .val (.int qv), .val (.long kk), .second, .val (.long cc), .second, .val (.double r), .second, .val (.int (((2 : Int32) * qv) + (1 : Int32))), .unset] [(.int (1 : Int32))]))
                refine own_st (fun t k => XS.goto X108.here hx rfl (pc0 := 368) (pc' := 372) rfl (hb hby at_368) (by decide) (by decide) k) ?_
                show own_Run p e below s _ _ _ (T108.setTop (mkF m 372 #[.val (.long j0), .second, .val (.long j1), .second, .val (.int i2), .val (.int i3), .val (.int i4), .val (.int md), .val (.ref kd), .val (.int nC), .val (.int nK), .val (.int ng), .val (.int qv), .val (.long kk), .second, .val (.long cc), .second, .val (.double r), .second, .val (.int (((2 : Int32) * qv) + (1 : Int32))), .unset] [(.int (1 : Int32))]))
                exact own_ret X108 hx hlk (t := .boolean) hret rfl (Or.inl ⟨rfl, by simp, _, rfl⟩) (hb hby at_372) (by decide) (by decide) ⟨rfl, N108⟩
          · skip
            refine own_st (fun t k => XS.icmpYes X0.here hx rfl (pc0 := 267) (pc' := 373) rfl (hb hby at_267) rfl (feq (hM4 : ¬ (md = (4 : Int32)))).2 (by decide) (by decide) k) ?_
            show own_Run p e below s _ _ _ (T0.setTop (mkF m 373 #[.val (.long j0), .second, .val (.long j1), .second, .val (.int i2), .val (.int i3), .val (.int i4), .val (.int md), .val (.ref kd), .val (.int nC), .val (.int nK), .val (.int ng), .val (.int qv), .unset, .unset, .unset, .unset, .unset, .unset, .unset, .unset] []))
            refine own_st (fun t k => XS.iload X0.here hx rfl (hb hby at_373) rfl k) ?_
            show own_Run p e below s _ _ _ (T0.setTop (mkF m 375 #[.val (.long j0), .second, .val (.long j1), .second, .val (.int i2), .val (.int i3), .val (.int i4), .val (.int md), .val (.ref kd), .val (.int nC), .val (.int nK), .val (.int ng), .val (.int qv), .unset, .unset, .unset, .unset, .unset, .unset, .unset, .unset] [(.int md)]))
            refine own_st (fun t k => XS.iconst X0.here hx rfl (hb hby at_375) k) ?_
            show own_Run p e below s _ _ _ (T0.setTop (mkF m 376 #[.val (.long j0), .second, .val (.long j1), .second, .val (.int i2), .val (.int i3), .val (.int i4), .val (.int md), .val (.ref kd), .val (.int nC), .val (.int nK), .val (.int ng), .val (.int qv), .unset, .unset, .unset, .unset, .unset, .unset, .unset, .unset] [(.int (5 : Int32)), (.int md)]))
            by_cases hM5 : md = (5 : Int32)
            · skip
              refine own_st (fun t k => XS.icmpNo X0.here hx rfl (hb hby at_376) rfl (teq (hM5 : md = (5 : Int32))).2 k) ?_
              show own_Run p e below s _ _ _ (T0.setTop (mkF m 379 #[.val (.long j0), .second, .val (.long j1), .second, .val (.int i2), .val (.int i3), .val (.int i4), .val (.int md), .val (.ref kd), .val (.int nC), .val (.int nK), .val (.int ng), .val (.int qv), .unset, .unset, .unset, .unset, .unset, .unset, .unset, .unset] []))
              refine own_st (fun t k => XS.iload X0.here hx rfl (hb hby at_379) rfl k) ?_
              show own_Run p e below s _ _ _ (T0.setTop (mkF m 381 #[.val (.long j0), .second, .val (.long j1), .second, .val (.int i2), .val (.int i3), .val (.int i4), .val (.int md), .val (.ref kd), .val (.int nC), .val (.int nK), .val (.int ng), .val (.int qv), .unset, .unset, .unset, .unset, .unset, .unset, .unset, .unset] [(.int i2)]))
              refine own_st (X0.ldcInt hx hown (mvT hZ (hw _ (List.mem_of_getElem? (i := 47) rfl))) (g := (mkF m 381 #[.val (.long j0), .second, .val (.long j1), .second, .val (.int i2), .val (.int i3), .val (.int i4), .val (.int md), .val (.ref kd), .val (.int nC), .val (.int nK), .val (.int ng), .val (.int qv), .unset, .unset, .unset, .unset, .unset, .unset, .unset, .unset] [(.int i2)])) rfl (hb hby at_381)) ?_
              show own_Run p e below s _ _ _ (T0.setTop (mkF m 383 #[.val (.long j0), .second, .val (.long j1), .second, .val (.int i2), .val (.int i3), .val (.int i4), .val (.int md), .val (.ref kd), .val (.int nC), .val (.int nK), .val (.int ng), .val (.int qv), .unset, .unset, .unset, .unset, .unset, .unset, .unset, .unset] [(.int (1048575 : Int32)), (.int i2)]))
              refine own_st (fun t k => XS.iand X0.here hx rfl (hb hby at_383) rfl k) ?_
              show own_Run p e below s _ _ _ (T0.setTop (mkF m 384 #[.val (.long j0), .second, .val (.long j1), .second, .val (.int i2), .val (.int i3), .val (.int i4), .val (.int md), .val (.ref kd), .val (.int nC), .val (.int nK), .val (.int ng), .val (.int qv), .unset, .unset, .unset, .unset, .unset, .unset, .unset, .unset] [(.int (i2 &&& (1048575 : Int32)))]))
              refine own_st (fun t k => XS.iconst X0.here hx rfl (hb hby at_384) k) ?_
              show own_Run p e below s _ _ _ (T0.setTop (mkF m 385 #[.val (.long j0), .second, .val (.long j1), .second, .val (.int i2), .val (.int i3), .val (.int i4), .val (.int md), .val (.ref kd), .val (.int nC), .val (.int nK), .val (.int ng), .val (.int qv), .unset, .unset, .unset, .unset, .unset, .unset, .unset, .unset] [(.int (2 : Int32)), (.int (i2 &&& (1048575 : Int32)))]))
              refine own_st (fun t k => XS.iadd X0.here hx rfl (hb hby at_385) rfl k) ?_
              show own_Run p e below s _ _ _ (T0.setTop (mkF m 386 #[.val (.long j0), .second, .val (.long j1), .second, .val (.int i2), .val (.int i3), .val (.int i4), .val (.int md), .val (.ref kd), .val (.int nC), .val (.int nK), .val (.int ng), .val (.int qv), .unset, .unset, .unset, .unset, .unset, .unset, .unset, .unset] [(.int ((i2 &&& (1048575 : Int32)) + (2 : Int32)))]))
              refine own_st (fun t k => XS.i2l X0.here hx rfl (hb hby at_386) rfl k) ?_
              show own_Run p e below s _ _ _ (T0.setTop (mkF m 387 #[.val (.long j0), .second, .val (.long j1), .second, .val (.int i2), .val (.int i3), .val (.int i4), .val (.int md), .val (.ref kd), .val (.int nC), .val (.int nK), .val (.int ng), .val (.int qv), .unset, .unset, .unset, .unset, .unset, .unset, .unset, .unset] [(.long (((i2 &&& (1048575 : Int32)) + (2 : Int32)).toInt64))]))
              obtain ⟨kk, h_kk⟩ : ∃ z, ((((i2 &&& (1048575 : Int32)) + (2 : Int32)).toInt64) : Int64) = z := ⟨_, rfl⟩
              refine own_topJ h_kk ?_
              show own_Run p e below s _ _ _ (T0.setTop (mkF m 387 #[.val (.long j0), .second, .val (.long j1), .second, .val (.int i2), .val (.int i3), .val (.int i4), .val (.int md), .val (.ref kd), .val (.int nC), .val (.int nK), .val (.int ng), .val (.int qv), .unset, .unset, .unset, .unset, .unset, .unset, .unset, .unset] [(.long kk)]))
              have r_kk := own_kk5 h_kk
              refine own_st (fun t k => XS.lstore X0.here hx rfl (hb hby at_387) rfl (l' := #[.val (.long j0), .second, .val (.long j1), .second, .val (.int i2), .val (.int i3), .val (.int i4), .val (.int md), .val (.ref kd), .val (.int nC), .val (.int nK), .val (.int ng), .val (.int qv), .val (.long kk), .second, .unset, .unset, .unset, .unset, .unset, .unset]) rfl k) ?_
              show own_Run p e below s _ _ _ (T0.setTop (mkF m 389 #[.val (.long j0), .second, .val (.long j1), .second, .val (.int i2), .val (.int i3), .val (.int i4), .val (.int md), .val (.ref kd), .val (.int nC), .val (.int nK), .val (.int ng), .val (.int qv), .val (.long kk), .second, .unset, .unset, .unset, .unset, .unset, .unset] []))
              refine own_st (fun t k => XS.lloadN X0.here hx rfl (hb hby at_389) rfl k) ?_
              show own_Run p e below s _ _ _ (T0.setTop (mkF m 390 #[.val (.long j0), .second, .val (.long j1), .second, .val (.int i2), .val (.int i3), .val (.int i4), .val (.int md), .val (.ref kd), .val (.int nC), .val (.int nK), .val (.int ng), .val (.int qv), .val (.long kk), .second, .unset, .unset, .unset, .unset, .unset, .unset] [(.long j1)]))
              refine own_st (X0.ldc2Long hx hown (mvT hZ (hw _ (List.mem_of_getElem? (i := 48) rfl))) (g := (mkF m 390 #[.val (.long j0), .second, .val (.long j1), .second, .val (.int i2), .val (.int i3), .val (.int i4), .val (.int md), .val (.ref kd), .val (.int nC), .val (.int nK), .val (.int ng), .val (.int qv), .val (.long kk), .second, .unset, .unset, .unset, .unset, .unset, .unset] [(.long j1)])) rfl (hb hby at_390)) ?_
              show own_Run p e below s _ _ _ (T0.setTop (mkF m 393 #[.val (.long j0), .second, .val (.long j1), .second, .val (.int i2), .val (.int i3), .val (.int i4), .val (.int md), .val (.ref kd), .val (.int nC), .val (.int nK), .val (.int ng), .val (.int qv), .val (.long kk), .second, .unset, .unset, .unset, .unset, .unset, .unset] [(.long (2147483647 : Int64)), (.long j1)]))
              refine own_st (fun t k => XS.land X0.here hx rfl (hb hby at_393) rfl k) ?_
              show own_Run p e below s _ _ _ (T0.setTop (mkF m 394 #[.val (.long j0), .second, .val (.long j1), .second, .val (.int i2), .val (.int i3), .val (.int i4), .val (.int md), .val (.ref kd), .val (.int nC), .val (.int nK), .val (.int ng), .val (.int qv), .val (.long kk), .second, .unset, .unset, .unset, .unset, .unset, .unset] [(.long (j1 &&& (2147483647 : Int64)))]))
              refine own_st (fun t k => XS.lload X0.here hx rfl (hb hby at_394) rfl k) ?_
              show own_Run p e below s _ _ _ (T0.setTop (mkF m 396 #[.val (.long j0), .second, .val (.long j1), .second, .val (.int i2), .val (.int i3), .val (.int i4), .val (.int md), .val (.ref kd), .val (.int nC), .val (.int nK), .val (.int ng), .val (.int qv), .val (.long kk), .second, .unset, .unset, .unset, .unset, .unset, .unset] [(.long kk), (.long (j1 &&& (2147483647 : Int64)))]))
              refine own_st (fun t k => XS.lconst X0.here hx rfl (hb hby at_396) k) ?_
              show own_Run p e below s _ _ _ (T0.setTop (mkF m 397 #[.val (.long j0), .second, .val (.long j1), .second, .val (.int i2), .val (.int i3), .val (.int i4), .val (.int md), .val (.ref kd), .val (.int nC), .val (.int nK), .val (.int ng), .val (.int qv), .val (.long kk), .second, .unset, .unset, .unset, .unset, .unset, .unset] [(.long (1 : Int64)), (.long kk), (.long (j1 &&& (2147483647 : Int64)))]))
              refine own_st (fun t k => XS.lsub X0.here hx rfl (hb hby at_397) rfl k) ?_
              show own_Run p e below s _ _ _ (T0.setTop (mkF m 398 #[.val (.long j0), .second, .val (.long j1), .second, .val (.int i2), .val (.int i3), .val (.int i4), .val (.int md), .val (.ref kd), .val (.int nC), .val (.int nK), .val (.int ng), .val (.int qv), .val (.long kk), .second, .unset, .unset, .unset, .unset, .unset, .unset] [(.long (kk - (1 : Int64))), (.long (j1 &&& (2147483647 : Int64)))]))
              refine own_st (fun t k => XS.lrem X0.here hx rfl (hb hby at_398) rfl (own_k1ne r_kk) k) ?_
              show own_Run p e below s _ _ _ (T0.setTop (mkF m 399 #[.val (.long j0), .second, .val (.long j1), .second, .val (.int i2), .val (.int i3), .val (.int i4), .val (.int md), .val (.ref kd), .val (.int nC), .val (.int nK), .val (.int ng), .val (.int qv), .val (.long kk), .second, .unset, .unset, .unset, .unset, .unset, .unset] [(.long ((j1 &&& (2147483647 : Int64)) - ((j1 &&& (2147483647 : Int64)) / (kk - (1 : Int64))) * (kk - (1 : Int64))))]))
              refine own_topJ (lrem_mod _ _) ?_
              show own_Run p e below s _ _ _ (T0.setTop (mkF m 399 #[.val (.long j0), .second, .val (.long j1), .second, .val (.int i2), .val (.int i3), .val (.int i4), .val (.int md), .val (.ref kd), .val (.int nC), .val (.int nK), .val (.int ng), .val (.int qv), .val (.long kk), .second, .unset, .unset, .unset, .unset, .unset, .unset] [(.long ((j1 &&& (2147483647 : Int64)) % (kk - (1 : Int64))))]))
              refine own_st (fun t k => XS.lconst X0.here hx rfl (hb hby at_399) k) ?_
              show own_Run p e below s _ _ _ (T0.setTop (mkF m 400 #[.val (.long j0), .second, .val (.long j1), .second, .val (.int i2), .val (.int i3), .val (.int i4), .val (.int md), .val (.ref kd), .val (.int nC), .val (.int nK), .val (.int ng), .val (.int qv), .val (.long kk), .second, .unset, .unset, .unset, .unset, .unset, .unset] [(.long (1 : Int64)), (.long ((j1 &&& (2147483647 : Int64)) % (kk - (1 : Int64))))]))
              refine own_st (fun t k => XS.ladd X0.here hx rfl (hb hby at_400) rfl k) ?_
              show own_Run p e below s _ _ _ (T0.setTop (mkF m 401 #[.val (.long j0), .second, .val (.long j1), .second, .val (.int i2), .val (.int i3), .val (.int i4), .val (.int md), .val (.ref kd), .val (.int nC), .val (.int nK), .val (.int ng), .val (.int qv), .val (.long kk), .second, .unset, .unset, .unset, .unset, .unset, .unset] [(.long (((j1 &&& (2147483647 : Int64)) % (kk - (1 : Int64))) + (1 : Int64)))]))
              obtain ⟨mv, h_mv⟩ : ∃ z, ((((j1 &&& (2147483647 : Int64)) % (kk - (1 : Int64))) + (1 : Int64)) : Int64) = z := ⟨_, rfl⟩
              refine own_topJ h_mv ?_
              show own_Run p e below s _ _ _ (T0.setTop (mkF m 401 #[.val (.long j0), .second, .val (.long j1), .second, .val (.int i2), .val (.int i3), .val (.int i4), .val (.int md), .val (.ref kd), .val (.int nC), .val (.int nK), .val (.int ng), .val (.int qv), .val (.long kk), .second, .unset, .unset, .unset, .unset, .unset, .unset] [(.long mv)]))
              have r_mv := own_mv5 r_kk h_mv
              refine own_st (fun t k => XS.lstore X0.here hx rfl (hb hby at_401) rfl (l' := #[.val (.long j0), .second, .val (.long j1), .second, .val (.int i2), .val (.int i3), .val (.int i4), .val (.int md), .val (.ref kd), .val (.int nC), .val (.int nK), .val (.int ng), .val (.int qv), .val (.long kk), .second, .val (.long mv), .second, .unset, .unset, .unset, .unset]) rfl k) ?_
              show own_Run p e below s _ _ _ (T0.setTop (mkF m 403 #[.val (.long j0), .second, .val (.long j1), .second, .val (.int i2), .val (.int i3), .val (.int i4), .val (.int md), .val (.ref kd), .val (.int nC), .val (.int nK), .val (.int ng), .val (.int qv), .val (.long kk), .second, .val (.long mv), .second, .unset, .unset, .unset, .unset] []))
              refine own_st (fun t k => XS.iload X0.here hx rfl (hb hby at_403) rfl k) ?_
              show own_Run p e below s _ _ _ (T0.setTop (mkF m 405 #[.val (.long j0), .second, .val (.long j1), .second, .val (.int i2), .val (.int i3), .val (.int i4), .val (.int md), .val (.ref kd), .val (.int nC), .val (.int nK), .val (.int ng), .val (.int qv), .val (.long kk), .second, .val (.long mv), .second, .unset, .unset, .unset, .unset] [(.int qv)]))
              refine own_st (fun t k => XS.i2l X0.here hx rfl (hb hby at_405) rfl k) ?_
              show own_Run p e below s _ _ _ (T0.setTop (mkF m 406 #[.val (.long j0), .second, .val (.long j1), .second, .val (.int i2), .val (.int i3), .val (.int i4), .val (.int md), .val (.ref kd), .val (.int nC), .val (.int nK), .val (.int ng), .val (.int qv), .val (.long kk), .second, .val (.long mv), .second, .unset, .unset, .unset, .unset] [(.long (qv.toInt64))]))
              refine own_st (fun t k => XS.lload X0.here hx rfl (hb hby at_406) rfl k) ?_
              show own_Run p e below s _ _ _ (T0.setTop (mkF m 408 #[.val (.long j0), .second, .val (.long j1), .second, .val (.int i2), .val (.int i3), .val (.int i4), .val (.int md), .val (.ref kd), .val (.int nC), .val (.int nK), .val (.int ng), .val (.int qv), .val (.long kk), .second, .val (.long mv), .second, .unset, .unset, .unset, .unset] [(.long kk), (.long (qv.toInt64))]))
              refine own_st (fun t k => XS.lmul X0.here hx rfl (hb hby at_408) rfl k) ?_
              show own_Run p e below s _ _ _ (T0.setTop (mkF m 409 #[.val (.long j0), .second, .val (.long j1), .second, .val (.int i2), .val (.int i3), .val (.int i4), .val (.int md), .val (.ref kd), .val (.int nC), .val (.int nK), .val (.int ng), .val (.int qv), .val (.long kk), .second, .val (.long mv), .second, .unset, .unset, .unset, .unset] [(.long ((qv.toInt64) * kk))]))
              refine own_st (fun t k => XS.lload X0.here hx rfl (hb hby at_409) rfl k) ?_
              show own_Run p e below s _ _ _ (T0.setTop (mkF m 411 #[.val (.long j0), .second, .val (.long j1), .second, .val (.int i2), .val (.int i3), .val (.int i4), .val (.int md), .val (.ref kd), .val (.int nC), .val (.int nK), .val (.int ng), .val (.int qv), .val (.long kk), .second, .val (.long mv), .second, .unset, .unset, .unset, .unset] [(.long mv), (.long ((qv.toInt64) * kk))]))
              refine own_st (fun t k => XS.ladd X0.here hx rfl (hb hby at_411) rfl k) ?_
              show own_Run p e below s _ _ _ (T0.setTop (mkF m 412 #[.val (.long j0), .second, .val (.long j1), .second, .val (.int i2), .val (.int i3), .val (.int i4), .val (.int md), .val (.ref kd), .val (.int nC), .val (.int nK), .val (.int ng), .val (.int qv), .val (.long kk), .second, .val (.long mv), .second, .unset, .unset, .unset, .unset] [(.long (((qv.toInt64) * kk) + mv))]))
              obtain ⟨cc, h_cc⟩ : ∃ z, ((((qv.toInt64) * kk) + mv) : Int64) = z := ⟨_, rfl⟩
              refine own_topJ h_cc ?_
              show own_Run p e below s _ _ _ (T0.setTop (mkF m 412 #[.val (.long j0), .second, .val (.long j1), .second, .val (.int i2), .val (.int i3), .val (.int i4), .val (.int md), .val (.ref kd), .val (.int nC), .val (.int nK), .val (.int ng), .val (.int qv), .val (.long kk), .second, .val (.long mv), .second, .unset, .unset, .unset, .unset] [(.long cc)]))
              have r_cc := own_cc5 hq r_kk r_mv h_cc
              refine own_st (fun t k => XS.lstore X0.here hx rfl (hb hby at_412) rfl (l' := #[.val (.long j0), .second, .val (.long j1), .second, .val (.int i2), .val (.int i3), .val (.int i4), .val (.int md), .val (.ref kd), .val (.int nC), .val (.int nK), .val (.int ng), .val (.int qv), .val (.long kk), .second, .val (.long mv), .second, .val (.long cc), .second, .unset, .unset]) rfl k) ?_
              show own_Run p e below s _ _ _ (T0.setTop (mkF m 414 #[.val (.long j0), .second, .val (.long j1), .second, .val (.int i2), .val (.int i3), .val (.int i4), .val (.int md), .val (.ref kd), .val (.int nC), .val (.int nK), .val (.int ng), .val (.int qv), .val (.long kk), .second, .val (.long mv), .second, .val (.long cc), .second, .unset, .unset] []))
              refine own_st (fun t k => XS.aload X0.here hx rfl (hb hby at_414) rfl rfl k) ?_
              show own_Run p e below s _ _ _ (T0.setTop (mkF m 416 #[.val (.long j0), .second, .val (.long j1), .second, .val (.int i2), .val (.int i3), .val (.int i4), .val (.int md), .val (.ref kd), .val (.int nC), .val (.int nK), .val (.int ng), .val (.int qv), .val (.long kk), .second, .val (.long mv), .second, .val (.long cc), .second, .unset, .unset] [(.ref kd)]))
              refine own_st (fun t k => XS.iload X0.here hx rfl (hb hby at_416) rfl k) ?_
              show own_Run p e below s _ _ _ (T0.setTop (mkF m 418 #[.val (.long j0), .second, .val (.long j1), .second, .val (.int i2), .val (.int i3), .val (.int i4), .val (.int md), .val (.ref kd), .val (.int nC), .val (.int nK), .val (.int ng), .val (.int qv), .val (.long kk), .second, .val (.long mv), .second, .val (.long cc), .second, .unset, .unset] [(.int nC), (.ref kd)]))
              by_cases hC0 : nC = (0 : Int32)
              · skip
                refine own_st (fun t k => XS.ifYes X0.here hx rfl (pc0 := 418) (pc' := 427) rfl (hb hby at_418) rfl ((if0 _ _).trans (teq (hC0 : nC = (0 : Int32))).1) (by decide) (by decide) k) ?_
                show own_Run p e below s _ _ _ (T0.setTop (mkF m 427 #[.val (.long j0), .second, .val (.long j1), .second, .val (.int i2), .val (.int i3), .val (.int i4), .val (.int md), .val (.ref kd), .val (.int nC), .val (.int nK), .val (.int ng), .val (.int qv), .val (.long kk), .second, .val (.long mv), .second, .val (.long cc), .second, .unset, .unset] [(.ref kd)]))
                refine own_st (fun t k => XS.lload X0.here hx rfl (hb hby at_427) rfl k) ?_
                show own_Run p e below s _ _ _ (T0.setTop (mkF m 429 #[.val (.long j0), .second, .val (.long j1), .second, .val (.int i2), .val (.int i3), .val (.int i4), .val (.int md), .val (.ref kd), .val (.int nC), .val (.int nK), .val (.int ng), .val (.int qv), .val (.long kk), .second, .val (.long mv), .second, .val (.long cc), .second, .unset, .unset] [(.long cc), (.ref kd)]))
                refine own_st (fun t k => XS.iload X0.here hx rfl (hb hby at_429) rfl k) ?_
                show own_Run p e below s _ _ _ (T0.setTop (mkF m 431 #[.val (.long j0), .second, .val (.long j1), .second, .val (.int i2), .val (.int i3), .val (.int i4), .val (.int md), .val (.ref kd), .val (.int nC), .val (.int nK), .val (.int ng), .val (.int qv), .val (.long kk), .second, .val (.long mv), .second, .val (.long cc), .second, .unset, .unset] [(.int nK), (.long cc), (.ref kd)]))
                by_cases hK0 : nK = (0 : Int32)
                · skip
                  refine own_st (fun t k => XS.ifYes X0.here hx rfl (pc0 := 431) (pc' := 440) rfl (hb hby at_431) rfl ((if0 _ _).trans (teq (hK0 : nK = (0 : Int32))).1) (by decide) (by decide) k) ?_
                  show own_Run p e below s _ _ _ (T0.setTop (mkF m 440 #[.val (.long j0), .second, .val (.long j1), .second, .val (.int i2), .val (.int i3), .val (.int i4), .val (.int md), .val (.ref kd), .val (.int nC), .val (.int nK), .val (.int ng), .val (.int qv), .val (.long kk), .second, .val (.long mv), .second, .val (.long cc), .second, .unset, .unset] [(.long cc), (.ref kd)]))
                  refine own_st (fun t k => XS.lload X0.here hx rfl (hb hby at_440) rfl k) ?_
                  show own_Run p e below s _ _ _ (T0.setTop (mkF m 442 #[.val (.long j0), .second, .val (.long j1), .second, .val (.int i2), .val (.int i3), .val (.int i4), .val (.int md), .val (.ref kd), .val (.int nC), .val (.int nK), .val (.int ng), .val (.int qv), .val (.long kk), .second, .val (.long mv), .second, .val (.long cc), .second, .unset, .unset] [(.long kk), (.long cc), (.ref kd)]))
                  refine own_callS X0 hx hZ (y := (⟨"com/example/tunegrid/tunegrid/IntervalContentionPinLaw", "contention", "(Lcom/example/tunegrid/tunegrid/Replication$Kind;JJ)D"⟩ : MethodName)) hown (hw _ (List.mem_of_getElem? (i := 4) rfl)) (hw _ (List.mem_of_getElem? (i := 5) rfl)) (hw _ (List.mem_of_getElem? (i := 7) rfl)) (hw _ (List.mem_of_getElem? (i := 6) rfl)) (by decide) e0 (argsL := [(.ref kd), (.long cc), (.long kk)]) (rest := []) (W := 0) (own_rm1 l Z a0 hw [] kd cc kk hs n0 (Nat.le_trans Z0 K0.1) ) (by decide) (by decide) (by rw [hml]; rfl) (lenOf own_pd6 rfl) rfl (by exact Nat.le_of_eq rfl) (hb hby at_442) (by decide) (by decide) ?_
                  intro T111 v111 L111 X111 hq111
                  obtain ⟨rfl, N111q, K111q⟩ := hq111
                  have K112 : Keep h0 T111.heap [] := K0.trans K111q all0
                  have O113 := O0.keep K111q all0
                  have N111 := Fr.app N0 N111q
                  show own_Run p e below s _ _ _ (T111.setTop (mkF m 445 #[.val (.long j0), .second, .val (.long j1), .second, .val (.int i2), .val (.int i3), .val (.int i4), .val (.int md), .val (.ref kd), .val (.int nC), .val (.int nK), .val (.int ng), .val (.int qv), .val (.long kk), .second, .val (.long mv), .second, .val (.long cc), .second, .unset, .unset] [(.double (if kk = (0 : Int64) then (0 : UInt64) else (FP.ddiv (FP.l2d cc) (FP.l2d kk))))]))
                  obtain ⟨r, h_r⟩ : ∃ z, ((if kk = (0 : Int64) then (0 : UInt64) else (FP.ddiv (FP.l2d cc) (FP.l2d kk))) : UInt64) = z := ⟨_, rfl⟩
                  refine own_topD h_r ?_
                  show own_Run p e below s _ _ _ (T111.setTop (mkF m 445 #[.val (.long j0), .second, .val (.long j1), .second, .val (.int i2), .val (.int i3), .val (.int i4), .val (.int md), .val (.ref kd), .val (.int nC), .val (.int nK), .val (.int ng), .val (.int qv), .val (.long kk), .second, .val (.long mv), .second, .val (.long cc), .second, .unset, .unset] [(.double r)]))
                  obtain ⟨s1, s2⟩ := own_m5a hq r_kk r_mv r_cc h_r .g
                  refine own_st (fun t k => XS.dstore X111.here hx rfl (hb hby at_445) rfl (l' := #[.val (.long j0), .second, .val (.long j1), .second, .val (.int i2), .val (.int i3), .val (.int i4), .val (.int md), .val (.ref kd), .val (.int nC), .val (.int nK), .val (.int ng), .val (.int qv), .val (.long kk), .second, .val (.long mv), .second, .val (.long cc), .second, .val (.double r), .second]) rfl k) ?_
                  show own_Run p e below s _ _ _ (T111.setTop (mkF m 447 #[.val (.long j0), .second, .val (.long j1), .second, .val (.int i2), .val (.int i3), .val (.int i4), .val (.int md), .val (.ref kd), .val (.int nC), .val (.int nK), .val (.int ng), .val (.int qv), .val (.long kk), .second, .val (.long mv), .second, .val (.long cc), .second, .val (.double r), .second] []))
                  refine own_st (fun t k => XS.iload X111.here hx rfl (hb hby at_447) rfl k) ?_
                  show own_Run p e below s _ _ _ (T111.setTop (mkF m 449 #[.val (.long j0), .second, .val (.long j1), .second, .val (.int i2), .val (.int i3), .val (.int i4), .val (.int md), .val (.ref kd), .val (.int nC), .val (.int nK), .val (.int ng), .val (.int qv), .val (.long kk), .second, .val (.long mv), .second, .val (.long cc), .second, .val (.double r), .second] [(.int ng)]))
                  refine own_st (fun t k => XS.ifYes X111.here hx rfl (pc0 := 449) (pc' := 480) rfl (hb hby at_449) rfl ((if0 _ _).trans (teq (by rw [hng, hC0, hK0]; decide : ng = (0 : Int32))).1) (by decide) (by decide) k) ?_
                  show own_Run p e below s _ _ _ (T111.setTop (mkF m 480 #[.val (.long j0), .second, .val (.long j1), .second, .val (.int i2), .val (.int i3), .val (.int i4), .val (.int md), .val (.ref kd), .val (.int nC), .val (.int nK), .val (.int ng), .val (.int qv), .val (.long kk), .second, .val (.long mv), .second, .val (.long cc), .second, .val (.double r), .second] []))
                  refine own_st (fun t k => XS.iload X111.here hx rfl (hb hby at_480) rfl k) ?_
                  show own_Run p e below s _ _ _ (T111.setTop (mkF m 482 #[.val (.long j0), .second, .val (.long j1), .second, .val (.int i2), .val (.int i3), .val (.int i4), .val (.int md), .val (.ref kd), .val (.int nC), .val (.int nK), .val (.int ng), .val (.int qv), .val (.long kk), .second, .val (.long mv), .second, .val (.long cc), .second, .val (.double r), .second] [(.int qv)]))
                  refine own_st (fun t k => XS.i2dS X111.here hx rfl (hb hby at_482) rfl (v := (FP.i2d qv)) (rfl) k) ?_
                  show own_Run p e below s _ _ _ (T111.setTop (mkF m 483 #[.val (.long j0), .second, .val (.long j1), .second, .val (.int i2), .val (.int i3), .val (.int i4), .val (.int md), .val (.ref kd), .val (.int nC), .val (.int nK), .val (.int ng), .val (.int qv), .val (.long kk), .second, .val (.long mv), .second, .val (.long cc), .second, .val (.double r), .second] [(.double (FP.i2d qv))]))
                  refine own_st (fun t k => XS.dload X111.here hx rfl (hb hby at_483) rfl k) ?_
                  show own_Run p e below s _ _ _ (T111.setTop (mkF m 485 #[.val (.long j0), .second, .val (.long j1), .second, .val (.int i2), .val (.int i3), .val (.int i4), .val (.int md), .val (.ref kd), .val (.int nC), .val (.int nK), .val (.int ng), .val (.int qv), .val (.long kk), .second, .val (.long mv), .second, .val (.long cc), .second, .val (.double r), .second] [(.double r), (.double (FP.i2d qv))]))
                  refine own_st (fun t k => XS.dcmpS X111.here hx rfl (hb hby at_485) rfl (v := (-1 : Int32)) (s1) k) ?_
                  show own_Run p e below s _ _ _ (T111.setTop (mkF m 486 #[.val (.long j0), .second, .val (.long j1), .second, .val (.int i2), .val (.int i3), .val (.int i4), .val (.int md), .val (.ref kd), .val (.int nC), .val (.int nK), .val (.int ng), .val (.int qv), .val (.long kk), .second, .val (.long mv), .second, .val (.long cc), .second, .val (.double r), .second] [(.int (-1 : Int32))]))
                  refine own_st (fun t k => XS.ifNo X111.here hx rfl (hb hby at_486) rfl ((if0 _ _).trans (tlt (by decide : (-1 : Int32) < (0 : Int32))).2.1) k) ?_
                  show own_Run p e below s _ _ _ (T111.setTop (mkF m 489 #[.val (.long j0), .second, .val (.long j1), .second, .val (.int i2), .val (.int i3), .val (.int i4), .val (.int md), .val (.ref kd), .val (.int nC), .val (.int nK), .val (.int ng), .val (.int qv), .val (.long kk), .second, .val (.long mv), .second, .val (.long cc), .second, .val (.double r), .second] []))
                  refine own_st (fun t k => XS.dload X111.here hx rfl (hb hby at_489) rfl k) ?_
                  show own_Run p e below s _ _ _ (T111.setTop (mkF m 491 #[.val (.long j0), .second, .val (.long j1), .second, .val (.int i2), .val (.int i3), .val (.int i4), .val (.int md), .val (.ref kd), .val (.int nC), .val (.int nK), .val (.int ng), .val (.int qv), .val (.long kk), .second, .val (.long mv), .second, .val (.long cc), .second, .val (.double r), .second] [(.double r)]))
                  refine own_st (fun t k => XS.iload X111.here hx rfl (hb hby at_491) rfl k) ?_
                  show own_Run p e below s _ _ _ (T111.setTop (mkF m 493 #[.val (.long j0), .second, .val (.long j1), .second, .val (.int i2), .val (.int i3), .val (.int i4), .val (.int md), .val (.ref kd), .val (.int nC), .val (.int nK), .val (.int ng), .val (.int qv), .val (.long kk), .second, .val (.long mv), .second, .val (.long cc), .second, .val (.double r), .second] [(.int qv), (.double r)]))
                  refine own_st (fun t k => XS.iconst X111.here hx rfl (hb hby at_493) k) ?_
                  show own_Run p e below s _ _ _ (T111.setTop (mkF m 494 #[.val (.long j0), .second, .val (.long j1), .second, .val (.int i2), .val (.int i3), .val (.int i4), .val (.int md), .val (.ref kd), .val (.int nC), .val (.int nK), .val (.int ng), .val (.int qv), .val (.long kk), .second, .val (.long mv), .second, .val (.long cc), .second, .val (.double r), .second] [(.int (1 : Int32)), (.int qv), (.double r)]))
                  refine own_st (fun t k => XS.iadd X111.here hx rfl (hb hby at_494) rfl k) ?_
                  show own_Run p e below s _ _ _ (T111.setTop (mkF m 495 #[.val (.long j0), .second, .val (.long j1), .second, .val (.int i2), .val (.int i3), .val (.int i4), .val (.int md), .val (.ref kd), .val (.int nC), .val (.int nK), .val (.int ng), .val (.int qv), .val (.long kk), .second, .val (.long mv), .second, .val (.long cc), .second, .val (.double r), .second] [(.int (qv + (1 : Int32))), (.double r)]))
                  refine own_st (fun t k => XS.i2dS X111.here hx rfl (hb hby at_495) rfl (v := (FP.i2d (qv + (1 : Int32)))) (rfl) k) ?_
                  show own_Run p e below s _ _ _ (T111.setTop (mkF m 496 #[.val (.long j0), .second, .val (.long j1), .second, .val (.int i2), .val (.int i3), .val (.int i4), .val (.int md), .val (.ref kd), .val (.int nC), .val (.int nK), .val (.int ng), .val (.int qv), .val (.long kk), .second, .val (.long mv), .second, .val (.long cc), .second, .val (.double r), .second] [(.double (FP.i2d (qv + (1 : Int32)))), (.double r)]))
                  refine own_st (fun t k => XS.dcmpS X111.here hx rfl (hb hby at_496) rfl (v := (-1 : Int32)) (s2) k) ?_
                  show own_Run p e below s _ _ _ (T111.setTop (mkF m 497 #[.val (.long j0), .second, .val (.long j1), .second, .val (.int i2), .val (.int i3), .val (.int i4), .val (.int md), .val (.ref kd), .val (.int nC), .val (.int nK), .val (.int ng), .val (.int qv), .val (.long kk), .second, .val (.long mv), .second, .val (.long cc), .second, .val (.double r), .second] [(.int (-1 : Int32))]))
                  refine own_st (fun t k => XS.ifNo X111.here hx rfl (hb hby at_497) rfl ((if0 _ _).trans (tlt (by decide : (-1 : Int32) < (0 : Int32))).2.1) k) ?_
                  show own_Run p e below s _ _ _ (T111.setTop (mkF m 500 #[.val (.long j0), .second, .val (.long j1), .second, .val (.int i2), .val (.int i3), .val (.int i4), .val (.int md), .val (.ref kd), .val (.int nC), .val (.int nK), .val (.int ng), .val (.int qv), .val (.long kk), .second, .val (.long mv), .second, .val (.long cc), .second, .val (.double r), .second] []))
                  refine own_st (fun t k => XS.iconst X111.here hx rfl (hb hby at_500) k) ?_
                  show own_Run p e below s _ _ _ (T111.setTop (mkF m 501 #[.val (.long j0), .second, .val (.long j1), .second, .val (.int i2), .val (.int i3), .val (.int i4), .val (.int md), .val (.ref kd), .val (.int nC), .val (.int nK), .val (.int ng), .val (.int qv), .val (.long kk), .second, .val (.long mv), .second, .val (.long cc), .second, .val (.double r), .second] [(.int (1 : Int32))]))
                  refine own_st (fun t k => XS.goto X111.here hx rfl (pc0 := 501) (pc' := 505) rfl (hb hby at_501) (by decide) (by decide) k) ?_
                  show own_Run p e below s _ _ _ (T111.setTop (mkF m 505 #[.val (.long j0), .second, .val (.long j1), .second, .val (.int i2), .val (.int i3), .val (.int i4), .val (.int md), .val (.ref kd), .val (.int nC), .val (.int nK), .val (.int ng), .val (.int qv), .val (.long kk), .second, .val (.long mv), .second, .val (.long cc), .second, .val (.double r), .second] [(.int (1 : Int32))]))
                  exact own_ret X111 hx hlk (t := .boolean) hret rfl (Or.inl ⟨rfl, by simp, _, rfl⟩) (hb hby at_505) (by decide) (by decide) ⟨rfl, N111⟩
                · skip
                  have hK1 := hnK.resolve_left hK0
                  refine own_st (fun t k => XS.ifNo X0.here hx rfl (hb hby at_431) rfl ((if0 _ _).trans (feq (hK0 : ¬ (nK = (0 : Int32)))).1) k) ?_
                  show own_Run p e below s _ _ _ (T0.setTop (mkF m 434 #[.val (.long j0), .second, .val (.long j1), .second, .val (.int i2), .val (.int i3), .val (.int i4), .val (.int md), .val (.ref kd), .val (.int nC), .val (.int nK), .val (.int ng), .val (.int qv), .val (.long kk), .second, .val (.long mv), .second, .val (.long cc), .second, .unset, .unset] [(.long cc), (.ref kd)]))
                  refine own_st (fun t k => XS.lload X0.here hx rfl (hb hby at_434) rfl k) ?_
                  show own_Run p e below s _ _ _ (T0.setTop (mkF m 436 #[.val (.long j0), .second, .val (.long j1), .second, .val (.int i2), .val (.int i3), .val (.int i4), .val (.int md), .val (.ref kd), .val (.int nC), .val (.int nK), .val (.int ng), .val (.int qv), .val (.long kk), .second, .val (.long mv), .second, .val (.long cc), .second, .unset, .unset] [(.long kk), (.long cc), (.ref kd)]))
                  refine own_st (fun t k => XS.lneg X0.here hx rfl (hb hby at_436) rfl k) ?_
                  show own_Run p e below s _ _ _ (T0.setTop (mkF m 437 #[.val (.long j0), .second, .val (.long j1), .second, .val (.int i2), .val (.int i3), .val (.int i4), .val (.int md), .val (.ref kd), .val (.int nC), .val (.int nK), .val (.int ng), .val (.int qv), .val (.long kk), .second, .val (.long mv), .second, .val (.long cc), .second, .unset, .unset] [(.long (-kk)), (.long cc), (.ref kd)]))
                  refine own_st (fun t k => XS.goto X0.here hx rfl (pc0 := 437) (pc' := 442) rfl (hb hby at_437) (by decide) (by decide) k) ?_
                  show own_Run p e below s _ _ _ (T0.setTop (mkF m 442 #[.val (.long j0), .second, .val (.long j1), .second, .val (.int i2), .val (.int i3), .val (.int i4), .val (.int md), .val (.ref kd), .val (.int nC), .val (.int nK), .val (.int ng), .val (.int qv), .val (.long kk), .second, .val (.long mv), .second, .val (.long cc), .second, .unset, .unset] [(.long (-kk)), (.long cc), (.ref kd)]))
                  refine own_callS X0 hx hZ (y := (⟨"com/example/tunegrid/tunegrid/IntervalContentionPinLaw", "contention", "(Lcom/example/tunegrid/tunegrid/Replication$Kind;JJ)D"⟩ : MethodName)) hown (hw _ (List.mem_of_getElem? (i := 4) rfl)) (hw _ (List.mem_of_getElem? (i := 5) rfl)) (hw _ (List.mem_of_getElem? (i := 7) rfl)) (hw _ (List.mem_of_getElem? (i := 6) rfl)) (by decide) e0 (argsL := [(.ref kd), (.long cc), (.long (-kk))]) (rest := []) (W := 0) (own_rm1 l Z a0 hw [] kd cc (-kk) hs n0 (Nat.le_trans Z0 K0.1) ) (by decide) (by decide) (by rw [hml]; rfl) (lenOf own_pd6 rfl) rfl (by exact Nat.le_of_eq rfl) (hb hby at_442) (by decide) (by decide) ?_
                  intro T114 v114 L114 X114 hq114
                  obtain ⟨rfl, N114q, K114q⟩ := hq114
                  have K115 : Keep h0 T114.heap [] := K0.trans K114q all0
                  have O116 := O0.keep K114q all0
                  have N114 := Fr.app N0 N114q
                  show own_Run p e below s _ _ _ (T114.setTop (mkF m 445 #[.val (.long j0), .second, .val (.long j1), .second, .val (.int i2), .val (.int i3), .val (.int i4), .val (.int md), .val (.ref kd), .val (.int nC), .val (.int nK), .val (.int ng), .val (.int qv), .val (.long kk), .second, .val (.long mv), .second, .val (.long cc), .second, .unset, .unset] [(.double (if (-kk) = (0 : Int64) then (0 : UInt64) else (FP.ddiv (FP.l2d cc) (FP.l2d (-kk)))))]))
                  obtain ⟨r, h_r⟩ : ∃ z, ((if (-kk) = (0 : Int64) then (0 : UInt64) else (FP.ddiv (FP.l2d cc) (FP.l2d (-kk)))) : UInt64) = z := ⟨_, rfl⟩
                  refine own_topD h_r ?_
                  show own_Run p e below s _ _ _ (T114.setTop (mkF m 445 #[.val (.long j0), .second, .val (.long j1), .second, .val (.int i2), .val (.int i3), .val (.int i4), .val (.int md), .val (.ref kd), .val (.int nC), .val (.int nK), .val (.int ng), .val (.int qv), .val (.long kk), .second, .val (.long mv), .second, .val (.long cc), .second, .unset, .unset] [(.double r)]))
                  obtain ⟨s1, s2⟩ := own_m5c hq r_kk r_mv r_cc h_r .g
                  refine own_st (fun t k => XS.dstore X114.here hx rfl (hb hby at_445) rfl (l' := #[.val (.long j0), .second, .val (.long j1), .second, .val (.int i2), .val (.int i3), .val (.int i4), .val (.int md), .val (.ref kd), .val (.int nC), .val (.int nK), .val (.int ng), .val (.int qv), .val (.long kk), .second, .val (.long mv), .second, .val (.long cc), .second, .val (.double r), .second]) rfl k) ?_
                  show own_Run p e below s _ _ _ (T114.setTop (mkF m 447 #[.val (.long j0), .second, .val (.long j1), .second, .val (.int i2), .val (.int i3), .val (.int i4), .val (.int md), .val (.ref kd), .val (.int nC), .val (.int nK), .val (.int ng), .val (.int qv), .val (.long kk), .second, .val (.long mv), .second, .val (.long cc), .second, .val (.double r), .second] []))
                  refine own_st (fun t k => XS.iload X114.here hx rfl (hb hby at_447) rfl k) ?_
                  show own_Run p e below s _ _ _ (T114.setTop (mkF m 449 #[.val (.long j0), .second, .val (.long j1), .second, .val (.int i2), .val (.int i3), .val (.int i4), .val (.int md), .val (.ref kd), .val (.int nC), .val (.int nK), .val (.int ng), .val (.int qv), .val (.long kk), .second, .val (.long mv), .second, .val (.long cc), .second, .val (.double r), .second] [(.int ng)]))
                  refine own_st (fun t k => XS.ifNo X114.here hx rfl (hb hby at_449) rfl ((if0 _ _).trans (feq (by rw [hng, hC0, hK1]; decide : ¬ (ng = (0 : Int32)))).1) k) ?_
                  show own_Run p e below s _ _ _ (T114.setTop (mkF m 452 #[.val (.long j0), .second, .val (.long j1), .second, .val (.int i2), .val (.int i3), .val (.int i4), .val (.int md), .val (.ref kd), .val (.int nC), .val (.int nK), .val (.int ng), .val (.int qv), .val (.long kk), .second, .val (.long mv), .second, .val (.long cc), .second, .val (.double r), .second] []))
                  refine own_st (fun t k => XS.iload X114.here hx rfl (hb hby at_452) rfl k) ?_
                  show own_Run p e below s _ _ _ (T114.setTop (mkF m 454 #[.val (.long j0), .second, .val (.long j1), .second, .val (.int i2), .val (.int i3), .val (.int i4), .val (.int md), .val (.ref kd), .val (.int nC), .val (.int nK), .val (.int ng), .val (.int qv), .val (.long kk), .second, .val (.long mv), .second, .val (.long cc), .second, .val (.double r), .second] [(.int qv)]))
                  refine own_st (fun t k => XS.ineg X114.here hx rfl (hb hby at_454) rfl k) ?_
                  show own_Run p e below s _ _ _ (T114.setTop (mkF m 455 #[.val (.long j0), .second, .val (.long j1), .second, .val (.int i2), .val (.int i3), .val (.int i4), .val (.int md), .val (.ref kd), .val (.int nC), .val (.int nK), .val (.int ng), .val (.int qv), .val (.long kk), .second, .val (.long mv), .second, .val (.long cc), .second, .val (.double r), .second] [(.int (-qv))]))
                  refine own_st (fun t k => XS.iconst X114.here hx rfl (hb hby at_455) k) ?_
                  show own_Run p e below s _ _ _ (T114.setTop (mkF m 456 #[.val (.long j0), .second, .val (.long j1), .second, .val (.int i2), .val (.int i3), .val (.int i4), .val (.int md), .val (.ref kd), .val (.int nC), .val (.int nK), .val (.int ng), .val (.int qv), .val (.long kk), .second, .val (.long mv), .second, .val (.long cc), .second, .val (.double r), .second] [(.int (1 : Int32)), (.int (-qv))]))
                  refine own_st (fun t k => XS.isub X114.here hx rfl (hb hby at_456) rfl k) ?_
                  show own_Run p e below s _ _ _ (T114.setTop (mkF m 457 #[.val (.long j0), .second, .val (.long j1), .second, .val (.int i2), .val (.int i3), .val (.int i4), .val (.int md), .val (.ref kd), .val (.int nC), .val (.int nK), .val (.int ng), .val (.int qv), .val (.long kk), .second, .val (.long mv), .second, .val (.long cc), .second, .val (.double r), .second] [(.int ((-qv) - (1 : Int32)))]))
                  refine own_st (fun t k => XS.i2dS X114.here hx rfl (hb hby at_457) rfl (v := (FP.i2d ((-qv) - (1 : Int32)))) (rfl) k) ?_
                  show own_Run p e below s _ _ _ (T114.setTop (mkF m 458 #[.val (.long j0), .second, .val (.long j1), .second, .val (.int i2), .val (.int i3), .val (.int i4), .val (.int md), .val (.ref kd), .val (.int nC), .val (.int nK), .val (.int ng), .val (.int qv), .val (.long kk), .second, .val (.long mv), .second, .val (.long cc), .second, .val (.double r), .second] [(.double (FP.i2d ((-qv) - (1 : Int32))))]))
                  refine own_st (fun t k => XS.dload X114.here hx rfl (hb hby at_458) rfl k) ?_
                  show own_Run p e below s _ _ _ (T114.setTop (mkF m 460 #[.val (.long j0), .second, .val (.long j1), .second, .val (.int i2), .val (.int i3), .val (.int i4), .val (.int md), .val (.ref kd), .val (.int nC), .val (.int nK), .val (.int ng), .val (.int qv), .val (.long kk), .second, .val (.long mv), .second, .val (.long cc), .second, .val (.double r), .second] [(.double r), (.double (FP.i2d ((-qv) - (1 : Int32))))]))
                  refine own_st (fun t k => XS.dcmpS X114.here hx rfl (hb hby at_460) rfl (v := (-1 : Int32)) (s1) k) ?_
                  show own_Run p e below s _ _ _ (T114.setTop (mkF m 461 #[.val (.long j0), .second, .val (.long j1), .second, .val (.int i2), .val (.int i3), .val (.int i4), .val (.int md), .val (.ref kd), .val (.int nC), .val (.int nK), .val (.int ng), .val (.int qv), .val (.long kk), .second, .val (.long mv), .second, .val (.long cc), .second, .val (.double r), .second] [(.int (-1 : Int32))]))
                  refine own_st (fun t k => XS.ifNo X114.here hx rfl (hb hby at_461) rfl ((if0 _ _).trans (tlt (by decide : (-1 : Int32) < (0 : Int32))).2.1) k) ?_
                  show own_Run p e below s _ _ _ (T114.setTop (mkF m 464 #[.val (.long j0), .second, .val (.long j1), .second, .val (.int i2), .val (.int i3), .val (.int i4), .val (.int md), .val (.ref kd), .val (.int nC), .val (.int nK), .val (.int ng), .val (.int qv), .val (.long kk), .second, .val (.long mv), .second, .val (.long cc), .second, .val (.double r), .second] []))
                  refine own_st (fun t k => XS.dload X114.here hx rfl (hb hby at_464) rfl k) ?_
                  show own_Run p e below s _ _ _ (T114.setTop (mkF m 466 #[.val (.long j0), .second, .val (.long j1), .second, .val (.int i2), .val (.int i3), .val (.int i4), .val (.int md), .val (.ref kd), .val (.int nC), .val (.int nK), .val (.int ng), .val (.int qv), .val (.long kk), .second, .val (.long mv), .second, .val (.long cc), .second, .val (.double r), .second] [(.double r)]))
                  refine own_st (fun t k => XS.iload X114.here hx rfl (hb hby at_466) rfl k) ?_
                  show own_Run p e below s _ _ _ (T114.setTop (mkF m 468 #[.val (.long j0), .second, .val (.long j1), .second, .val (.int i2), .val (.int i3), .val (.int i4), .val (.int md), .val (.ref kd), .val (.int nC), .val (.int nK), .val (.int ng), .val (.int qv), .val (.long kk), .second, .val (.long mv), .second, .val (.long cc), .second, .val (.double r), .second] [(.int qv), (.double r)]))
                  refine own_st (fun t k => XS.ineg X114.here hx rfl (hb hby at_468) rfl k) ?_
                  show own_Run p e below s _ _ _ (T114.setTop (mkF m 469 #[.val (.long j0), .second, .val (.long j1), .second, .val (.int i2), .val (.int i3), .val (.int i4), .val (.int md), .val (.ref kd), .val (.int nC), .val (.int nK), .val (.int ng), .val (.int qv), .val (.long kk), .second, .val (.long mv), .second, .val (.long cc), .second, .val (.double r), .second] [(.int (-qv)), (.double r)]))
                  refine own_st (fun t k => XS.i2dS X114.here hx rfl (hb hby at_469) rfl (v := (FP.i2d (-qv))) (rfl) k) ?_
                  show own_Run p e below s _ _ _ (T114.setTop (mkF m 470 #[.val (.long j0), .second, .val (.long j1), .second, .val (.int i2), .val (.int i3), .val (.int i4), .val (.int md), .val (.ref kd), .val (.int nC), .val (.int nK), .val (.int ng), .val (.int qv), .val (.long kk), .second, .val (.long mv), .second, .val (.long cc), .second, .val (.double r), .second] [(.double (FP.i2d (-qv))), (.double r)]))
                  refine own_st (fun t k => XS.dcmpS X114.here hx rfl (hb hby at_470) rfl (v := (-1 : Int32)) (s2) k) ?_
                  show own_Run p e below s _ _ _ (T114.setTop (mkF m 471 #[.val (.long j0), .second, .val (.long j1), .second, .val (.int i2), .val (.int i3), .val (.int i4), .val (.int md), .val (.ref kd), .val (.int nC), .val (.int nK), .val (.int ng), .val (.int qv), .val (.long kk), .second, .val (.long mv), .second, .val (.long cc), .second, .val (.double r), .second] [(.int (-1 : Int32))]))
                  refine own_st (fun t k => XS.ifNo X114.here hx rfl (hb hby at_471) rfl ((if0 _ _).trans (tlt (by decide : (-1 : Int32) < (0 : Int32))).2.1) k) ?_
                  show own_Run p e below s _ _ _ (T114.setTop (mkF m 474 #[.val (.long j0), .second, .val (.long j1), .second, .val (.int i2), .val (.int i3), .val (.int i4), .val (.int md), .val (.ref kd), .val (.int nC), .val (.int nK), .val (.int ng), .val (.int qv), .val (.long kk), .second, .val (.long mv), .second, .val (.long cc), .second, .val (.double r), .second] []))
                  refine own_st (fun t k => XS.iconst X114.here hx rfl (hb hby at_474) k) ?_
                  show own_Run p e below s _ _ _ (T114.setTop (mkF m 475 #[.val (.long j0), .second, .val (.long j1), .second, .val (.int i2), .val (.int i3), .val (.int i4), .val (.int md), .val (.ref kd), .val (.int nC), .val (.int nK), .val (.int ng), .val (.int qv), .val (.long kk), .second, .val (.long mv), .second, .val (.long cc), .second, .val (.double r), .second] [(.int (1 : Int32))]))
                  refine own_st (fun t k => XS.goto X114.here hx rfl (pc0 := 475) (pc' := 479) rfl (hb hby at_475) (by decide) (by decide) k) ?_
                  show own_Run p e below s _ _ _ (T114.setTop (mkF m 479 #[.val (.long j0), .second, .val (.long j1), .second, .val (.int i2), .val (.int i3), .val (.int i4), .val (.int md), .val (.ref kd), .val (.int nC), .val (.int nK), .val (.int ng), .val (.int qv), .val (.long kk), .second, .val (.long mv), .second, .val (.long cc), .second, .val (.double r), .second] [(.int (1 : Int32))]))
                  exact own_ret X114 hx hlk (t := .boolean) hret rfl (Or.inl ⟨rfl, by simp, _, rfl⟩) (hb hby at_479) (by decide) (by decide) ⟨rfl, N114⟩
              · skip
                have hC1 := hnC.resolve_left hC0
                refine own_st (fun t k => XS.ifNo X0.here hx rfl (hb hby at_418) rfl ((if0 _ _).trans (feq (hC0 : ¬ (nC = (0 : Int32)))).1) k) ?_
                show own_Run p e below s _ _ _ (T0.setTop (mkF m 421 #[.val (.long j0), .second, .val (.long j1), .second, .val (.int i2), .val (.int i3), .val (.int i4), .val (.int md), .val (.ref kd), .val (.int nC), .val (.int nK), .val (.int ng), .val (.int qv), .val (.long kk), .second, .val (.long mv), .second, .val (.long cc), .second, .unset, .unset] [(.ref kd)]))
                refine own_st (fun t k => XS.lload X0.here hx rfl (hb hby at_421) rfl k) ?_
                show own_Run p e below s _ _ _ (T0.setTop (mkF m 423 #[.val (.long j0), .second, .val (.long j1), .second, .val (.int i2), .val (.int i3), .val (.int i4), .val (.int md), .val (.ref kd), .val (.int nC), .val (.int nK), .val (.int ng), .val (.int qv), .val (.long kk), .second, .val (.long mv), .second, .val (.long cc), .second, .unset, .unset] [(.long cc), (.ref kd)]))
                refine own_st (fun t k => XS.lneg X0.here hx rfl (hb hby at_423) rfl k) ?_
                show own_Run p e below s _ _ _ (T0.setTop (mkF m 424 #[.val (.long j0), .second, .val (.long j1), .second, .val (.int i2), .val (.int i3), .val (.int i4), .val (.int md), .val (.ref kd), .val (.int nC), .val (.int nK), .val (.int ng), .val (.int qv), .val (.long kk), .second, .val (.long mv), .second, .val (.long cc), .second, .unset, .unset] [(.long (-cc)), (.ref kd)]))
                refine own_st (fun t k => XS.goto X0.here hx rfl (pc0 := 424) (pc' := 429) rfl (hb hby at_424) (by decide) (by decide) k) ?_
                show own_Run p e below s _ _ _ (T0.setTop (mkF m 429 #[.val (.long j0), .second, .val (.long j1), .second, .val (.int i2), .val (.int i3), .val (.int i4), .val (.int md), .val (.ref kd), .val (.int nC), .val (.int nK), .val (.int ng), .val (.int qv), .val (.long kk), .second, .val (.long mv), .second, .val (.long cc), .second, .unset, .unset] [(.long (-cc)), (.ref kd)]))
                refine own_st (fun t k => XS.iload X0.here hx rfl (hb hby at_429) rfl k) ?_
                show own_Run p e below s _ _ _ (T0.setTop (mkF m 431 #[.val (.long j0), .second, .val (.long j1), .second, .val (.int i2), .val (.int i3), .val (.int i4), .val (.int md), .val (.ref kd), .val (.int nC), .val (.int nK), .val (.int ng), .val (.int qv), .val (.long kk), .second, .val (.long mv), .second, .val (.long cc), .second, .unset, .unset] [(.int nK), (.long (-cc)), (.ref kd)]))
                by_cases hK0 : nK = (0 : Int32)
                · skip
                  refine own_st (fun t k => XS.ifYes X0.here hx rfl (pc0 := 431) (pc' := 440) rfl (hb hby at_431) rfl ((if0 _ _).trans (teq (hK0 : nK = (0 : Int32))).1) (by decide) (by decide) k) ?_
                  show own_Run p e below s _ _ _ (T0.setTop (mkF m 440 #[.val (.long j0), .second, .val (.long j1), .second, .val (.int i2), .val (.int i3), .val (.int i4), .val (.int md), .val (.ref kd), .val (.int nC), .val (.int nK), .val (.int ng), .val (.int qv), .val (.long kk), .second, .val (.long mv), .second, .val (.long cc), .second, .unset, .unset] [(.long (-cc)), (.ref kd)]))
                  refine own_st (fun t k => XS.lload X0.here hx rfl (hb hby at_440) rfl k) ?_
                  show own_Run p e below s _ _ _ (T0.setTop (mkF m 442 #[.val (.long j0), .second, .val (.long j1), .second, .val (.int i2), .val (.int i3), .val (.int i4), .val (.int md), .val (.ref kd), .val (.int nC), .val (.int nK), .val (.int ng), .val (.int qv), .val (.long kk), .second, .val (.long mv), .second, .val (.long cc), .second, .unset, .unset] [(.long kk), (.long (-cc)), (.ref kd)]))
                  refine own_callS X0 hx hZ (y := (⟨"com/example/tunegrid/tunegrid/IntervalContentionPinLaw", "contention", "(Lcom/example/tunegrid/tunegrid/Replication$Kind;JJ)D"⟩ : MethodName)) hown (hw _ (List.mem_of_getElem? (i := 4) rfl)) (hw _ (List.mem_of_getElem? (i := 5) rfl)) (hw _ (List.mem_of_getElem? (i := 7) rfl)) (hw _ (List.mem_of_getElem? (i := 6) rfl)) (by decide) e0 (argsL := [(.ref kd), (.long (-cc)), (.long kk)]) (rest := []) (W := 0) (own_rm1 l Z a0 hw [] kd (-cc) kk hs n0 (Nat.le_trans Z0 K0.1) ) (by decide) (by decide) (by rw [hml]; rfl) (lenOf own_pd6 rfl) rfl (by exact Nat.le_of_eq rfl) (hb hby at_442) (by decide) (by decide) ?_
                  intro T117 v117 L117 X117 hq117
                  obtain ⟨rfl, N117q, K117q⟩ := hq117
                  have K118 : Keep h0 T117.heap [] := K0.trans K117q all0
                  have O119 := O0.keep K117q all0
                  have N117 := Fr.app N0 N117q
                  show own_Run p e below s _ _ _ (T117.setTop (mkF m 445 #[.val (.long j0), .second, .val (.long j1), .second, .val (.int i2), .val (.int i3), .val (.int i4), .val (.int md), .val (.ref kd), .val (.int nC), .val (.int nK), .val (.int ng), .val (.int qv), .val (.long kk), .second, .val (.long mv), .second, .val (.long cc), .second, .unset, .unset] [(.double (if kk = (0 : Int64) then (0 : UInt64) else (FP.ddiv (FP.l2d (-cc)) (FP.l2d kk))))]))
                  obtain ⟨r, h_r⟩ : ∃ z, ((if kk = (0 : Int64) then (0 : UInt64) else (FP.ddiv (FP.l2d (-cc)) (FP.l2d kk))) : UInt64) = z := ⟨_, rfl⟩
                  refine own_topD h_r ?_
                  show own_Run p e below s _ _ _ (T117.setTop (mkF m 445 #[.val (.long j0), .second, .val (.long j1), .second, .val (.int i2), .val (.int i3), .val (.int i4), .val (.int md), .val (.ref kd), .val (.int nC), .val (.int nK), .val (.int ng), .val (.int qv), .val (.long kk), .second, .val (.long mv), .second, .val (.long cc), .second, .unset, .unset] [(.double r)]))
                  obtain ⟨s1, s2⟩ := own_m5b hq r_kk r_mv r_cc h_r .g
                  refine own_st (fun t k => XS.dstore X117.here hx rfl (hb hby at_445) rfl (l' := #[.val (.long j0), .second, .val (.long j1), .second, .val (.int i2), .val (.int i3), .val (.int i4), .val (.int md), .val (.ref kd), .val (.int nC), .val (.int nK), .val (.int ng), .val (.int qv), .val (.long kk), .second, .val (.long mv), .second, .val (.long cc), .second, .val (.double r), .second]) rfl k) ?_
                  show own_Run p e below s _ _ _ (T117.setTop (mkF m 447 #[.val (.long j0), .second, .val (.long j1), .second, .val (.int i2), .val (.int i3), .val (.int i4), .val (.int md), .val (.ref kd), .val (.int nC), .val (.int nK), .val (.int ng), .val (.int qv), .val (.long kk), .second, .val (.long mv), .second, .val (.long cc), .second, .val (.double r), .second] []))
                  refine own_st (fun t k => XS.iload X117.here hx rfl (hb hby at_447) rfl k) ?_
                  show own_Run p e below s _ _ _ (T117.setTop (mkF m 449 #[.val (.long j0), .second, .val (.long j1), .second, .val (.int i2), .val (.int i3), .val (.int i4), .val (.int md), .val (.ref kd), .val (.int nC), .val (.int nK), .val (.int ng), .val (.int qv), .val (.long kk), .second, .val (.long mv), .second, .val (.long cc), .second, .val (.double r), .second] [(.int ng)]))
                  refine own_st (fun t k => XS.ifNo X117.here hx rfl (hb hby at_449) rfl ((if0 _ _).trans (feq (by rw [hng, hC1, hK0]; decide : ¬ (ng = (0 : Int32)))).1) k) ?_
                  show own_Run p e below s _ _ _ (T117.setTop (mkF m 452 #[.val (.long j0), .second, .val (.long j1), .second, .val (.int i2), .val (.int i3), .val (.int i4), .val (.int md), .val (.ref kd), .val (.int nC), .val (.int nK), .val (.int ng), .val (.int qv), .val (.long kk), .second, .val (.long mv), .second, .val (.long cc), .second, .val (.double r), .second] []))
                  refine own_st (fun t k => XS.iload X117.here hx rfl (hb hby at_452) rfl k) ?_
                  show own_Run p e below s _ _ _ (T117.setTop (mkF m 454 #[.val (.long j0), .second, .val (.long j1), .second, .val (.int i2), .val (.int i3), .val (.int i4), .val (.int md), .val (.ref kd), .val (.int nC), .val (.int nK), .val (.int ng), .val (.int qv), .val (.long kk), .second, .val (.long mv), .second, .val (.long cc), .second, .val (.double r), .second] [(.int qv)]))
                  refine own_st (fun t k => XS.ineg X117.here hx rfl (hb hby at_454) rfl k) ?_
                  show own_Run p e below s _ _ _ (T117.setTop (mkF m 455 #[.val (.long j0), .second, .val (.long j1), .second, .val (.int i2), .val (.int i3), .val (.int i4), .val (.int md), .val (.ref kd), .val (.int nC), .val (.int nK), .val (.int ng), .val (.int qv), .val (.long kk), .second, .val (.long mv), .second, .val (.long cc), .second, .val (.double r), .second] [(.int (-qv))]))
                  refine own_st (fun t k => XS.iconst X117.here hx rfl (hb hby at_455) k) ?_
                  show own_Run p e below s _ _ _ (T117.setTop (mkF m 456 #[.val (.long j0), .second, .val (.long j1), .second, .val (.int i2), .val (.int i3), .val (.int i4), .val (.int md), .val (.ref kd), .val (.int nC), .val (.int nK), .val (.int ng), .val (.int qv), .val (.long kk), .second, .val (.long mv), .second, .val (.long cc), .second, .val (.double r), .second] [(.int (1 : Int32)), (.int (-qv))]))
                  refine own_st (fun t k => XS.isub X117.here hx rfl (hb hby at_456) rfl k) ?_
                  show own_Run p e below s _ _ _ (T117.setTop (mkF m 457 #[.val (.long j0), .second, .val (.long j1), .second, .val (.int i2), .val (.int i3), .val (.int i4), .val (.int md), .val (.ref kd), .val (.int nC), .val (.int nK), .val (.int ng), .val (.int qv), .val (.long kk), .second, .val (.long mv), .second, .val (.long cc), .second, .val (.double r), .second] [(.int ((-qv) - (1 : Int32)))]))
                  refine own_st (fun t k => XS.i2dS X117.here hx rfl (hb hby at_457) rfl (v := (FP.i2d ((-qv) - (1 : Int32)))) (rfl) k) ?_
                  show own_Run p e below s _ _ _ (T117.setTop (mkF m 458 #[.val (.long j0), .second, .val (.long j1), .second, .val (.int i2), .val (.int i3), .val (.int i4), .val (.int md), .val (.ref kd), .val (.int nC), .val (.int nK), .val (.int ng), .val (.int qv), .val (.long kk), .second, .val (.long mv), .second, .val (.long cc), .second, .val (.double r), .second] [(.double (FP.i2d ((-qv) - (1 : Int32))))]))
                  refine own_st (fun t k => XS.dload X117.here hx rfl (hb hby at_458) rfl k) ?_
                  show own_Run p e below s _ _ _ (T117.setTop (mkF m 460 #[.val (.long j0), .second, .val (.long j1), .second, .val (.int i2), .val (.int i3), .val (.int i4), .val (.int md), .val (.ref kd), .val (.int nC), .val (.int nK), .val (.int ng), .val (.int qv), .val (.long kk), .second, .val (.long mv), .second, .val (.long cc), .second, .val (.double r), .second] [(.double r), (.double (FP.i2d ((-qv) - (1 : Int32))))]))
                  refine own_st (fun t k => XS.dcmpS X117.here hx rfl (hb hby at_460) rfl (v := (-1 : Int32)) (s1) k) ?_
                  show own_Run p e below s _ _ _ (T117.setTop (mkF m 461 #[.val (.long j0), .second, .val (.long j1), .second, .val (.int i2), .val (.int i3), .val (.int i4), .val (.int md), .val (.ref kd), .val (.int nC), .val (.int nK), .val (.int ng), .val (.int qv), .val (.long kk), .second, .val (.long mv), .second, .val (.long cc), .second, .val (.double r), .second] [(.int (-1 : Int32))]))
                  refine own_st (fun t k => XS.ifNo X117.here hx rfl (hb hby at_461) rfl ((if0 _ _).trans (tlt (by decide : (-1 : Int32) < (0 : Int32))).2.1) k) ?_
                  show own_Run p e below s _ _ _ (T117.setTop (mkF m 464 #[.val (.long j0), .second, .val (.long j1), .second, .val (.int i2), .val (.int i3), .val (.int i4), .val (.int md), .val (.ref kd), .val (.int nC), .val (.int nK), .val (.int ng), .val (.int qv), .val (.long kk), .second, .val (.long mv), .second, .val (.long cc), .second, .val (.double r), .second] []))
                  refine own_st (fun t k => XS.dload X117.here hx rfl (hb hby at_464) rfl k) ?_
                  show own_Run p e below s _ _ _ (T117.setTop (mkF m 466 #[.val (.long j0), .second, .val (.long j1), .second, .val (.int i2), .val (.int i3), .val (.int i4), .val (.int md), .val (.ref kd), .val (.int nC), .val (.int nK), .val (.int ng), .val (.int qv), .val (.long kk), .second, .val (.long mv), .second, .val (.long cc), .second, .val (.double r), .second] [(.double r)]))
                  refine own_st (fun t k => XS.iload X117.here hx rfl (hb hby at_466) rfl k) ?_
                  show own_Run p e below s _ _ _ (T117.setTop (mkF m 468 #[.val (.long j0), .second, .val (.long j1), .second, .val (.int i2), .val (.int i3), .val (.int i4), .val (.int md), .val (.ref kd), .val (.int nC), .val (.int nK), .val (.int ng), .val (.int qv), .val (.long kk), .second, .val (.long mv), .second, .val (.long cc), .second, .val (.double r), .second] [(.int qv), (.double r)]))
                  refine own_st (fun t k => XS.ineg X117.here hx rfl (hb hby at_468) rfl k) ?_
                  show own_Run p e below s _ _ _ (T117.setTop (mkF m 469 #[.val (.long j0), .second, .val (.long j1), .second, .val (.int i2), .val (.int i3), .val (.int i4), .val (.int md), .val (.ref kd), .val (.int nC), .val (.int nK), .val (.int ng), .val (.int qv), .val (.long kk), .second, .val (.long mv), .second, .val (.long cc), .second, .val (.double r), .second] [(.int (-qv)), (.double r)]))
                  refine own_st (fun t k => XS.i2dS X117.here hx rfl (hb hby at_469) rfl (v := (FP.i2d (-qv))) (rfl) k) ?_
                  show own_Run p e below s _ _ _ (T117.setTop (mkF m 470 #[.val (.long j0), .second, .val (.long j1), .second, .val (.int i2), .val (.int i3), .val (.int i4), .val (.int md), .val (.ref kd), .val (.int nC), .val (.int nK), .val (.int ng), .val (.int qv), .val (.long kk), .second, .val (.long mv), .second, .val (.long cc), .second, .val (.double r), .second] [(.double (FP.i2d (-qv))), (.double r)]))
                  refine own_st (fun t k => XS.dcmpS X117.here hx rfl (hb hby at_470) rfl (v := (-1 : Int32)) (s2) k) ?_
                  show own_Run p e below s _ _ _ (T117.setTop (mkF m 471 #[.val (.long j0), .second, .val (.long j1), .second, .val (.int i2), .val (.int i3), .val (.int i4), .val (.int md), .val (.ref kd), .val (.int nC), .val (.int nK), .val (.int ng), .val (.int qv), .val (.long kk), .second, .val (.long mv), .second, .val (.long cc), .second, .val (.double r), .second] [(.int (-1 : Int32))]))
                  refine own_st (fun t k => XS.ifNo X117.here hx rfl (hb hby at_471) rfl ((if0 _ _).trans (tlt (by decide : (-1 : Int32) < (0 : Int32))).2.1) k) ?_
                  show own_Run p e below s _ _ _ (T117.setTop (mkF m 474 #[.val (.long j0), .second, .val (.long j1), .second, .val (.int i2), .val (.int i3), .val (.int i4), .val (.int md), .val (.ref kd), .val (.int nC), .val (.int nK), .val (.int ng), .val (.int qv), .val (.long kk), .second, .val (.long mv), .second, .val (.long cc), .second, .val (.double r), .second] []))
                  refine own_st (fun t k => XS.iconst X117.here hx rfl (hb hby at_474) k) ?_
                  show own_Run p e below s _ _ _ (T117.setTop (mkF m 475 #[.val (.long j0), .second, .val (.long j1), .second, .val (.int i2), .val (.int i3), .val (.int i4), .val (.int md), .val (.ref kd), .val (.int nC), .val (.int nK), .val (.int ng), .val (.int qv), .val (.long kk), .second, .val (.long mv), .second, .val (.long cc), .second, .val (.double r), .second] [(.int (1 : Int32))]))
                  refine own_st (fun t k => XS.goto X117.here hx rfl (pc0 := 475) (pc' := 479) rfl (hb hby at_475) (by decide) (by decide) k) ?_
                  show own_Run p e below s _ _ _ (T117.setTop (mkF m 479 #[.val (.long j0), .second, .val (.long j1), .second, .val (.int i2), .val (.int i3), .val (.int i4), .val (.int md), .val (.ref kd), .val (.int nC), .val (.int nK), .val (.int ng), .val (.int qv), .val (.long kk), .second, .val (.long mv), .second, .val (.long cc), .second, .val (.double r), .second] [(.int (1 : Int32))]))
                  exact own_ret X117 hx hlk (t := .boolean) hret rfl (Or.inl ⟨rfl, by simp, _, rfl⟩) (hb hby at_479) (by decide) (by decide) ⟨rfl, N117⟩
                · skip
                  have hK1 := hnK.resolve_left hK0
                  refine own_st (fun t k => XS.ifNo X0.here hx rfl (hb hby at_431) rfl ((if0 _ _).trans (feq (hK0 : ¬ (nK = (0 : Int32)))).1) k) ?_
                  show own_Run p e below s _ _ _ (T0.setTop (mkF m 434 #[.val (.long j0), .second, .val (.long j1), .second, .val (.int i2), .val (.int i3), .val (.int i4), .val (.int md), .val (.ref kd), .val (.int nC), .val (.int nK), .val (.int ng), .val (.int qv), .val (.long kk), .second, .val (.long mv), .second, .val (.long cc), .second, .unset, .unset] [(.long (-cc)), (.ref kd)]))
                  refine own_st (fun t k => XS.lload X0.here hx rfl (hb hby at_434) rfl k) ?_
                  show own_Run p e below s _ _ _ (T0.setTop (mkF m 436 #[.val (.long j0), .second, .val (.long j1), .second, .val (.int i2), .val (.int i3), .val (.int i4), .val (.int md), .val (.ref kd), .val (.int nC), .val (.int nK), .val (.int ng), .val (.int qv), .val (.long kk), .second, .val (.long mv), .second, .val (.long cc), .second, .unset, .unset] [(.long kk), (.long (-cc)), (.ref kd)]))
                  refine own_st (fun t k => XS.lneg X0.here hx rfl (hb hby at_436) rfl k) ?_
                  show own_Run p e below s _ _ _ (T0.setTop (mkF m 437 #[.val (.long j0), .second, .val (.long j1), .second, .val (.int i2), .val (.int i3), .val (.int i4), .val (.int md), .val (.ref kd), .val (.int nC), .val (.int nK), .val (.int ng), .val (.int qv), .val (.long kk), .second, .val (.long mv), .second, .val (.long cc), .second, .unset, .unset] [(.long (-kk)), (.long (-cc)), (.ref kd)]))
                  refine own_st (fun t k => XS.goto X0.here hx rfl (pc0 := 437) (pc' := 442) rfl (hb hby at_437) (by decide) (by decide) k) ?_
                  show own_Run p e below s _ _ _ (T0.setTop (mkF m 442 #[.val (.long j0), .second, .val (.long j1), .second, .val (.int i2), .val (.int i3), .val (.int i4), .val (.int md), .val (.ref kd), .val (.int nC), .val (.int nK), .val (.int ng), .val (.int qv), .val (.long kk), .second, .val (.long mv), .second, .val (.long cc), .second, .unset, .unset] [(.long (-kk)), (.long (-cc)), (.ref kd)]))
                  refine own_callS X0 hx hZ (y := (⟨"com/example/tunegrid/tunegrid/IntervalContentionPinLaw", "contention", "(Lcom/example/tunegrid/tunegrid/Replication$Kind;JJ)D"⟩ : MethodName)) hown (hw _ (List.mem_of_getElem? (i := 4) rfl)) (hw _ (List.mem_of_getElem? (i := 5) rfl)) (hw _ (List.mem_of_getElem? (i := 7) rfl)) (hw _ (List.mem_of_getElem? (i := 6) rfl)) (by decide) e0 (argsL := [(.ref kd), (.long (-cc)), (.long (-kk))]) (rest := []) (W := 0) (own_rm1 l Z a0 hw [] kd (-cc) (-kk) hs n0 (Nat.le_trans Z0 K0.1) ) (by decide) (by decide) (by rw [hml]; rfl) (lenOf own_pd6 rfl) rfl (by exact Nat.le_of_eq rfl) (hb hby at_442) (by decide) (by decide) ?_
                  intro T120 v120 L120 X120 hq120
                  obtain ⟨rfl, N120q, K120q⟩ := hq120
                  have K121 : Keep h0 T120.heap [] := K0.trans K120q all0
                  have O122 := O0.keep K120q all0
                  have N120 := Fr.app N0 N120q
                  show own_Run p e below s _ _ _ (T120.setTop (mkF m 445 #[.val (.long j0), .second, .val (.long j1), .second, .val (.int i2), .val (.int i3), .val (.int i4), .val (.int md), .val (.ref kd), .val (.int nC), .val (.int nK), .val (.int ng), .val (.int qv), .val (.long kk), .second, .val (.long mv), .second, .val (.long cc), .second, .unset, .unset] [(.double (if (-kk) = (0 : Int64) then (0 : UInt64) else (FP.ddiv (FP.l2d (-cc)) (FP.l2d (-kk)))))]))
                  obtain ⟨r, h_r⟩ : ∃ z, ((if (-kk) = (0 : Int64) then (0 : UInt64) else (FP.ddiv (FP.l2d (-cc)) (FP.l2d (-kk)))) : UInt64) = z := ⟨_, rfl⟩
                  refine own_topD h_r ?_
                  show own_Run p e below s _ _ _ (T120.setTop (mkF m 445 #[.val (.long j0), .second, .val (.long j1), .second, .val (.int i2), .val (.int i3), .val (.int i4), .val (.int md), .val (.ref kd), .val (.int nC), .val (.int nK), .val (.int ng), .val (.int qv), .val (.long kk), .second, .val (.long mv), .second, .val (.long cc), .second, .unset, .unset] [(.double r)]))
                  obtain ⟨s1, s2⟩ := own_m5d hq r_kk r_mv r_cc h_r .g
                  refine own_st (fun t k => XS.dstore X120.here hx rfl (hb hby at_445) rfl (l' := #[.val (.long j0), .second, .val (.long j1), .second, .val (.int i2), .val (.int i3), .val (.int i4), .val (.int md), .val (.ref kd), .val (.int nC), .val (.int nK), .val (.int ng), .val (.int qv), .val (.long kk), .second, .val (.long mv), .second, .val (.long cc), .second, .val (.double r), .second]) rfl k) ?_
                  show own_Run p e below s _ _ _ (T120.setTop (mkF m 447 #[.val (.long j0), .second, .val (.long j1), .second, .val (.int i2), .val (.int i3), .val (.int i4), .val (.int md), .val (.ref kd), .val (.int nC), .val (.int nK), .val (.int ng), .val (.int qv), .val (.long kk), .second, .val (.long mv), .second, .val (.long cc), .second, .val (.double r), .second] []))
                  refine own_st (fun t k => XS.iload X120.here hx rfl (hb hby at_447) rfl k) ?_
                  show own_Run p e below s _ _ _ (T120.setTop (mkF m 449 #[.val (.long j0), .second, .val (.long j1), .second, .val (.int i2), .val (.int i3), .val (.int i4), .val (.int md), .val (.ref kd), .val (.int nC), .val (.int nK), .val (.int ng), .val (.int qv), .val (.long kk), .second, .val (.long mv), .second, .val (.long cc), .second, .val (.double r), .second] [(.int ng)]))
                  refine own_st (fun t k => XS.ifYes X120.here hx rfl (pc0 := 449) (pc' := 480) rfl (hb hby at_449) rfl ((if0 _ _).trans (teq (by rw [hng, hC1, hK1]; decide : ng = (0 : Int32))).1) (by decide) (by decide) k) ?_
                  show own_Run p e below s _ _ _ (T120.setTop (mkF m 480 #[.val (.long j0), .second, .val (.long j1), .second, .val (.int i2), .val (.int i3), .val (.int i4), .val (.int md), .val (.ref kd), .val (.int nC), .val (.int nK), .val (.int ng), .val (.int qv), .val (.long kk), .second, .val (.long mv), .second, .val (.long cc), .second, .val (.double r), .second] []))
                  refine own_st (fun t k => XS.iload X120.here hx rfl (hb hby at_480) rfl k) ?_
                  show own_Run p e below s _ _ _ (T120.setTop (mkF m 482 #[.val (.long j0), .second, .val (.long j1), .second, .val (.int i2), .val (.int i3), .val (.int i4), .val (.int md), .val (.ref kd), .val (.int nC), .val (.int nK), .val (.int ng), .val (.int qv), .val (.long kk), .second, .val (.long mv), .second, .val (.long cc), .second, .val (.double r), .second] [(.int qv)]))
                  refine own_st (fun t k => XS.i2dS X120.here hx rfl (hb hby at_482) rfl (v := (FP.i2d qv)) (rfl) k) ?_
                  show own_Run p e below s _ _ _ (T120.setTop (mkF m 483 #[.val (.long j0), .second, .val (.long j1), .second, .val (.int i2), .val (.int i3), .val (.int i4), .val (.int md), .val (.ref kd), .val (.int nC), .val (.int nK), .val (.int ng), .val (.int qv), .val (.long kk), .second, .val (.long mv), .second, .val (.long cc), .second, .val (.double r), .second] [(.double (FP.i2d qv))]))
                  refine own_st (fun t k => XS.dload X120.here hx rfl (hb hby at_483) rfl k) ?_
                  show own_Run p e below s _ _ _ (T120.setTop (mkF m 485 #[.val (.long j0), .second, .val (.long j1), .second, .val (.int i2), .val (.int i3), .val (.int i4), .val (.int md), .val (.ref kd), .val (.int nC), .val (.int nK), .val (.int ng), .val (.int qv), .val (.long kk), .second, .val (.long mv), .second, .val (.long cc), .second, .val (.double r), .second] [(.double r), (.double (FP.i2d qv))]))
                  refine own_st (fun t k => XS.dcmpS X120.here hx rfl (hb hby at_485) rfl (v := (-1 : Int32)) (s1) k) ?_
                  show own_Run p e below s _ _ _ (T120.setTop (mkF m 486 #[.val (.long j0), .second, .val (.long j1), .second, .val (.int i2), .val (.int i3), .val (.int i4), .val (.int md), .val (.ref kd), .val (.int nC), .val (.int nK), .val (.int ng), .val (.int qv), .val (.long kk), .second, .val (.long mv), .second, .val (.long cc), .second, .val (.double r), .second] [(.int (-1 : Int32))]))
                  refine own_st (fun t k => XS.ifNo X120.here hx rfl (hb hby at_486) rfl ((if0 _ _).trans (tlt (by decide : (-1 : Int32) < (0 : Int32))).2.1) k) ?_
                  show own_Run p e below s _ _ _ (T120.setTop (mkF m 489 #[.val (.long j0), .second, .val (.long j1), .second, .val (.int i2), .val (.int i3), .val (.int i4), .val (.int md), .val (.ref kd), .val (.int nC), .val (.int nK), .val (.int ng), .val (.int qv), .val (.long kk), .second, .val (.long mv), .second, .val (.long cc), .second, .val (.double r), .second] []))
                  refine own_st (fun t k => XS.dload X120.here hx rfl (hb hby at_489) rfl k) ?_
                  show own_Run p e below s _ _ _ (T120.setTop (mkF m 491 #[.val (.long j0), .second, .val (.long j1), .second, .val (.int i2), .val (.int i3), .val (.int i4), .val (.int md), .val (.ref kd), .val (.int nC), .val (.int nK), .val (.int ng), .val (.int qv), .val (.long kk), .second, .val (.long mv), .second, .val (.long cc), .second, .val (.double r), .second] [(.double r)]))
                  refine own_st (fun t k => XS.iload X120.here hx rfl (hb hby at_491) rfl k) ?_
                  show own_Run p e below s _ _ _ (T120.setTop (mkF m 493 #[.val (.long j0), .second, .val (.long j1), .second, .val (.int i2), .val (.int i3), .val (.int i4), .val (.int md), .val (.ref kd), .val (.int nC), .val (.int nK), .val (.int ng), .val (.int qv), .val (.long kk), .second, .val (.long mv), .second, .val (.long cc), .second, .val (.double r), .second] [(.int qv), (.double r)]))
                  refine own_st (fun t k => XS.iconst X120.here hx rfl (hb hby at_493) k) ?_
                  show own_Run p e below s _ _ _ (T120.setTop (mkF m 494 #[.val (.long j0), .second, .val (.long j1), .second, .val (.int i2), .val (.int i3), .val (.int i4), .val (.int md), .val (.ref kd), .val (.int nC), .val (.int nK), .val (.int ng), .val (.int qv), .val (.long kk), .second, .val (.long mv), .second, .val (.long cc), .second, .val (.double r), .second] [(.int (1 : Int32)), (.int qv), (.double r)]))
                  refine own_st (fun t k => XS.iadd X120.here hx rfl (hb hby at_494) rfl k) ?_
                  show own_Run p e below s _ _ _ (T120.setTop (mkF m 495 #[.val (.long j0), .second, .val (.long j1), .second, .val (.int i2), .val (.int i3), .val (.int i4), .val (.int md), .val (.ref kd), .val (.int nC), .val (.int nK), .val (.int ng), .val (.int qv), .val (.long kk), .second, .val (.long mv), .second, .val (.long cc), .second, .val (.double r), .second] [(.int (qv + (1 : Int32))), (.double r)]))
                  refine own_st (fun t k => XS.i2dS X120.here hx rfl (hb hby at_495) rfl (v := (FP.i2d (qv + (1 : Int32)))) (rfl) k) ?_
                  show own_Run p e below s _ _ _ (T120.setTop (mkF m 496 #[.val (.long j0), .second, .val (.long j1), .second, .val (.int i2), .val (.int i3), .val (.int i4), .val (.int md), .val (.ref kd), .val (.int nC), .val (.int nK), .val (.int ng), .val (.int qv), .val (.long kk), .second, .val (.long mv), .second, .val (.long cc), .second, .val (.double r), .second] [(.double (FP.i2d (qv + (1 : Int32)))), (.double r)]))
                  refine own_st (fun t k => XS.dcmpS X120.here hx rfl (hb hby at_496) rfl (v := (-1 : Int32)) (s2) k) ?_
                  show own_Run p e below s _ _ _ (T120.setTop (mkF m 497 #[.val (.long j0), .second, .val (.long j1), .second, .val (.int i2), .val (.int i3), .val (.int i4), .val (.int md), .val (.ref kd), .val (.int nC), .val (.int nK), .val (.int ng), .val (.int qv), .val (.long kk), .second, .val (.long mv), .second, .val (.long cc), .second, .val (.double r), .second] [(.int (-1 : Int32))]))
                  refine own_st (fun t k => XS.ifNo X120.here hx rfl (hb hby at_497) rfl ((if0 _ _).trans (tlt (by decide : (-1 : Int32) < (0 : Int32))).2.1) k) ?_
                  show own_Run p e below s _ _ _ (T120.setTop (mkF m 500 #[.val (.long j0), .second, .val (.long j1), .second, .val (.int i2), .val (.int i3), .val (.int i4), .val (.int md), .val (.ref kd), .val (.int nC), .val (.int nK), .val (.int ng), .val (.int qv), .val (.long kk), .second, .val (.long mv), .second, .val (.long cc), .second, .val (.double r), .second] []))
                  refine own_st (fun t k => XS.iconst X120.here hx rfl (hb hby at_500) k) ?_
                  show own_Run p e below s _ _ _ (T120.setTop (mkF m 501 #[.val (.long j0), .second, .val (.long j1), .second, .val (.int i2), .val (.int i3), .val (.int i4), .val (.int md), .val (.ref kd), .val (.int nC), .val (.int nK), .val (.int ng), .val (.int qv), .val (.long kk), .second, .val (.long mv), .second, .val (.long cc), .second, .val (.double r), .second] [(.int (1 : Int32))]))
                  refine own_st (fun t k => XS.goto X120.here hx rfl (pc0 := 501) (pc' := 505) rfl (hb hby at_501) (by decide) (by decide) k) ?_
                  show own_Run p e below s _ _ _ (T120.setTop (mkF m 505 #[.val (.long j0), .second, .val (.long j1), .second, .val (.int i2), .val (.int i3), .val (.int i4), .val (.int md), .val (.ref kd), .val (.int nC), .val (.int nK), .val (.int ng), .val (.int qv), .val (.long kk), .second, .val (.long mv), .second, .val (.long cc), .second, .val (.double r), .second] [(.int (1 : Int32))]))
                  exact own_ret X120 hx hlk (t := .boolean) hret rfl (Or.inl ⟨rfl, by simp, _, rfl⟩) (hb hby at_505) (by decide) (by decide) ⟨rfl, N120⟩
            · skip
              refine own_st (fun t k => XS.icmpYes X0.here hx rfl (pc0 := 376) (pc' := 506) rfl (hb hby at_376) rfl (feq (hM5 : ¬ (md = (5 : Int32)))).2 (by decide) (by decide) k) ?_
              show own_Run p e below s _ _ _ (T0.setTop (mkF m 506 #[.val (.long j0), .second, .val (.long j1), .second, .val (.int i2), .val (.int i3), .val (.int i4), .val (.int md), .val (.ref kd), .val (.int nC), .val (.int nK), .val (.int ng), .val (.int qv), .unset, .unset, .unset, .unset, .unset, .unset, .unset, .unset] []))
              refine own_st (fun t k => XS.lloadN X0.here hx rfl (hb hby at_506) rfl k) ?_
              show own_Run p e below s _ _ _ (T0.setTop (mkF m 507 #[.val (.long j0), .second, .val (.long j1), .second, .val (.int i2), .val (.int i3), .val (.int i4), .val (.int md), .val (.ref kd), .val (.int nC), .val (.int nK), .val (.int ng), .val (.int qv), .unset, .unset, .unset, .unset, .unset, .unset, .unset, .unset] [(.long j0)]))
              refine own_st (X0.ldc2Long hx hown (mvT hZ (hw _ (List.mem_of_getElem? (i := 49) rfl))) (g := (mkF m 507 #[.val (.long j0), .second, .val (.long j1), .second, .val (.int i2), .val (.int i3), .val (.int i4), .val (.int md), .val (.ref kd), .val (.int nC), .val (.int nK), .val (.int ng), .val (.int qv), .unset, .unset, .unset, .unset, .unset, .unset, .unset, .unset] [(.long j0)])) rfl (hb hby at_507)) ?_
              show own_Run p e below s _ _ _ (T0.setTop (mkF m 510 #[.val (.long j0), .second, .val (.long j1), .second, .val (.int i2), .val (.int i3), .val (.int i4), .val (.int md), .val (.ref kd), .val (.int nC), .val (.int nK), .val (.int ng), .val (.int qv), .unset, .unset, .unset, .unset, .unset, .unset, .unset, .unset] [(.long (9223372036854775807 : Int64)), (.long j0)]))
              refine own_st (fun t k => XS.land X0.here hx rfl (hb hby at_510) rfl k) ?_
              show own_Run p e below s _ _ _ (T0.setTop (mkF m 511 #[.val (.long j0), .second, .val (.long j1), .second, .val (.int i2), .val (.int i3), .val (.int i4), .val (.int md), .val (.ref kd), .val (.int nC), .val (.int nK), .val (.int ng), .val (.int qv), .unset, .unset, .unset, .unset, .unset, .unset, .unset, .unset] [(.long (j0 &&& (9223372036854775807 : Int64)))]))
              obtain ⟨cl, h_cl⟩ : ∃ z, ((j0 &&& (9223372036854775807 : Int64)) : Int64) = z := ⟨_, rfl⟩
              refine own_topJ h_cl ?_
              show own_Run p e below s _ _ _ (T0.setTop (mkF m 511 #[.val (.long j0), .second, .val (.long j1), .second, .val (.int i2), .val (.int i3), .val (.int i4), .val (.int md), .val (.ref kd), .val (.int nC), .val (.int nK), .val (.int ng), .val (.int qv), .unset, .unset, .unset, .unset, .unset, .unset, .unset, .unset] [(.long cl)]))
              have r_cl : 0 ≤ cl.toInt := h_cl ▸ (c_andSL j0 9223372036854775807).2.2 (by decide)
              refine own_st (fun t k => XS.lstore X0.here hx rfl (hb hby at_511) rfl (l' := #[.val (.long j0), .second, .val (.long j1), .second, .val (.int i2), .val (.int i3), .val (.int i4), .val (.int md), .val (.ref kd), .val (.int nC), .val (.int nK), .val (.int ng), .val (.int qv), .val (.long cl), .second, .unset, .unset, .unset, .unset, .unset, .unset]) rfl k) ?_
              show own_Run p e below s _ _ _ (T0.setTop (mkF m 513 #[.val (.long j0), .second, .val (.long j1), .second, .val (.int i2), .val (.int i3), .val (.int i4), .val (.int md), .val (.ref kd), .val (.int nC), .val (.int nK), .val (.int ng), .val (.int qv), .val (.long cl), .second, .unset, .unset, .unset, .unset, .unset, .unset] []))
              refine own_st (fun t k => XS.lloadN X0.here hx rfl (hb hby at_513) rfl k) ?_
              show own_Run p e below s _ _ _ (T0.setTop (mkF m 514 #[.val (.long j0), .second, .val (.long j1), .second, .val (.int i2), .val (.int i3), .val (.int i4), .val (.int md), .val (.ref kd), .val (.int nC), .val (.int nK), .val (.int ng), .val (.int qv), .val (.long cl), .second, .unset, .unset, .unset, .unset, .unset, .unset] [(.long j1)]))
              refine own_st (X0.ldc2Long hx hown (mvT hZ (hw _ (List.mem_of_getElem? (i := 49) rfl))) (g := (mkF m 514 #[.val (.long j0), .second, .val (.long j1), .second, .val (.int i2), .val (.int i3), .val (.int i4), .val (.int md), .val (.ref kd), .val (.int nC), .val (.int nK), .val (.int ng), .val (.int qv), .val (.long cl), .second, .unset, .unset, .unset, .unset, .unset, .unset] [(.long j1)])) rfl (hb hby at_514)) ?_
              show own_Run p e below s _ _ _ (T0.setTop (mkF m 517 #[.val (.long j0), .second, .val (.long j1), .second, .val (.int i2), .val (.int i3), .val (.int i4), .val (.int md), .val (.ref kd), .val (.int nC), .val (.int nK), .val (.int ng), .val (.int qv), .val (.long cl), .second, .unset, .unset, .unset, .unset, .unset, .unset] [(.long (9223372036854775807 : Int64)), (.long j1)]))
              refine own_st (fun t k => XS.land X0.here hx rfl (hb hby at_517) rfl k) ?_
              show own_Run p e below s _ _ _ (T0.setTop (mkF m 518 #[.val (.long j0), .second, .val (.long j1), .second, .val (.int i2), .val (.int i3), .val (.int i4), .val (.int md), .val (.ref kd), .val (.int nC), .val (.int nK), .val (.int ng), .val (.int qv), .val (.long cl), .second, .unset, .unset, .unset, .unset, .unset, .unset] [(.long (j1 &&& (9223372036854775807 : Int64)))]))
              refine own_st (fun t k => XS.lload X0.here hx rfl (hb hby at_518) rfl k) ?_
              show own_Run p e below s _ _ _ (T0.setTop (mkF m 520 #[.val (.long j0), .second, .val (.long j1), .second, .val (.int i2), .val (.int i3), .val (.int i4), .val (.int md), .val (.ref kd), .val (.int nC), .val (.int nK), .val (.int ng), .val (.int qv), .val (.long cl), .second, .unset, .unset, .unset, .unset, .unset, .unset] [(.long cl), (.long (j1 &&& (9223372036854775807 : Int64)))]))
              refine own_callS X0 hx hZ (y := (⟨"java/lang/Math", "min", "(JJ)J"⟩ : MethodName)) hown (hw _ (List.mem_of_getElem? (i := 50) rfl)) (hw _ (List.mem_of_getElem? (i := 51) rfl)) (hw _ (List.mem_of_getElem? (i := 53) rfl)) (hw _ (List.mem_of_getElem? (i := 52) rfl)) (by decide) e0 (argsL := [(.long (j1 &&& (9223372036854775807 : Int64))), (.long cl)]) (rest := []) (W := 0) (own_rm6 l Z a0 hw [] (j1 &&& (9223372036854775807 : Int64)) cl hs n0 (Nat.le_trans Z0 K0.1) ) (by decide) (by decide) (by rw [hml]; rfl) (lenOf own_pd7 rfl) rfl (by exact Nat.le_of_eq rfl) (hb hby at_520) (by decide) (by decide) ?_
              intro T123 v123 L123 X123 hq123
              obtain ⟨rfl, N123q, hh123⟩ := hq123
              have N123 := Fr.app N0 N123q
              show own_Run p e below s _ _ _ (T123.setTop (mkF m 523 #[.val (.long j0), .second, .val (.long j1), .second, .val (.int i2), .val (.int i3), .val (.int i4), .val (.int md), .val (.ref kd), .val (.int nC), .val (.int nK), .val (.int ng), .val (.int qv), .val (.long cl), .second, .unset, .unset, .unset, .unset, .unset, .unset] [(.long (if cl < (j1 &&& (9223372036854775807 : Int64)) then cl else (j1 &&& (9223372036854775807 : Int64))))]))
              obtain ⟨co, h_co⟩ : ∃ z, ((if cl < (j1 &&& (9223372036854775807 : Int64)) then cl else (j1 &&& (9223372036854775807 : Int64))) : Int64) = z := ⟨_, rfl⟩
              refine own_topJ h_co ?_
              show own_Run p e below s _ _ _ (T123.setTop (mkF m 523 #[.val (.long j0), .second, .val (.long j1), .second, .val (.int i2), .val (.int i3), .val (.int i4), .val (.int md), .val (.ref kd), .val (.int nC), .val (.int nK), .val (.int ng), .val (.int qv), .val (.long cl), .second, .unset, .unset, .unset, .unset, .unset, .unset] [(.long co)]))
              have r_co : 0 ≤ co.toInt ∧ co.toInt ≤ cl.toInt := own_co r_cl h_co
              refine own_st (fun t k => XS.lstore X123.here hx rfl (hb hby at_523) rfl (l' := #[.val (.long j0), .second, .val (.long j1), .second, .val (.int i2), .val (.int i3), .val (.int i4), .val (.int md), .val (.ref kd), .val (.int nC), .val (.int nK), .val (.int ng), .val (.int qv), .val (.long cl), .second, .val (.long co), .second, .unset, .unset, .unset, .unset]) rfl k) ?_
              show own_Run p e below s _ _ _ (T123.setTop (mkF m 525 #[.val (.long j0), .second, .val (.long j1), .second, .val (.int i2), .val (.int i3), .val (.int i4), .val (.int md), .val (.ref kd), .val (.int nC), .val (.int nK), .val (.int ng), .val (.int qv), .val (.long cl), .second, .val (.long co), .second, .unset, .unset, .unset, .unset] []))
              refine own_st (fun t k => XS.aload X123.here hx rfl (hb hby at_525) rfl rfl k) ?_
              show own_Run p e below s _ _ _ (T123.setTop (mkF m 527 #[.val (.long j0), .second, .val (.long j1), .second, .val (.int i2), .val (.int i3), .val (.int i4), .val (.int md), .val (.ref kd), .val (.int nC), .val (.int nK), .val (.int ng), .val (.int qv), .val (.long cl), .second, .val (.long co), .second, .unset, .unset, .unset, .unset] [(.ref kd)]))
              refine own_st (fun t k => XS.lload X123.here hx rfl (hb hby at_527) rfl k) ?_
              show own_Run p e below s _ _ _ (T123.setTop (mkF m 529 #[.val (.long j0), .second, .val (.long j1), .second, .val (.int i2), .val (.int i3), .val (.int i4), .val (.int md), .val (.ref kd), .val (.int nC), .val (.int nK), .val (.int ng), .val (.int qv), .val (.long cl), .second, .val (.long co), .second, .unset, .unset, .unset, .unset] [(.long co), (.ref kd)]))
              refine own_st (fun t k => XS.lload X123.here hx rfl (hb hby at_529) rfl k) ?_
              show own_Run p e below s _ _ _ (T123.setTop (mkF m 531 #[.val (.long j0), .second, .val (.long j1), .second, .val (.int i2), .val (.int i3), .val (.int i4), .val (.int md), .val (.ref kd), .val (.int nC), .val (.int nK), .val (.int ng), .val (.int qv), .val (.long cl), .second, .val (.long co), .second, .unset, .unset, .unset, .unset] [(.long cl), (.long co), (.ref kd)]))
              refine own_callS X123 hx hZ (y := (⟨"com/example/tunegrid/tunegrid/IntervalContentionPinLaw", "contention", "(Lcom/example/tunegrid/tunegrid/Replication$Kind;JJ)D"⟩ : MethodName)) hown (hw _ (List.mem_of_getElem? (i := 4) rfl)) (hw _ (List.mem_of_getElem? (i := 5) rfl)) (hw _ (List.mem_of_getElem? (i := 7) rfl)) (hw _ (List.mem_of_getElem? (i := 6) rfl)) (by decide) hh123 (argsL := [(.ref kd), (.long co), (.long cl)]) (rest := []) (W := 0) (own_rm1 l Z a0 hw [] kd co cl hs n0 (Nat.le_trans Z0 K0.1) ) (by decide) (by decide) (by rw [hml]; rfl) (lenOf own_pd6 rfl) rfl (by exact Nat.le_of_eq rfl) (hb hby at_531) (by decide) (by decide) ?_
              intro T124 v124 L124 X124 hq124
              obtain ⟨rfl, N124q, K124q⟩ := hq124
              have K125 : Keep h0 T124.heap [] := K0.trans K124q all0
              have O126 := O0.keep K124q all0
              have N124 := Fr.app N123 N124q
              show own_Run p e below s _ _ _ (T124.setTop (mkF m 534 #[.val (.long j0), .second, .val (.long j1), .second, .val (.int i2), .val (.int i3), .val (.int i4), .val (.int md), .val (.ref kd), .val (.int nC), .val (.int nK), .val (.int ng), .val (.int qv), .val (.long cl), .second, .val (.long co), .second, .unset, .unset, .unset, .unset] [(.double (if cl = (0 : Int64) then (0 : UInt64) else (FP.ddiv (FP.l2d co) (FP.l2d cl))))]))
              obtain ⟨r, h_r⟩ : ∃ z, ((if cl = (0 : Int64) then (0 : UInt64) else (FP.ddiv (FP.l2d co) (FP.l2d cl))) : UInt64) = z := ⟨_, rfl⟩
              refine own_topD h_r ?_
              show own_Run p e below s _ _ _ (T124.setTop (mkF m 534 #[.val (.long j0), .second, .val (.long j1), .second, .val (.int i2), .val (.int i3), .val (.int i4), .val (.int md), .val (.ref kd), .val (.int nC), .val (.int nK), .val (.int ng), .val (.int qv), .val (.long cl), .second, .val (.long co), .second, .unset, .unset, .unset, .unset] [(.double r)]))
              refine own_st (fun t k => XS.dstore X124.here hx rfl (hb hby at_534) rfl (l' := #[.val (.long j0), .second, .val (.long j1), .second, .val (.int i2), .val (.int i3), .val (.int i4), .val (.int md), .val (.ref kd), .val (.int nC), .val (.int nK), .val (.int ng), .val (.int qv), .val (.long cl), .second, .val (.long co), .second, .val (.double r), .second, .unset, .unset]) rfl k) ?_
              show own_Run p e below s _ _ _ (T124.setTop (mkF m 536 #[.val (.long j0), .second, .val (.long j1), .second, .val (.int i2), .val (.int i3), .val (.int i4), .val (.int md), .val (.ref kd), .val (.int nC), .val (.int nK), .val (.int ng), .val (.int qv), .val (.long cl), .second, .val (.long co), .second, .val (.double r), .second, .unset, .unset] []))
              refine own_st (fun t k => XS.lload X124.here hx rfl (hb hby at_536) rfl k) ?_
              show own_Run p e below s _ _ _ (T124.setTop (mkF m 538 #[.val (.long j0), .second, .val (.long j1), .second, .val (.int i2), .val (.int i3), .val (.int i4), .val (.int md), .val (.ref kd), .val (.int nC), .val (.int nK), .val (.int ng), .val (.int qv), .val (.long cl), .second, .val (.long co), .second, .val (.double r), .second, .unset, .unset] [(.long cl)]))
              refine own_st (fun t k => XS.lconst X124.here hx rfl (hb hby at_538) k) ?_
              show own_Run p e below s _ _ _ (T124.setTop (mkF m 539 #[.val (.long j0), .second, .val (.long j1), .second, .val (.int i2), .val (.int i3), .val (.int i4), .val (.int md), .val (.ref kd), .val (.int nC), .val (.int nK), .val (.int ng), .val (.int qv), .val (.long cl), .second, .val (.long co), .second, .val (.double r), .second, .unset, .unset] [(.long (0 : Int64)), (.long cl)]))
              refine own_st (fun t k => XS.lcmp X124.here hx rfl (hb hby at_539) rfl k) ?_
              show own_Run p e below s _ _ _ (T124.setTop (mkF m 540 #[.val (.long j0), .second, .val (.long j1), .second, .val (.int i2), .val (.int i3), .val (.int i4), .val (.int md), .val (.ref kd), .val (.int nC), .val (.int nK), .val (.int ng), .val (.int qv), .val (.long cl), .second, .val (.long co), .second, .val (.double r), .second, .unset, .unset] [(.int (lcmpW cl (0 : Int64)))]))
              by_cases hZ0 : cl = (0 : Int64)
              · skip
                refine own_st (fun t k => XS.ifYes X124.here hx rfl (pc0 := 540) (pc' := 550) rfl (hb hby at_540) rfl ((if0 _ _).trans (teq ((lw_eq _ _).mpr hZ0 : (lcmpW cl (0 : Int64)) = (0 : Int32))).1) (by decide) (by decide) k) ?_
                show own_Run p e below s _ _ _ (T124.setTop (mkF m 550 #[.val (.long j0), .second, .val (.long j1), .second, .val (.int i2), .val (.int i3), .val (.int i4), .val (.int md), .val (.ref kd), .val (.int nC), .val (.int nK), .val (.int ng), .val (.int qv), .val (.long cl), .second, .val (.long co), .second, .val (.double r), .second, .unset, .unset] []))
                refine own_st (fun t k => XS.dload X124.here hx rfl (hb hby at_550) rfl k) ?_
                show own_Run p e below s _ _ _ (T124.setTop (mkF m 552 #[.val (.long j0), .second, .val (.long j1), .second, .val (.int i2), .val (.int i3), .val (.int i4), .val (.int md), .val (.ref kd), .val (.int nC), .val (.int nK), .val (.int ng), .val (.int qv), .val (.long cl), .second, .val (.long co), .second, .val (.double r), .second, .unset, .unset] [(.double r)]))
                refine own_st (fun t k => XS.dconst0 X124.here hx rfl (hb hby at_552) (v := 0) rfl k) ?_
                show own_Run p e below s _ _ _ (T124.setTop (mkF m 553 #[.val (.long j0), .second, .val (.long j1), .second, .val (.int i2), .val (.int i3), .val (.int i4), .val (.int md), .val (.ref kd), .val (.int nC), .val (.int nK), .val (.int ng), .val (.int qv), .val (.long cl), .second, .val (.long co), .second, .val (.double r), .second, .unset, .unset] [(.double (0 : UInt64)), (.double r)]))
                refine own_st (fun t k => XS.dcmpS X124.here hx rfl (hb hby at_553) rfl (v := (0 : Int32)) (own_r6a h_r hZ0) k) ?_
                show own_Run p e below s _ _ _ (T124.setTop (mkF m 554 #[.val (.long j0), .second, .val (.long j1), .second, .val (.int i2), .val (.int i3), .val (.int i4), .val (.int md), .val (.ref kd), .val (.int nC), .val (.int nK), .val (.int ng), .val (.int qv), .val (.long cl), .second, .val (.long co), .second, .val (.double r), .second, .unset, .unset] [(.int (0 : Int32))]))
                refine own_st (fun t k => XS.ifNo X124.here hx rfl (hb hby at_554) rfl ((if0 _ _).trans (teq (by decide : (0 : Int32) = (0 : Int32))).2) k) ?_
                show own_Run p e below s _ _ _ (T124.setTop (mkF m 557 #[.val (.long j0), .second, .val (.long j1), .second, .val (.int i2), .val (.int i3), .val (.int i4), .val (.int md), .val (.ref kd), .val (.int nC), .val (.int nK), .val (.int ng), .val (.int qv), .val (.long cl), .second, .val (.long co), .second, .val (.double r), .second, .unset, .unset] []))
                refine own_st (fun t k => XS.iconst X124.here hx rfl (hb hby at_557) k) ?_
                show own_Run p e below s _ _ _ (T124.setTop (mkF m 558 #[.val (.long j0), .second, .val (.long j1), .second, .val (.int i2), .val (.int i3), .val (.int i4), .val (.int md), .val (.ref kd), .val (.int nC), .val (.int nK), .val (.int ng), .val (.int qv), .val (.long cl), .second, .val (.long co), .second, .val (.double r), .second, .unset, .unset] [(.int (1 : Int32))]))
                refine own_st (fun t k => XS.goto X124.here hx rfl (pc0 := 558) (pc' := 562) rfl (hb hby at_558) (by decide) (by decide) k) ?_
                show own_Run p e below s _ _ _ (T124.setTop (mkF m 562 #[.val (.long j0), .second, .val (.long j1), .second, .val (.int i2), .val (.int i3), .val (.int i4), .val (.int md), .val (.ref kd), .val (.int nC), .val (.int nK), .val (.int ng), .val (.int qv), .val (.long cl), .second, .val (.long co), .second, .val (.double r), .second, .unset, .unset] [(.int (1 : Int32))]))
                exact own_ret X124 hx hlk (t := .boolean) hret rfl (Or.inl ⟨rfl, by simp, _, rfl⟩) (hb hby at_562) (by decide) (by decide) ⟨rfl, N124⟩
              · skip
                refine own_st (fun t k => XS.ifNo X124.here hx rfl (hb hby at_540) rfl ((if0 _ _).trans (feq (fun z => hZ0 ((lw_eq _ _).mp z) : ¬ ((lcmpW cl (0 : Int64)) = (0 : Int32)))).1) k) ?_
                show own_Run p e below s _ _ _ (T124.setTop (mkF m 543 #[.val (.long j0), .second, .val (.long j1), .second, .val (.int i2), .val (.int i3), .val (.int i4), .val (.int md), .val (.ref kd), .val (.int nC), .val (.int nK), .val (.int ng), .val (.int qv), .val (.long cl), .second, .val (.long co), .second, .val (.double r), .second, .unset, .unset] []))
                refine own_st (fun t k => XS.lload X124.here hx rfl (hb hby at_543) rfl k) ?_
                show own_Run p e below s _ _ _ (T124.setTop (mkF m 545 #[.val (.long j0), .second, .val (.long j1), .second, .val (.int i2), .val (.int i3), .val (.int i4), .val (.int md), .val (.ref kd), .val (.int nC), .val (.int nK), .val (.int ng), .val (.int qv), .val (.long cl), .second, .val (.long co), .second, .val (.double r), .second, .unset, .unset] [(.long co)]))
                refine own_st (fun t k => XS.lconst X124.here hx rfl (hb hby at_545) k) ?_
                show own_Run p e below s _ _ _ (T124.setTop (mkF m 546 #[.val (.long j0), .second, .val (.long j1), .second, .val (.int i2), .val (.int i3), .val (.int i4), .val (.int md), .val (.ref kd), .val (.int nC), .val (.int nK), .val (.int ng), .val (.int qv), .val (.long cl), .second, .val (.long co), .second, .val (.double r), .second, .unset, .unset] [(.long (0 : Int64)), (.long co)]))
                refine own_st (fun t k => XS.lcmp X124.here hx rfl (hb hby at_546) rfl k) ?_
                show own_Run p e below s _ _ _ (T124.setTop (mkF m 547 #[.val (.long j0), .second, .val (.long j1), .second, .val (.int i2), .val (.int i3), .val (.int i4), .val (.int md), .val (.ref kd), .val (.int nC), .val (.int nK), .val (.int ng), .val (.int qv), .val (.long cl), .second, .val (.long co), .second, .val (.double r), .second, .unset, .unset] [(.int (lcmpW co (0 : Int64)))]))
                by_cases hY : co = (0 : Int64)
                · skip
                  refine own_st (fun t k => XS.ifNo X124.here hx rfl (hb hby at_547) rfl ((if0 _ _).trans (teq ((lw_eq _ _).mpr hY : (lcmpW co (0 : Int64)) = (0 : Int32))).2) k) ?_
                  show own_Run p e below s _ _ _ (T124.setTop (mkF m 550 #[.val (.long j0), .second, .val (.long j1), .second, .val (.int i2), .val (.int i3), .val (.int i4), .val (.int md), .val (.ref kd), .val (.int nC), .val (.int nK), .val (.int ng), .val (.int qv), .val (.long cl), .second, .val (.long co), .second, .val (.double r), .second, .unset, .unset] []))
                  refine own_st (fun t k => XS.dload X124.here hx rfl (hb hby at_550) rfl k) ?_
                  show own_Run p e below s _ _ _ (T124.setTop (mkF m 552 #[.val (.long j0), .second, .val (.long j1), .second, .val (.int i2), .val (.int i3), .val (.int i4), .val (.int md), .val (.ref kd), .val (.int nC), .val (.int nK), .val (.int ng), .val (.int qv), .val (.long cl), .second, .val (.long co), .second, .val (.double r), .second, .unset, .unset] [(.double r)]))
                  refine own_st (fun t k => XS.dconst0 X124.here hx rfl (hb hby at_552) (v := 0) rfl k) ?_
                  show own_Run p e below s _ _ _ (T124.setTop (mkF m 553 #[.val (.long j0), .second, .val (.long j1), .second, .val (.int i2), .val (.int i3), .val (.int i4), .val (.int md), .val (.ref kd), .val (.int nC), .val (.int nK), .val (.int ng), .val (.int qv), .val (.long cl), .second, .val (.long co), .second, .val (.double r), .second, .unset, .unset] [(.double (0 : UInt64)), (.double r)]))
                  refine own_st (fun t k => XS.dcmpS X124.here hx rfl (hb hby at_553) rfl (v := (0 : Int32)) (own_r6b h_r hZ0 hY) k) ?_
                  show own_Run p e below s _ _ _ (T124.setTop (mkF m 554 #[.val (.long j0), .second, .val (.long j1), .second, .val (.int i2), .val (.int i3), .val (.int i4), .val (.int md), .val (.ref kd), .val (.int nC), .val (.int nK), .val (.int ng), .val (.int qv), .val (.long cl), .second, .val (.long co), .second, .val (.double r), .second, .unset, .unset] [(.int (0 : Int32))]))
                  refine own_st (fun t k => XS.ifNo X124.here hx rfl (hb hby at_554) rfl ((if0 _ _).trans (teq (by decide : (0 : Int32) = (0 : Int32))).2) k) ?_
                  show own_Run p e below s _ _ _ (T124.setTop (mkF m 557 #[.val (.long j0), .second, .val (.long j1), .second, .val (.int i2), .val (.int i3), .val (.int i4), .val (.int md), .val (.ref kd), .val (.int nC), .val (.int nK), .val (.int ng), .val (.int qv), .val (.long cl), .second, .val (.long co), .second, .val (.double r), .second, .unset, .unset] []))
                  refine own_st (fun t k => XS.iconst X124.here hx rfl (hb hby at_557) k) ?_
                  show own_Run p e below s _ _ _ (T124.setTop (mkF m 558 #[.val (.long j0), .second, .val (.long j1), .second, .val (.int i2), .val (.int i3), .val (.int i4), .val (.int md), .val (.ref kd), .val (.int nC), .val (.int nK), .val (.int ng), .val (.int qv), .val (.long cl), .second, .val (.long co), .second, .val (.double r), .second, .unset, .unset] [(.int (1 : Int32))]))
                  refine own_st (fun t k => XS.goto X124.here hx rfl (pc0 := 558) (pc' := 562) rfl (hb hby at_558) (by decide) (by decide) k) ?_
                  show own_Run p e below s _ _ _ (T124.setTop (mkF m 562 #[.val (.long j0), .second, .val (.long j1), .second, .val (.int i2), .val (.int i3), .val (.int i4), .val (.int md), .val (.ref kd), .val (.int nC), .val (.int nK), .val (.int ng), .val (.int qv), .val (.long cl), .second, .val (.long co), .second, .val (.double r), .second, .unset, .unset] [(.int (1 : Int32))]))
                  exact own_ret X124 hx hlk (t := .boolean) hret rfl (Or.inl ⟨rfl, by simp, _, rfl⟩) (hb hby at_562) (by decide) (by decide) ⟨rfl, N124⟩
                · skip
                  refine own_st (fun t k => XS.ifYes X124.here hx rfl (pc0 := 547) (pc' := 563) rfl (hb hby at_547) rfl ((if0 _ _).trans (feq (fun z => hY ((lw_eq _ _).mp z) : ¬ ((lcmpW co (0 : Int64)) = (0 : Int32)))).2) (by decide) (by decide) k) ?_
                  show own_Run p e below s _ _ _ (T124.setTop (mkF m 563 #[.val (.long j0), .second, .val (.long j1), .second, .val (.int i2), .val (.int i3), .val (.int i4), .val (.int md), .val (.ref kd), .val (.int nC), .val (.int nK), .val (.int ng), .val (.int qv), .val (.long cl), .second, .val (.long co), .second, .val (.double r), .second, .unset, .unset] []))
                  refine own_st (fun t k => XS.lload X124.here hx rfl (hb hby at_563) rfl k) ?_
                  show own_Run p e below s _ _ _ (T124.setTop (mkF m 565 #[.val (.long j0), .second, .val (.long j1), .second, .val (.int i2), .val (.int i3), .val (.int i4), .val (.int md), .val (.ref kd), .val (.int nC), .val (.int nK), .val (.int ng), .val (.int qv), .val (.long cl), .second, .val (.long co), .second, .val (.double r), .second, .unset, .unset] [(.long co)]))
                  refine own_st (fun t k => XS.lload X124.here hx rfl (hb hby at_565) rfl k) ?_
                  show own_Run p e below s _ _ _ (T124.setTop (mkF m 567 #[.val (.long j0), .second, .val (.long j1), .second, .val (.int i2), .val (.int i3), .val (.int i4), .val (.int md), .val (.ref kd), .val (.int nC), .val (.int nK), .val (.int ng), .val (.int qv), .val (.long cl), .second, .val (.long co), .second, .val (.double r), .second, .unset, .unset] [(.long cl), (.long co)]))
                  refine own_st (fun t k => XS.lcmp X124.here hx rfl (hb hby at_567) rfl k) ?_
                  show own_Run p e below s _ _ _ (T124.setTop (mkF m 568 #[.val (.long j0), .second, .val (.long j1), .second, .val (.int i2), .val (.int i3), .val (.int i4), .val (.int md), .val (.ref kd), .val (.int nC), .val (.int nK), .val (.int ng), .val (.int qv), .val (.long cl), .second, .val (.long co), .second, .val (.double r), .second, .unset, .unset] [(.int (lcmpW co cl))]))
                  by_cases hE : co = cl
                  · skip
                    refine own_st (fun t k => XS.ifNo X124.here hx rfl (hb hby at_568) rfl ((if0 _ _).trans (teq ((lw_eq _ _).mpr hE : (lcmpW co cl) = (0 : Int32))).2) k) ?_
                    show own_Run p e below s _ _ _ (T124.setTop (mkF m 571 #[.val (.long j0), .second, .val (.long j1), .second, .val (.int i2), .val (.int i3), .val (.int i4), .val (.int md), .val (.ref kd), .val (.int nC), .val (.int nK), .val (.int ng), .val (.int qv), .val (.long cl), .second, .val (.long co), .second, .val (.double r), .second, .unset, .unset] []))
                    refine own_st (fun t k => XS.dload X124.here hx rfl (hb hby at_571) rfl k) ?_
                    show own_Run p e below s _ _ _ (T124.setTop (mkF m 573 #[.val (.long j0), .second, .val (.long j1), .second, .val (.int i2), .val (.int i3), .val (.int i4), .val (.int md), .val (.ref kd), .val (.int nC), .val (.int nK), .val (.int ng), .val (.int qv), .val (.long cl), .second, .val (.long co), .second, .val (.double r), .second, .unset, .unset] [(.double r)]))
                    refine own_st (fun t k => XS.dconst1 X124.here hx rfl (hb hby at_573) (v := 4607182418800017408) rfl k) ?_
                    show own_Run p e below s _ _ _ (T124.setTop (mkF m 574 #[.val (.long j0), .second, .val (.long j1), .second, .val (.int i2), .val (.int i3), .val (.int i4), .val (.int md), .val (.ref kd), .val (.int nC), .val (.int nK), .val (.int ng), .val (.int qv), .val (.long cl), .second, .val (.long co), .second, .val (.double r), .second, .unset, .unset] [(.double (4607182418800017408 : UInt64)), (.double r)]))
                    refine own_st (fun t k => XS.dcmpS X124.here hx rfl (hb hby at_574) rfl (v := (0 : Int32)) (own_r6c h_r hZ0 hE) k) ?_
                    show own_Run p e below s _ _ _ (T124.setTop (mkF m 575 #[.val (.long j0), .second, .val (.long j1), .second, .val (.int i2), .val (.int i3), .val (.int i4), .val (.int md), .val (.ref kd), .val (.int nC), .val (.int nK), .val (.int ng), .val (.int qv), .val (.long cl), .second, .val (.long co), .second, .val (.double r), .second, .unset, .unset] [(.int (0 : Int32))]))
                    refine own_st (fun t k => XS.ifNo X124.here hx rfl (hb hby at_575) rfl ((if0 _ _).trans (teq (by decide : (0 : Int32) = (0 : Int32))).2) k) ?_
                    show own_Run p e below s _ _ _ (T124.setTop (mkF m 578 #[.val (.long j0), .second, .val (.long j1), .second, .val (.int i2), .val (.int i3), .val (.int i4), .val (.int md), .val (.ref kd), .val (.int nC), .val (.int nK), .val (.int ng), .val (.int qv), .val (.long cl), .second, .val (.long co), .second, .val (.double r), .second, .unset, .unset] []))
                    refine own_st (fun t k => XS.iconst X124.here hx rfl (hb hby at_578) k) ?_
                    show own_Run p e below s _ _ _ (T124.setTop (mkF m 579 #[.val (.long j0), .second, .val (.long j1), .second, .val (.int i2), .val (.int i3), .val (.int i4), .val (.int md), .val (.ref kd), .val (.int nC), .val (.int nK), .val (.int ng), .val (.int qv), .val (.long cl), .second, .val (.long co), .second, .val (.double r), .second, .unset, .unset] [(.int (1 : Int32))]))
                    refine own_st (fun t k => XS.goto X124.here hx rfl (pc0 := 579) (pc' := 583) rfl (hb hby at_579) (by decide) (by decide) k) ?_
                    show own_Run p e below s _ _ _ (T124.setTop (mkF m 583 #[.val (.long j0), .second, .val (.long j1), .second, .val (.int i2), .val (.int i3), .val (.int i4), .val (.int md), .val (.ref kd), .val (.int nC), .val (.int nK), .val (.int ng), .val (.int qv), .val (.long cl), .second, .val (.long co), .second, .val (.double r), .second, .unset, .unset] [(.int (1 : Int32))]))
                    exact own_ret X124 hx hlk (t := .boolean) hret rfl (Or.inl ⟨rfl, by simp, _, rfl⟩) (hb hby at_583) (by decide) (by decide) ⟨rfl, N124⟩
                  · skip
                    refine own_st (fun t k => XS.ifYes X124.here hx rfl (pc0 := 568) (pc' := 584) rfl (hb hby at_568) rfl ((if0 _ _).trans (feq (fun z => hE ((lw_eq _ _).mp z) : ¬ ((lcmpW co cl) = (0 : Int32)))).2) (by decide) (by decide) k) ?_
                    show own_Run p e below s _ _ _ (T124.setTop (mkF m 584 #[.val (.long j0), .second, .val (.long j1), .second, .val (.int i2), .val (.int i3), .val (.int i4), .val (.int md), .val (.ref kd), .val (.int nC), .val (.int nK), .val (.int ng), .val (.int qv), .val (.long cl), .second, .val (.long co), .second, .val (.double r), .second, .unset, .unset] []))
                    have hr := own_r6d h_r r_co hZ0
                    refine own_st (fun t k => XS.dload X124.here hx rfl (hb hby at_584) rfl k) ?_
                    show own_Run p e below s _ _ _ (T124.setTop (mkF m 586 #[.val (.long j0), .second, .val (.long j1), .second, .val (.int i2), .val (.int i3), .val (.int i4), .val (.int md), .val (.ref kd), .val (.int nC), .val (.int nK), .val (.int ng), .val (.int qv), .val (.long cl), .second, .val (.long co), .second, .val (.double r), .second, .unset, .unset] [(.double r)]))
                    refine own_st (fun t k => XS.dconst0 X124.here hx rfl (hb hby at_586) (v := 0) rfl k) ?_
                    show own_Run p e below s _ _ _ (T124.setTop (mkF m 587 #[.val (.long j0), .second, .val (.long j1), .second, .val (.int i2), .val (.int i3), .val (.int i4), .val (.int md), .val (.ref kd), .val (.int nC), .val (.int nK), .val (.int ng), .val (.int qv), .val (.long cl), .second, .val (.long co), .second, .val (.double r), .second, .unset, .unset] [(.double (0 : UInt64)), (.double r)]))
                    refine own_st (fun t k => XS.dcmpS X124.here hx rfl (hb hby at_587) rfl (v := (cmpValue (FP.dcmp r (0 : UInt64)) .l)) (rfl) k) ?_
                    show own_Run p e below s _ _ _ (T124.setTop (mkF m 588 #[.val (.long j0), .second, .val (.long j1), .second, .val (.int i2), .val (.int i3), .val (.int i4), .val (.int md), .val (.ref kd), .val (.int nC), .val (.int nK), .val (.int ng), .val (.int qv), .val (.long cl), .second, .val (.long co), .second, .val (.double r), .second, .unset, .unset] [(.int (cmpValue (FP.dcmp r (0 : UInt64)) .l))]))
                    by_cases hG : (0 : Int32) < (cmpValue (FP.dcmp r (0 : UInt64)) .l)
                    · skip
                      refine own_st (fun t k => XS.ifYes X124.here hx rfl (pc0 := 588) (pc' := 598) rfl (hb hby at_588) rfl ((if0 _ _).trans (tlt (hG : (0 : Int32) < (cmpValue (FP.dcmp r (0 : UInt64)) .l))).2.2.1) (by decide) (by decide) k) ?_
                      show own_Run p e below s _ _ _ (T124.setTop (mkF m 598 #[.val (.long j0), .second, .val (.long j1), .second, .val (.int i2), .val (.int i3), .val (.int i4), .val (.int md), .val (.ref kd), .val (.int nC), .val (.int nK), .val (.int ng), .val (.int qv), .val (.long cl), .second, .val (.long co), .second, .val (.double r), .second, .unset, .unset] []))
                      refine own_st (fun t k => XS.dload X124.here hx rfl (hb hby at_598) rfl k) ?_
                      show own_Run p e below s _ _ _ (T124.setTop (mkF m 600 #[.val (.long j0), .second, .val (.long j1), .second, .val (.int i2), .val (.int i3), .val (.int i4), .val (.int md), .val (.ref kd), .val (.int nC), .val (.int nK), .val (.int ng), .val (.int qv), .val (.long cl), .second, .val (.long co), .second, .val (.double r), .second, .unset, .unset] [(.double r)]))
                      refine own_st (fun t k => XS.dconst1 X124.here hx rfl (hb hby at_600) (v := 4607182418800017408) rfl k) ?_
                      show own_Run p e below s _ _ _ (T124.setTop (mkF m 601 #[.val (.long j0), .second, .val (.long j1), .second, .val (.int i2), .val (.int i3), .val (.int i4), .val (.int md), .val (.ref kd), .val (.int nC), .val (.int nK), .val (.int ng), .val (.int qv), .val (.long cl), .second, .val (.long co), .second, .val (.double r), .second, .unset, .unset] [(.double (4607182418800017408 : UInt64)), (.double r)]))
                      refine own_st (fun t k => XS.dcmpS X124.here hx rfl (hb hby at_601) rfl (v := (cmpValue (FP.dcmp r (4607182418800017408 : UInt64)) .g)) (rfl) k) ?_
                      show own_Run p e below s _ _ _ (T124.setTop (mkF m 602 #[.val (.long j0), .second, .val (.long j1), .second, .val (.int i2), .val (.int i3), .val (.int i4), .val (.int md), .val (.ref kd), .val (.int nC), .val (.int nK), .val (.int ng), .val (.int qv), .val (.long cl), .second, .val (.long co), .second, .val (.double r), .second, .unset, .unset] [(.int (cmpValue (FP.dcmp r (4607182418800017408 : UInt64)) .g))]))
                      by_cases hL : (cmpValue (FP.dcmp r (4607182418800017408 : UInt64)) .g) < (0 : Int32)
                      · skip
                        refine own_st (fun t k => XS.ifYes X124.here hx rfl (pc0 := 602) (pc' := 612) rfl (hb hby at_602) rfl ((if0 _ _).trans (tlt (hL : (cmpValue (FP.dcmp r (4607182418800017408 : UInt64)) .g) < (0 : Int32))).1) (by decide) (by decide) k) ?_
                        show own_Run p e below s _ _ _ (T124.setTop (mkF m 612 #[.val (.long j0), .second, .val (.long j1), .second, .val (.int i2), .val (.int i3), .val (.int i4), .val (.int md), .val (.ref kd), .val (.int nC), .val (.int nK), .val (.int ng), .val (.int qv), .val (.long cl), .second, .val (.long co), .second, .val (.double r), .second, .unset, .unset] []))
                        refine own_st (fun t k => XS.iconst X124.here hx rfl (hb hby at_612) k) ?_
                        show own_Run p e below s _ _ _ (T124.setTop (mkF m 613 #[.val (.long j0), .second, .val (.long j1), .second, .val (.int i2), .val (.int i3), .val (.int i4), .val (.int md), .val (.ref kd), .val (.int nC), .val (.int nK), .val (.int ng), .val (.int qv), .val (.long cl), .second, .val (.long co), .second, .val (.double r), .second, .unset, .unset] [(.int (1 : Int32))]))
                        refine own_st (fun t k => XS.goto X124.here hx rfl (pc0 := 613) (pc' := 617) rfl (hb hby at_613) (by decide) (by decide) k) ?_
                        show own_Run p e below s _ _ _ (T124.setTop (mkF m 617 #[.val (.long j0), .second, .val (.long j1), .second, .val (.int i2), .val (.int i3), .val (.int i4), .val (.int md), .val (.ref kd), .val (.int nC), .val (.int nK), .val (.int ng), .val (.int qv), .val (.long cl), .second, .val (.long co), .second, .val (.double r), .second, .unset, .unset] [(.int (1 : Int32))]))
                        exact own_ret X124 hx hlk (t := .boolean) hret rfl (Or.inl ⟨rfl, by simp, _, rfl⟩) (hb hby at_617) (by decide) (by decide) ⟨rfl, N124⟩
                      · skip
                        refine own_st (fun t k => XS.ifNo X124.here hx rfl (hb hby at_602) rfl ((if0 _ _).trans (flt (hL : ¬ ((cmpValue (FP.dcmp r (4607182418800017408 : UInt64)) .g) < (0 : Int32)))).1) k) ?_
                        show own_Run p e below s _ _ _ (T124.setTop (mkF m 605 #[.val (.long j0), .second, .val (.long j1), .second, .val (.int i2), .val (.int i3), .val (.int i4), .val (.int md), .val (.ref kd), .val (.int nC), .val (.int nK), .val (.int ng), .val (.int qv), .val (.long cl), .second, .val (.long co), .second, .val (.double r), .second, .unset, .unset] []))
                        refine own_st (fun t k => XS.dload X124.here hx rfl (hb hby at_605) rfl k) ?_
                        show own_Run p e below s _ _ _ (T124.setTop (mkF m 607 #[.val (.long j0), .second, .val (.long j1), .second, .val (.int i2), .val (.int i3), .val (.int i4), .val (.int md), .val (.ref kd), .val (.int nC), .val (.int nK), .val (.int ng), .val (.int qv), .val (.long cl), .second, .val (.long co), .second, .val (.double r), .second, .unset, .unset] [(.double r)]))
                        refine own_st (fun t k => XS.dconst1 X124.here hx rfl (hb hby at_607) (v := 4607182418800017408) rfl k) ?_
                        show own_Run p e below s _ _ _ (T124.setTop (mkF m 608 #[.val (.long j0), .second, .val (.long j1), .second, .val (.int i2), .val (.int i3), .val (.int i4), .val (.int md), .val (.ref kd), .val (.int nC), .val (.int nK), .val (.int ng), .val (.int qv), .val (.long cl), .second, .val (.long co), .second, .val (.double r), .second, .unset, .unset] [(.double (4607182418800017408 : UInt64)), (.double r)]))
                        refine own_st (fun t k => XS.dcmpS X124.here hx rfl (hb hby at_608) rfl (v := (0 : Int32)) (own_r6f hr hL) k) ?_
                        show own_Run p e below s _ _ _ (T124.setTop (mkF m 609 #[.val (.long j0), .second, .val (.long j1), .second, .val (.int i2), .val (.int i3), .val (.int i4), .val (.int md), .val (.ref kd), .val (.int nC), .val (.int nK), .val (.int ng), .val (.int qv), .val (.long cl), .second, .val (.long co), .second, .val (.double r), .second, .unset, .unset] [(.int (0 : Int32))]))
                        refine own_st (fun t k => XS.ifNo X124.here hx rfl (hb hby at_609) rfl ((if0 _ _).trans (teq (by decide : (0 : Int32) = (0 : Int32))).2) k) ?_
                        show own_Run p e below s _ _ _ (T124.setTop (mkF m 612 #[.val (.long j0), .second, .val (.long j1), .second, .val (.int i2), .val (.int i3), .val (.int i4), .val (.int md), .val (.ref kd), .val (.int nC), .val (.int nK), .val (.int ng), .val (.int qv), .val (.long cl), .second, .val (.long co), .second, .val (.double r), .second, .unset, .unset] []))
                        refine own_st (fun t k => XS.iconst X124.here hx rfl (hb hby at_612) k) ?_
                        show own_Run p e below s _ _ _ (T124.setTop (mkF m 613 #[.val (.long j0), .second, .val (.long j1), .second, .val (.int i2), .val (.int i3), .val (.int i4), .val (.int md), .val (.ref kd), .val (.int nC), .val (.int nK), .val (.int ng), .val (.int qv), .val (.long cl), .second, .val (.long co), .second, .val (.double r), .second, .unset, .unset] [(.int (1 : Int32))]))
                        refine own_st (fun t k => XS.goto X124.here hx rfl (pc0 := 613) (pc' := 617) rfl (hb hby at_613) (by decide) (by decide) k) ?_
                        show own_Run p e below s _ _ _ (T124.setTop (mkF m 617 #[.val (.long j0), .second, .val (.long j1), .second, .val (.int i2), .val (.int i3), .val (.int i4), .val (.int md), .val (.ref kd), .val (.int nC), .val (.int nK), .val (.int ng), .val (.int qv), .val (.long cl), .second, .val (.long co), .second, .val (.double r), .second, .unset, .unset] [(.int (1 : Int32))]))
                        exact own_ret X124 hx hlk (t := .boolean) hret rfl (Or.inl ⟨rfl, by simp, _, rfl⟩) (hb hby at_617) (by decide) (by decide) ⟨rfl, N124⟩
                    · skip
                      refine own_st (fun t k => XS.ifNo X124.here hx rfl (hb hby at_588) rfl ((if0 _ _).trans (flt (hG : ¬ ((0 : Int32) < (cmpValue (FP.dcmp r (0 : UInt64)) .l)))).2.2.1) k) ?_
                      show own_Run p e below s _ _ _ (T124.setTop (mkF m 591 #[.val (.long j0), .second, .val (.long j1), .second, .val (.int i2), .val (.int i3), .val (.int i4), .val (.int md), .val (.ref kd), .val (.int nC), .val (.int nK), .val (.int ng), .val (.int qv), .val (.long cl), .second, .val (.long co), .second, .val (.double r), .second, .unset, .unset] []))
                      refine own_st (fun t k => XS.dload X124.here hx rfl (hb hby at_591) rfl k) ?_
                      show own_Run p e below s _ _ _ (T124.setTop (mkF m 593 #[.val (.long j0), .second, .val (.long j1), .second, .val (.int i2), .val (.int i3), .val (.int i4), .val (.int md), .val (.ref kd), .val (.int nC), .val (.int nK), .val (.int ng), .val (.int qv), .val (.long cl), .second, .val (.long co), .second, .val (.double r), .second, .unset, .unset] [(.double r)]))
                      refine own_st (fun t k => XS.dconst0 X124.here hx rfl (hb hby at_593) (v := 0) rfl k) ?_
                      show own_Run p e below s _ _ _ (T124.setTop (mkF m 594 #[.val (.long j0), .second, .val (.long j1), .second, .val (.int i2), .val (.int i3), .val (.int i4), .val (.int md), .val (.ref kd), .val (.int nC), .val (.int nK), .val (.int ng), .val (.int qv), .val (.long cl), .second, .val (.long co), .second, .val (.double r), .second, .unset, .unset] [(.double (0 : UInt64)), (.double r)]))
                      refine own_st (fun t k => XS.dcmpS X124.here hx rfl (hb hby at_594) rfl (v := (0 : Int32)) (own_r6e hr hG) k) ?_
                      show own_Run p e below s _ _ _ (T124.setTop (mkF m 595 #[.val (.long j0), .second, .val (.long j1), .second, .val (.int i2), .val (.int i3), .val (.int i4), .val (.int md), .val (.ref kd), .val (.int nC), .val (.int nK), .val (.int ng), .val (.int qv), .val (.long cl), .second, .val (.long co), .second, .val (.double r), .second, .unset, .unset] [(.int (0 : Int32))]))
                      refine own_st (fun t k => XS.ifNo X124.here hx rfl (hb hby at_595) rfl ((if0 _ _).trans (teq (by decide : (0 : Int32) = (0 : Int32))).2) k) ?_
                      show own_Run p e below s _ _ _ (T124.setTop (mkF m 598 #[.val (.long j0), .second, .val (.long j1), .second, .val (.int i2), .val (.int i3), .val (.int i4), .val (.int md), .val (.ref kd), .val (.int nC), .val (.int nK), .val (.int ng), .val (.int qv), .val (.long cl), .second, .val (.long co), .second, .val (.double r), .second, .unset, .unset] []))
                      refine own_st (fun t k => XS.dload X124.here hx rfl (hb hby at_598) rfl k) ?_
                      show own_Run p e below s _ _ _ (T124.setTop (mkF m 600 #[.val (.long j0), .second, .val (.long j1), .second, .val (.int i2), .val (.int i3), .val (.int i4), .val (.int md), .val (.ref kd), .val (.int nC), .val (.int nK), .val (.int ng), .val (.int qv), .val (.long cl), .second, .val (.long co), .second, .val (.double r), .second, .unset, .unset] [(.double r)]))
                      refine own_st (fun t k => XS.dconst1 X124.here hx rfl (hb hby at_600) (v := 4607182418800017408) rfl k) ?_
                      show own_Run p e below s _ _ _ (T124.setTop (mkF m 601 #[.val (.long j0), .second, .val (.long j1), .second, .val (.int i2), .val (.int i3), .val (.int i4), .val (.int md), .val (.ref kd), .val (.int nC), .val (.int nK), .val (.int ng), .val (.int qv), .val (.long cl), .second, .val (.long co), .second, .val (.double r), .second, .unset, .unset] [(.double (4607182418800017408 : UInt64)), (.double r)]))
                      refine own_st (fun t k => XS.dcmpS X124.here hx rfl (hb hby at_601) rfl (v := (cmpValue (FP.dcmp r (4607182418800017408 : UInt64)) .g)) (rfl) k) ?_
                      show own_Run p e below s _ _ _ (T124.setTop (mkF m 602 #[.val (.long j0), .second, .val (.long j1), .second, .val (.int i2), .val (.int i3), .val (.int i4), .val (.int md), .val (.ref kd), .val (.int nC), .val (.int nK), .val (.int ng), .val (.int qv), .val (.long cl), .second, .val (.long co), .second, .val (.double r), .second, .unset, .unset] [(.int (cmpValue (FP.dcmp r (4607182418800017408 : UInt64)) .g))]))
                      by_cases hL : (cmpValue (FP.dcmp r (4607182418800017408 : UInt64)) .g) < (0 : Int32)
                      · skip
                        refine own_st (fun t k => XS.ifYes X124.here hx rfl (pc0 := 602) (pc' := 612) rfl (hb hby at_602) rfl ((if0 _ _).trans (tlt (hL : (cmpValue (FP.dcmp r (4607182418800017408 : UInt64)) .g) < (0 : Int32))).1) (by decide) (by decide) k) ?_
                        show own_Run p e below s _ _ _ (T124.setTop (mkF m 612 #[.val (.long j0), .second, .val (.long j1), .second, .val (.int i2), .val (.int i3), .val (.int i4), .val (.int md), .val (.ref kd), .val (.int nC), .val (.int nK), .val (.int ng), .val (.int qv), .val (.long cl), .second, .val (.long co), .second, .val (.double r), .second, .unset, .unset] []))
                        refine own_st (fun t k => XS.iconst X124.here hx rfl (hb hby at_612) k) ?_
                        show own_Run p e below s _ _ _ (T124.setTop (mkF m 613 #[.val (.long j0), .second, .val (.long j1), .second, .val (.int i2), .val (.int i3), .val (.int i4), .val (.int md), .val (.ref kd), .val (.int nC), .val (.int nK), .val (.int ng), .val (.int qv), .val (.long cl), .second, .val (.long co), .second, .val (.double r), .second, .unset, .unset] [(.int (1 : Int32))]))
                        refine own_st (fun t k => XS.goto X124.here hx rfl (pc0 := 613) (pc' := 617) rfl (hb hby at_613) (by decide) (by decide) k) ?_
                        show own_Run p e below s _ _ _ (T124.setTop (mkF m 617 #[.val (.long j0), .second, .val (.long j1), .second, .val (.int i2), .val (.int i3), .val (.int i4), .val (.int md), .val (.ref kd), .val (.int nC), .val (.int nK), .val (.int ng), .val (.int qv), .val (.long cl), .second, .val (.long co), .second, .val (.double r), .second, .unset, .unset] [(.int (1 : Int32))]))
                        exact own_ret X124 hx hlk (t := .boolean) hret rfl (Or.inl ⟨rfl, by simp, _, rfl⟩) (hb hby at_617) (by decide) (by decide) ⟨rfl, N124⟩
                      · skip
                        refine own_st (fun t k => XS.ifNo X124.here hx rfl (hb hby at_602) rfl ((if0 _ _).trans (flt (hL : ¬ ((cmpValue (FP.dcmp r (4607182418800017408 : UInt64)) .g) < (0 : Int32)))).1) k) ?_
                        show own_Run p e below s _ _ _ (T124.setTop (mkF m 605 #[.val (.long j0), .second, .val (.long j1), .second, .val (.int i2), .val (.int i3), .val (.int i4), .val (.int md), .val (.ref kd), .val (.int nC), .val (.int nK), .val (.int ng), .val (.int qv), .val (.long cl), .second, .val (.long co), .second, .val (.double r), .second, .unset, .unset] []))
                        refine own_st (fun t k => XS.dload X124.here hx rfl (hb hby at_605) rfl k) ?_
                        show own_Run p e below s _ _ _ (T124.setTop (mkF m 607 #[.val (.long j0), .second, .val (.long j1), .second, .val (.int i2), .val (.int i3), .val (.int i4), .val (.int md), .val (.ref kd), .val (.int nC), .val (.int nK), .val (.int ng), .val (.int qv), .val (.long cl), .second, .val (.long co), .second, .val (.double r), .second, .unset, .unset] [(.double r)]))
                        refine own_st (fun t k => XS.dconst1 X124.here hx rfl (hb hby at_607) (v := 4607182418800017408) rfl k) ?_
                        show own_Run p e below s _ _ _ (T124.setTop (mkF m 608 #[.val (.long j0), .second, .val (.long j1), .second, .val (.int i2), .val (.int i3), .val (.int i4), .val (.int md), .val (.ref kd), .val (.int nC), .val (.int nK), .val (.int ng), .val (.int qv), .val (.long cl), .second, .val (.long co), .second, .val (.double r), .second, .unset, .unset] [(.double (4607182418800017408 : UInt64)), (.double r)]))
                        refine own_st (fun t k => XS.dcmpS X124.here hx rfl (hb hby at_608) rfl (v := (0 : Int32)) (own_r6f hr hL) k) ?_
                        show own_Run p e below s _ _ _ (T124.setTop (mkF m 609 #[.val (.long j0), .second, .val (.long j1), .second, .val (.int i2), .val (.int i3), .val (.int i4), .val (.int md), .val (.ref kd), .val (.int nC), .val (.int nK), .val (.int ng), .val (.int qv), .val (.long cl), .second, .val (.long co), .second, .val (.double r), .second, .unset, .unset] [(.int (0 : Int32))]))
                        refine own_st (fun t k => XS.ifNo X124.here hx rfl (hb hby at_609) rfl ((if0 _ _).trans (teq (by decide : (0 : Int32) = (0 : Int32))).2) k) ?_
                        show own_Run p e below s _ _ _ (T124.setTop (mkF m 612 #[.val (.long j0), .second, .val (.long j1), .second, .val (.int i2), .val (.int i3), .val (.int i4), .val (.int md), .val (.ref kd), .val (.int nC), .val (.int nK), .val (.int ng), .val (.int qv), .val (.long cl), .second, .val (.long co), .second, .val (.double r), .second, .unset, .unset] []))
                        refine own_st (fun t k => XS.iconst X124.here hx rfl (hb hby at_612) k) ?_
                        show own_Run p e below s _ _ _ (T124.setTop (mkF m 613 #[.val (.long j0), .second, .val (.long j1), .second, .val (.int i2), .val (.int i3), .val (.int i4), .val (.int md), .val (.ref kd), .val (.int nC), .val (.int nK), .val (.int ng), .val (.int qv), .val (.long cl), .second, .val (.long co), .second, .val (.double r), .second, .unset, .unset] [(.int (1 : Int32))]))
                        refine own_st (fun t k => XS.goto X124.here hx rfl (pc0 := 613) (pc' := 617) rfl (hb hby at_613) (by decide) (by decide) k) ?_
                        show own_Run p e below s _ _ _ (T124.setTop (mkF m 617 #[.val (.long j0), .second, .val (.long j1), .second, .val (.int i2), .val (.int i3), .val (.int i4), .val (.int md), .val (.ref kd), .val (.int nC), .val (.int nK), .val (.int ng), .val (.int qv), .val (.long cl), .second, .val (.long co), .second, .val (.double r), .second, .unset, .unset] [(.int (1 : Int32))]))
                        exact own_ret X124 hx hlk (t := .boolean) hret rfl (Or.inl ⟨rfl, by simp, _, rfl⟩) (hb hby at_617) (by decide) (by decide) ⟨rfl, N124⟩
set_option maxHeartbeats 4000000 in
theorem own_ef0 (m : MethodId) (x0 : Int64) (x1 : Int64) (x2 : Int32) (x3 : Int32) (x4 : Int32) : entryFrame m #[(.long x0), (.long x1), (.int x2), (.int x3), (.int x4)] maxLocals = mkF m 0 #[.val (.long x0), .second, .val (.long x1), .second, .val (.int x2), .val (.int x3), .val (.int x4), .unset, .unset, .unset, .unset, .unset, .unset, .unset, .unset, .unset, .unset, .unset, .unset, .unset, .unset] [] := by first | (simp [entryFrame, mkF, argsToLocals, Value.category, maxLocals]; done) | rfl
def own_Q0 (Z : State) (a0 : Array Value) (j0 : Int64) (j1 : Int64) (i2 : Int32) (i3 : Int32) (i4 : Int32) (t_TWO_PHASE_COMMIT : Addr) (t_PRIMARY_BACKUP : Addr) (h0 : Heap) (n0 : Nat) (v : Option Value) (h : Heap) (L : List Loc) : Prop := v = some (.int 1) ∧ Fr n0 L
set_option maxRecDepth 65536 in
set_option maxHeartbeats 40000000 in
theorem own_rm0 (l : Launch) (Z : State) (a0 : Array Value) (hw : ∀ d ∈ tables_1, d.before a0 Z = true) (ws : List Jvm.Cond) (j0 : Int64) (j1 : Int64) (i2 : Int32) (i3 : Int32) (i4 : Int32) (t_TWO_PHASE_COMMIT : Addr) (t_PRIMARY_BACKUP : Addr) (h0 : Heap) (n0 : Nat) (Z0 : n0 ≤ h0.size) (O0 : Old Z n0 h0) (S_TWO_PHASE_COMMIT : Sta Z Z.heap "com/example/tunegrid/tunegrid/Replication$Kind" "TWO_PHASE_COMMIT" "Lcom/example/tunegrid/tunegrid/Replication$Kind;" (.ref t_TWO_PHASE_COMMIT)) (S_PRIMARY_BACKUP : Sta Z Z.heap "com/example/tunegrid/tunegrid/Replication$Kind" "PRIMARY_BACKUP" "Lcom/example/tunegrid/tunegrid/Replication$Kind;" (.ref t_PRIMARY_BACKUP)) :
    MetFree l x (head1 (Jvm.Cond.code x code maxLocals ret :: ws) room_1) (fun a U => a = #[(.long j0), (.long j1), (.int i2), (.int i3), (.int i4)] ∧ Z.Warmed39 U.vm ∧ U.heap = h0) (fun _ _ _ _ _ => True) (fun _ U o U' => ∃ v L, o = .returned v ∧ own_Q0 Z a0 j0 j1 i2 i3 i4 t_TWO_PHASE_COMMIT t_PRIMARY_BACKUP h0 n0 v U'.heap L ∧ FrameEnd U o U' L room_1.cells room_1.slots) := by
  refine own_body (Q := fun v h L => own_Q0 Z a0 j0 j1 i2 i3 i4 t_TWO_PHASE_COMMIT t_PRIMARY_BACKUP h0 n0 v h L) (plainFor_of_name own_pn5) ?_
  intro p e s m below meth c s₁ hx hby hml hZ hown hnm hret hlk X0 e0
  replace hml : c.maxLocals = 21 := hml
  replace hown : s.vm.findClass "com/example/tunegrid/tunegrid/IntervalContentionPinLaw" = some m.cls := hown
  have N0 := Fr.nil n0
  have K0 : Keep h0 h0 [] := Keep.refl _ _
  refine own_st (fun t k => castTop (own_ef0 m j0 j1 i2 i3 i4) k) ?_
  show own_Run p e below s _ _ _ (s₁.setTop (mkF m 0 #[.val (.long j0), .second, .val (.long j1), .second, .val (.int i2), .val (.int i3), .val (.int i4), .unset, .unset, .unset, .unset, .unset, .unset, .unset, .unset, .unset, .unset, .unset, .unset, .unset, .unset] []))
  refine own_st (fun t k => XS.iload X0.here hx rfl (hb hby at_0) rfl k) ?_
  show own_Run p e below s _ _ _ (s₁.setTop (mkF m 2 #[.val (.long j0), .second, .val (.long j1), .second, .val (.int i2), .val (.int i3), .val (.int i4), .unset, .unset, .unset, .unset, .unset, .unset, .unset, .unset, .unset, .unset, .unset, .unset, .unset, .unset] [(.int i4)]))
  refine own_st (fun t k => XS.bipush X0.here hx rfl (hb hby at_2) k) ?_
  show own_Run p e below s _ _ _ (s₁.setTop (mkF m 4 #[.val (.long j0), .second, .val (.long j1), .second, .val (.int i2), .val (.int i3), .val (.int i4), .unset, .unset, .unset, .unset, .unset, .unset, .unset, .unset, .unset, .unset, .unset, .unset, .unset, .unset] [(.int (7 : Int32)), (.int i4)]))
  refine own_st (fun t k => XS.iand X0.here hx rfl (hb hby at_4) rfl k) ?_
  show own_Run p e below s _ _ _ (s₁.setTop (mkF m 5 #[.val (.long j0), .second, .val (.long j1), .second, .val (.int i2), .val (.int i3), .val (.int i4), .unset, .unset, .unset, .unset, .unset, .unset, .unset, .unset, .unset, .unset, .unset, .unset, .unset, .unset] [(.int (i4 &&& (7 : Int32)))]))
  refine own_st (fun t k => XS.istore X0.here hx rfl (hb hby at_5) rfl (l' := #[.val (.long j0), .second, .val (.long j1), .second, .val (.int i2), .val (.int i3), .val (.int i4), .val (.int (i4 &&& (7 : Int32))), .unset, .unset, .unset, .unset, .unset, .unset, .unset, .unset, .unset, .unset, .unset, .unset, .unset]) rfl k) ?_
  show own_Run p e below s _ _ _ (s₁.setTop (mkF m 7 #[.val (.long j0), .second, .val (.long j1), .second, .val (.int i2), .val (.int i3), .val (.int i4), .val (.int (i4 &&& (7 : Int32))), .unset, .unset, .unset, .unset, .unset, .unset, .unset, .unset, .unset, .unset, .unset, .unset, .unset] []))
  refine own_st (fun t k => XS.iload X0.here hx rfl (hb hby at_7) rfl k) ?_
  show own_Run p e below s _ _ _ (s₁.setTop (mkF m 9 #[.val (.long j0), .second, .val (.long j1), .second, .val (.int i2), .val (.int i3), .val (.int i4), .val (.int (i4 &&& (7 : Int32))), .unset, .unset, .unset, .unset, .unset, .unset, .unset, .unset, .unset, .unset, .unset, .unset, .unset] [(.int i4)]))
  refine own_st (fun t k => XS.bipush X0.here hx rfl (hb hby at_9) k) ?_
  show own_Run p e below s _ _ _ (s₁.setTop (mkF m 11 #[.val (.long j0), .second, .val (.long j1), .second, .val (.int i2), .val (.int i3), .val (.int i4), .val (.int (i4 &&& (7 : Int32))), .unset, .unset, .unset, .unset, .unset, .unset, .unset, .unset, .unset, .unset, .unset, .unset, .unset] [(.int (8 : Int32)), (.int i4)]))
  refine own_st (fun t k => XS.iand X0.here hx rfl (hb hby at_11) rfl k) ?_
  show own_Run p e below s _ _ _ (s₁.setTop (mkF m 12 #[.val (.long j0), .second, .val (.long j1), .second, .val (.int i2), .val (.int i3), .val (.int i4), .val (.int (i4 &&& (7 : Int32))), .unset, .unset, .unset, .unset, .unset, .unset, .unset, .unset, .unset, .unset, .unset, .unset, .unset] [(.int (i4 &&& (8 : Int32)))]))
  by_cases hc127 : (i4 &&& (8 : Int32)) = (0 : Int32)
  · skip
    refine own_st (fun t k => XS.ifYes X0.here hx rfl (pc0 := 12) (pc' := 21) rfl (hb hby at_12) rfl ((if0 _ _).trans (teq (hc127 : (i4 &&& (8 : Int32)) = (0 : Int32))).1) (by decide) (by decide) k) ?_
    show own_Run p e below s _ _ _ (s₁.setTop (mkF m 21 #[.val (.long j0), .second, .val (.long j1), .second, .val (.int i2), .val (.int i3), .val (.int i4), .val (.int (i4 &&& (7 : Int32))), .unset, .unset, .unset, .unset, .unset, .unset, .unset, .unset, .unset, .unset, .unset, .unset, .unset] []))
    obtain ⟨T128, X128, e128, st128⟩ := getS2 X0 hx hZ hown (host := "") (Or.inl (hw _ (List.mem_of_getElem? (i := 0) rfl))) Via.refl e0 (S_PRIMARY_BACKUP.ext O0.2) (g := (mkF m 21 #[.val (.long j0), .second, .val (.long j1), .second, .val (.int i2), .val (.int i3), .val (.int i4), .val (.int (i4 &&& (7 : Int32))), .unset, .unset, .unset, .unset, .unset, .unset, .unset, .unset, .unset, .unset, .unset, .unset, .unset] [])) rfl (hb hby at_21)
    refine own_st st128 ?_
    show own_Run p e below s _ _ _ (T128.setTop (mkF m 24 #[.val (.long j0), .second, .val (.long j1), .second, .val (.int i2), .val (.int i3), .val (.int i4), .val (.int (i4 &&& (7 : Int32))), .unset, .unset, .unset, .unset, .unset, .unset, .unset, .unset, .unset, .unset, .unset, .unset, .unset] [(.ref t_PRIMARY_BACKUP)]))
    refine own_st (fun t k => XS.astore X128.here hx rfl (hb hby at_24) rfl rfl (l' := #[.val (.long j0), .second, .val (.long j1), .second, .val (.int i2), .val (.int i3), .val (.int i4), .val (.int (i4 &&& (7 : Int32))), .val (.ref t_PRIMARY_BACKUP), .unset, .unset, .unset, .unset, .unset, .unset, .unset, .unset, .unset, .unset, .unset, .unset]) rfl k) ?_
    show own_Run p e below s _ _ _ (T128.setTop (mkF m 26 #[.val (.long j0), .second, .val (.long j1), .second, .val (.int i2), .val (.int i3), .val (.int i4), .val (.int (i4 &&& (7 : Int32))), .val (.ref t_PRIMARY_BACKUP), .unset, .unset, .unset, .unset, .unset, .unset, .unset, .unset, .unset, .unset, .unset, .unset] []))
    refine own_st (fun t k => XS.iload X128.here hx rfl (hb hby at_26) rfl k) ?_
    show own_Run p e below s _ _ _ (T128.setTop (mkF m 28 #[.val (.long j0), .second, .val (.long j1), .second, .val (.int i2), .val (.int i3), .val (.int i4), .val (.int (i4 &&& (7 : Int32))), .val (.ref t_PRIMARY_BACKUP), .unset, .unset, .unset, .unset, .unset, .unset, .unset, .unset, .unset, .unset, .unset, .unset] [(.int i4)]))
    refine own_st (fun t k => XS.bipush X128.here hx rfl (hb hby at_28) k) ?_
    show own_Run p e below s _ _ _ (T128.setTop (mkF m 30 #[.val (.long j0), .second, .val (.long j1), .second, .val (.int i2), .val (.int i3), .val (.int i4), .val (.int (i4 &&& (7 : Int32))), .val (.ref t_PRIMARY_BACKUP), .unset, .unset, .unset, .unset, .unset, .unset, .unset, .unset, .unset, .unset, .unset, .unset] [(.int (16 : Int32)), (.int i4)]))
    refine own_st (fun t k => XS.iand X128.here hx rfl (hb hby at_30) rfl k) ?_
    show own_Run p e below s _ _ _ (T128.setTop (mkF m 31 #[.val (.long j0), .second, .val (.long j1), .second, .val (.int i2), .val (.int i3), .val (.int i4), .val (.int (i4 &&& (7 : Int32))), .val (.ref t_PRIMARY_BACKUP), .unset, .unset, .unset, .unset, .unset, .unset, .unset, .unset, .unset, .unset, .unset, .unset] [(.int (i4 &&& (16 : Int32)))]))
    by_cases hc129 : (i4 &&& (16 : Int32)) = (0 : Int32)
    · skip
      refine own_st (fun t k => XS.ifYes X128.here hx rfl (pc0 := 31) (pc' := 38) rfl (hb hby at_31) rfl ((if0 _ _).trans (teq (hc129 : (i4 &&& (16 : Int32)) = (0 : Int32))).1) (by decide) (by decide) k) ?_
      show own_Run p e below s _ _ _ (T128.setTop (mkF m 38 #[.val (.long j0), .second, .val (.long j1), .second, .val (.int i2), .val (.int i3), .val (.int i4), .val (.int (i4 &&& (7 : Int32))), .val (.ref t_PRIMARY_BACKUP), .unset, .unset, .unset, .unset, .unset, .unset, .unset, .unset, .unset, .unset, .unset, .unset] []))
      refine own_st (fun t k => XS.iconst X128.here hx rfl (hb hby at_38) k) ?_
      show own_Run p e below s _ _ _ (T128.setTop (mkF m 39 #[.val (.long j0), .second, .val (.long j1), .second, .val (.int i2), .val (.int i3), .val (.int i4), .val (.int (i4 &&& (7 : Int32))), .val (.ref t_PRIMARY_BACKUP), .unset, .unset, .unset, .unset, .unset, .unset, .unset, .unset, .unset, .unset, .unset, .unset] [(.int (0 : Int32))]))
      refine own_st (fun t k => XS.istore X128.here hx rfl (hb hby at_39) rfl (l' := #[.val (.long j0), .second, .val (.long j1), .second, .val (.int i2), .val (.int i3), .val (.int i4), .val (.int (i4 &&& (7 : Int32))), .val (.ref t_PRIMARY_BACKUP), .val (.int (0 : Int32)), .unset, .unset, .unset, .unset, .unset, .unset, .unset, .unset, .unset, .unset, .unset]) rfl k) ?_
      show own_Run p e below s _ _ _ (T128.setTop (mkF m 41 #[.val (.long j0), .second, .val (.long j1), .second, .val (.int i2), .val (.int i3), .val (.int i4), .val (.int (i4 &&& (7 : Int32))), .val (.ref t_PRIMARY_BACKUP), .val (.int (0 : Int32)), .unset, .unset, .unset, .unset, .unset, .unset, .unset, .unset, .unset, .unset, .unset] []))
      refine own_st (fun t k => XS.iload X128.here hx rfl (hb hby at_41) rfl k) ?_
      show own_Run p e below s _ _ _ (T128.setTop (mkF m 43 #[.val (.long j0), .second, .val (.long j1), .second, .val (.int i2), .val (.int i3), .val (.int i4), .val (.int (i4 &&& (7 : Int32))), .val (.ref t_PRIMARY_BACKUP), .val (.int (0 : Int32)), .unset, .unset, .unset, .unset, .unset, .unset, .unset, .unset, .unset, .unset, .unset] [(.int i4)]))
      refine own_st (fun t k => XS.bipush X128.here hx rfl (hb hby at_43) k) ?_
      show own_Run p e below s _ _ _ (T128.setTop (mkF m 45 #[.val (.long j0), .second, .val (.long j1), .second, .val (.int i2), .val (.int i3), .val (.int i4), .val (.int (i4 &&& (7 : Int32))), .val (.ref t_PRIMARY_BACKUP), .val (.int (0 : Int32)), .unset, .unset, .unset, .unset, .unset, .unset, .unset, .unset, .unset, .unset, .unset] [(.int (32 : Int32)), (.int i4)]))
      refine own_st (fun t k => XS.iand X128.here hx rfl (hb hby at_45) rfl k) ?_
      show own_Run p e below s _ _ _ (T128.setTop (mkF m 46 #[.val (.long j0), .second, .val (.long j1), .second, .val (.int i2), .val (.int i3), .val (.int i4), .val (.int (i4 &&& (7 : Int32))), .val (.ref t_PRIMARY_BACKUP), .val (.int (0 : Int32)), .unset, .unset, .unset, .unset, .unset, .unset, .unset, .unset, .unset, .unset, .unset] [(.int (i4 &&& (32 : Int32)))]))
      by_cases hc130 : (i4 &&& (32 : Int32)) = (0 : Int32)
      · skip
        refine own_st (fun t k => XS.ifYes X128.here hx rfl (pc0 := 46) (pc' := 53) rfl (hb hby at_46) rfl ((if0 _ _).trans (teq (hc130 : (i4 &&& (32 : Int32)) = (0 : Int32))).1) (by decide) (by decide) k) ?_
        show own_Run p e below s _ _ _ (T128.setTop (mkF m 53 #[.val (.long j0), .second, .val (.long j1), .second, .val (.int i2), .val (.int i3), .val (.int i4), .val (.int (i4 &&& (7 : Int32))), .val (.ref t_PRIMARY_BACKUP), .val (.int (0 : Int32)), .unset, .unset, .unset, .unset, .unset, .unset, .unset, .unset, .unset, .unset, .unset] []))
        refine own_st (fun t k => XS.iconst X128.here hx rfl (hb hby at_53) k) ?_
        show own_Run p e below s _ _ _ (T128.setTop (mkF m 54 #[.val (.long j0), .second, .val (.long j1), .second, .val (.int i2), .val (.int i3), .val (.int i4), .val (.int (i4 &&& (7 : Int32))), .val (.ref t_PRIMARY_BACKUP), .val (.int (0 : Int32)), .unset, .unset, .unset, .unset, .unset, .unset, .unset, .unset, .unset, .unset, .unset] [(.int (0 : Int32))]))
        refine own_st (fun t k => XS.istore X128.here hx rfl (hb hby at_54) rfl (l' := #[.val (.long j0), .second, .val (.long j1), .second, .val (.int i2), .val (.int i3), .val (.int i4), .val (.int (i4 &&& (7 : Int32))), .val (.ref t_PRIMARY_BACKUP), .val (.int (0 : Int32)), .val (.int (0 : Int32)), .unset, .unset, .unset, .unset, .unset, .unset, .unset, .unset, .unset, .unset]) rfl k) ?_
        show own_Run p e below s _ _ _ (T128.setTop (mkF m 56 #[.val (.long j0), .second, .val (.long j1), .second, .val (.int i2), .val (.int i3), .val (.int i4), .val (.int (i4 &&& (7 : Int32))), .val (.ref t_PRIMARY_BACKUP), .val (.int (0 : Int32)), .val (.int (0 : Int32)), .unset, .unset, .unset, .unset, .unset, .unset, .unset, .unset, .unset, .unset] []))
        refine own_st (fun t k => XS.iload X128.here hx rfl (hb hby at_56) rfl k) ?_
        show own_Run p e below s _ _ _ (T128.setTop (mkF m 58 #[.val (.long j0), .second, .val (.long j1), .second, .val (.int i2), .val (.int i3), .val (.int i4), .val (.int (i4 &&& (7 : Int32))), .val (.ref t_PRIMARY_BACKUP), .val (.int (0 : Int32)), .val (.int (0 : Int32)), .unset, .unset, .unset, .unset, .unset, .unset, .unset, .unset, .unset, .unset] [(.int (0 : Int32))]))
        refine own_st (fun t k => XS.iload X128.here hx rfl (hb hby at_58) rfl k) ?_
        show own_Run p e below s _ _ _ (T128.setTop (mkF m 60 #[.val (.long j0), .second, .val (.long j1), .second, .val (.int i2), .val (.int i3), .val (.int i4), .val (.int (i4 &&& (7 : Int32))), .val (.ref t_PRIMARY_BACKUP), .val (.int (0 : Int32)), .val (.int (0 : Int32)), .unset, .unset, .unset, .unset, .unset, .unset, .unset, .unset, .unset, .unset] [(.int (0 : Int32)), (.int (0 : Int32))]))
        refine own_st (fun t k => XS.icmpYes X128.here hx rfl (pc0 := 60) (pc' := 67) rfl (hb hby at_60) rfl (teq (by decide : (0 : Int32) = (0 : Int32))).1 (by decide) (by decide) k) ?_
        show own_Run p e below s _ _ _ (T128.setTop (mkF m 67 #[.val (.long j0), .second, .val (.long j1), .second, .val (.int i2), .val (.int i3), .val (.int i4), .val (.int (i4 &&& (7 : Int32))), .val (.ref t_PRIMARY_BACKUP), .val (.int (0 : Int32)), .val (.int (0 : Int32)), .unset, .unset, .unset, .unset, .unset, .unset, .unset, .unset, .unset, .unset] []))
        refine own_st (fun t k => XS.iconst X128.here hx rfl (hb hby at_67) k) ?_
        show own_Run p e below s _ _ _ (T128.setTop (mkF m 68 #[.val (.long j0), .second, .val (.long j1), .second, .val (.int i2), .val (.int i3), .val (.int i4), .val (.int (i4 &&& (7 : Int32))), .val (.ref t_PRIMARY_BACKUP), .val (.int (0 : Int32)), .val (.int (0 : Int32)), .unset, .unset, .unset, .unset, .unset, .unset, .unset, .unset, .unset, .unset] [(.int (0 : Int32))]))
        refine own_st (fun t k => XS.istore X128.here hx rfl (hb hby at_68) rfl (l' := #[.val (.long j0), .second, .val (.long j1), .second, .val (.int i2), .val (.int i3), .val (.int i4), .val (.int (i4 &&& (7 : Int32))), .val (.ref t_PRIMARY_BACKUP), .val (.int (0 : Int32)), .val (.int (0 : Int32)), .val (.int (0 : Int32)), .unset, .unset, .unset, .unset, .unset, .unset, .unset, .unset, .unset]) rfl k) ?_
        show own_Run p e below s _ _ _ (T128.setTop (mkF m 70 #[.val (.long j0), .second, .val (.long j1), .second, .val (.int i2), .val (.int i3), .val (.int i4), .val (.int (i4 &&& (7 : Int32))), .val (.ref t_PRIMARY_BACKUP), .val (.int (0 : Int32)), .val (.int (0 : Int32)), .val (.int (0 : Int32)), .unset, .unset, .unset, .unset, .unset, .unset, .unset, .unset, .unset] []))
        refine own_st (fun t k => XS.iload X128.here hx rfl (hb hby at_70) rfl k) ?_
        show own_Run p e below s _ _ _ (T128.setTop (mkF m 72 #[.val (.long j0), .second, .val (.long j1), .second, .val (.int i2), .val (.int i3), .val (.int i4), .val (.int (i4 &&& (7 : Int32))), .val (.ref t_PRIMARY_BACKUP), .val (.int (0 : Int32)), .val (.int (0 : Int32)), .val (.int (0 : Int32)), .unset, .unset, .unset, .unset, .unset, .unset, .unset, .unset, .unset] [(.int i3)]))
        refine own_st (X128.ldcInt hx hown (mvT hZ (hw _ (List.mem_of_getElem? (i := 3) rfl))) (g := (mkF m 72 #[.val (.long j0), .second, .val (.long j1), .second, .val (.int i2), .val (.int i3), .val (.int i4), .val (.int (i4 &&& (7 : Int32))), .val (.ref t_PRIMARY_BACKUP), .val (.int (0 : Int32)), .val (.int (0 : Int32)), .val (.int (0 : Int32)), .unset, .unset, .unset, .unset, .unset, .unset, .unset, .unset, .unset] [(.int i3)])) rfl (hb hby at_72)) ?_
        show own_Run p e below s _ _ _ (T128.setTop (mkF m 74 #[.val (.long j0), .second, .val (.long j1), .second, .val (.int i2), .val (.int i3), .val (.int i4), .val (.int (i4 &&& (7 : Int32))), .val (.ref t_PRIMARY_BACKUP), .val (.int (0 : Int32)), .val (.int (0 : Int32)), .val (.int (0 : Int32)), .unset, .unset, .unset, .unset, .unset, .unset, .unset, .unset, .unset] [(.int (1048576 : Int32)), (.int i3)]))
        refine own_st (fun t k => iremM X128 hx rfl (hb hby at_74) rfl (by decide) k) ?_
        show own_Run p e below s _ _ _ (T128.setTop (mkF m 75 #[.val (.long j0), .second, .val (.long j1), .second, .val (.int i2), .val (.int i3), .val (.int i4), .val (.int (i4 &&& (7 : Int32))), .val (.ref t_PRIMARY_BACKUP), .val (.int (0 : Int32)), .val (.int (0 : Int32)), .val (.int (0 : Int32)), .unset, .unset, .unset, .unset, .unset, .unset, .unset, .unset, .unset] [(.int (i3 % (1048576 : Int32)))]))
        obtain ⟨qv, h_qv⟩ : ∃ z, ((i3 % (1048576 : Int32)) : Int32) = z := ⟨_, rfl⟩
        refine own_topI h_qv ?_
        show own_Run p e below s _ _ _ (T128.setTop (mkF m 75 #[.val (.long j0), .second, .val (.long j1), .second, .val (.int i2), .val (.int i3), .val (.int i4), .val (.int (i4 &&& (7 : Int32))), .val (.ref t_PRIMARY_BACKUP), .val (.int (0 : Int32)), .val (.int (0 : Int32)), .val (.int (0 : Int32)), .unset, .unset, .unset, .unset, .unset, .unset, .unset, .unset, .unset] [(.int qv)]))
        have hq : qv.toInt.natAbs ≤ 1048575 := h_qv ▸ own_q20 i3
        refine own_st (fun t k => XS.istore X128.here hx rfl (hb hby at_75) rfl (l' := #[.val (.long j0), .second, .val (.long j1), .second, .val (.int i2), .val (.int i3), .val (.int i4), .val (.int (i4 &&& (7 : Int32))), .val (.ref t_PRIMARY_BACKUP), .val (.int (0 : Int32)), .val (.int (0 : Int32)), .val (.int (0 : Int32)), .val (.int qv), .unset, .unset, .unset, .unset, .unset, .unset, .unset, .unset]) rfl k) ?_
        show own_Run p e below s _ _ _ (T128.setTop (mkF m 77 #[.val (.long j0), .second, .val (.long j1), .second, .val (.int i2), .val (.int i3), .val (.int i4), .val (.int (i4 &&& (7 : Int32))), .val (.ref t_PRIMARY_BACKUP), .val (.int (0 : Int32)), .val (.int (0 : Int32)), .val (.int (0 : Int32)), .val (.int qv), .unset, .unset, .unset, .unset, .unset, .unset, .unset, .unset] []))
        exact own_tail l Z a0 hw T128 _ hx hby hml hZ hown hnm hret hlk j0 j1 i2 i3 i4 (i4 &&& (7 : Int32)) t_PRIMARY_BACKUP (0 : Int32) (0 : Int32) (0 : Int32) qv h0 n0 Z0 _ (X128.more (by decide) (by decide)) e128 N0 K0 O0 (hq) (by decide) (by decide) (by decide)
      · skip
        refine own_st (fun t k => XS.ifNo X128.here hx rfl (hb hby at_46) rfl ((if0 _ _).trans (feq (hc130 : ¬ ((i4 &&& (32 : Int32)) = (0 : Int32)))).1) k) ?_
        show own_Run p e below s _ _ _ (T128.setTop (mkF m 49 #[.val (.long j0), .second, .val (.long j1), .second, .val (.int i2), .val (.int i3), .val (.int i4), .val (.int (i4 &&& (7 : Int32))), .val (.ref t_PRIMARY_BACKUP), .val (.int (0 : Int32)), .unset, .unset, .unset, .unset, .unset, .unset, .unset, .unset, .unset, .unset, .unset] []))
        refine own_st (fun t k => XS.iconst X128.here hx rfl (hb hby at_49) k) ?_
        show own_Run p e below s _ _ _ (T128.setTop (mkF m 50 #[.val (.long j0), .second, .val (.long j1), .second, .val (.int i2), .val (.int i3), .val (.int i4), .val (.int (i4 &&& (7 : Int32))), .val (.ref t_PRIMARY_BACKUP), .val (.int (0 : Int32)), .unset, .unset, .unset, .unset, .unset, .unset, .unset, .unset, .unset, .unset, .unset] [(.int (1 : Int32))]))
        refine own_st (fun t k => XS.goto X128.here hx rfl (pc0 := 50) (pc' := 54) rfl (hb hby at_50) (by decide) (by decide) k) ?_
        show own_Run p e below s _ _ _ (T128.setTop (mkF m 54 #[.val (.long j0), .second, .val (.long j1), .second, .val (.int i2), .val (.int i3), .val (.int i4), .val (.int (i4 &&& (7 : Int32))), .val (.ref t_PRIMARY_BACKUP), .val (.int (0 : Int32)), .unset, .unset, .unset, .unset, .unset, .unset, .unset, .unset, .unset, .unset, .unset] [(.int (1 : Int32))]))
        refine own_st (fun t k => XS.istore X128.here hx rfl (hb hby at_54) rfl (l' := #[.val (.long j0), .second, .val (.long j1), .second, .val (.int i2), .val (.int i3), .val (.int i4), .val (.int (i4 &&& (7 : Int32))), .val (.ref t_PRIMARY_BACKUP), .val (.int (0 : Int32)), .val (.int (1 : Int32)), .unset, .unset, .unset, .unset, .unset, .unset, .unset, .unset, .unset, .unset]) rfl k) ?_
        show own_Run p e below s _ _ _ (T128.setTop (mkF m 56 #[.val (.long j0), .second, .val (.long j1), .second, .val (.int i2), .val (.int i3), .val (.int i4), .val (.int (i4 &&& (7 : Int32))), .val (.ref t_PRIMARY_BACKUP), .val (.int (0 : Int32)), .val (.int (1 : Int32)), .unset, .unset, .unset, .unset, .unset, .unset, .unset, .unset, .unset, .unset] []))
        refine own_st (fun t k => XS.iload X128.here hx rfl (hb hby at_56) rfl k) ?_
        show own_Run p e below s _ _ _ (T128.setTop (mkF m 58 #[.val (.long j0), .second, .val (.long j1), .second, .val (.int i2), .val (.int i3), .val (.int i4), .val (.int (i4 &&& (7 : Int32))), .val (.ref t_PRIMARY_BACKUP), .val (.int (0 : Int32)), .val (.int (1 : Int32)), .unset, .unset, .unset, .unset, .unset, .unset, .unset, .unset, .unset, .unset] [(.int (0 : Int32))]))
        refine own_st (fun t k => XS.iload X128.here hx rfl (hb hby at_58) rfl k) ?_
        show own_Run p e below s _ _ _ (T128.setTop (mkF m 60 #[.val (.long j0), .second, .val (.long j1), .second, .val (.int i2), .val (.int i3), .val (.int i4), .val (.int (i4 &&& (7 : Int32))), .val (.ref t_PRIMARY_BACKUP), .val (.int (0 : Int32)), .val (.int (1 : Int32)), .unset, .unset, .unset, .unset, .unset, .unset, .unset, .unset, .unset, .unset] [(.int (1 : Int32)), (.int (0 : Int32))]))
        refine own_st (fun t k => XS.icmpNo X128.here hx rfl (hb hby at_60) rfl (feq (by decide : ¬ ((0 : Int32) = (1 : Int32)))).1 k) ?_
        show own_Run p e below s _ _ _ (T128.setTop (mkF m 63 #[.val (.long j0), .second, .val (.long j1), .second, .val (.int i2), .val (.int i3), .val (.int i4), .val (.int (i4 &&& (7 : Int32))), .val (.ref t_PRIMARY_BACKUP), .val (.int (0 : Int32)), .val (.int (1 : Int32)), .unset, .unset, .unset, .unset, .unset, .unset, .unset, .unset, .unset, .unset] []))
        refine own_st (fun t k => XS.iconst X128.here hx rfl (hb hby at_63) k) ?_
        show own_Run p e below s _ _ _ (T128.setTop (mkF m 64 #[.val (.long j0), .second, .val (.long j1), .second, .val (.int i2), .val (.int i3), .val (.int i4), .val (.int (i4 &&& (7 : Int32))), .val (.ref t_PRIMARY_BACKUP), .val (.int (0 : Int32)), .val (.int (1 : Int32)), .unset, .unset, .unset, .unset, .unset, .unset, .unset, .unset, .unset, .unset] [(.int (1 : Int32))]))
        refine own_st (fun t k => XS.goto X128.here hx rfl (pc0 := 64) (pc' := 68) rfl (hb hby at_64) (by decide) (by decide) k) ?_
        show own_Run p e below s _ _ _ (T128.setTop (mkF m 68 #[.val (.long j0), .second, .val (.long j1), .second, .val (.int i2), .val (.int i3), .val (.int i4), .val (.int (i4 &&& (7 : Int32))), .val (.ref t_PRIMARY_BACKUP), .val (.int (0 : Int32)), .val (.int (1 : Int32)), .unset, .unset, .unset, .unset, .unset, .unset, .unset, .unset, .unset, .unset] [(.int (1 : Int32))]))
        refine own_st (fun t k => XS.istore X128.here hx rfl (hb hby at_68) rfl (l' := #[.val (.long j0), .second, .val (.long j1), .second, .val (.int i2), .val (.int i3), .val (.int i4), .val (.int (i4 &&& (7 : Int32))), .val (.ref t_PRIMARY_BACKUP), .val (.int (0 : Int32)), .val (.int (1 : Int32)), .val (.int (1 : Int32)), .unset, .unset, .unset, .unset, .unset, .unset, .unset, .unset, .unset]) rfl k) ?_
        show own_Run p e below s _ _ _ (T128.setTop (mkF m 70 #[.val (.long j0), .second, .val (.long j1), .second, .val (.int i2), .val (.int i3), .val (.int i4), .val (.int (i4 &&& (7 : Int32))), .val (.ref t_PRIMARY_BACKUP), .val (.int (0 : Int32)), .val (.int (1 : Int32)), .val (.int (1 : Int32)), .unset, .unset, .unset, .unset, .unset, .unset, .unset, .unset, .unset] []))
        refine own_st (fun t k => XS.iload X128.here hx rfl (hb hby at_70) rfl k) ?_
        show own_Run p e below s _ _ _ (T128.setTop (mkF m 72 #[.val (.long j0), .second, .val (.long j1), .second, .val (.int i2), .val (.int i3), .val (.int i4), .val (.int (i4 &&& (7 : Int32))), .val (.ref t_PRIMARY_BACKUP), .val (.int (0 : Int32)), .val (.int (1 : Int32)), .val (.int (1 : Int32)), .unset, .unset, .unset, .unset, .unset, .unset, .unset, .unset, .unset] [(.int i3)]))
        refine own_st (X128.ldcInt hx hown (mvT hZ (hw _ (List.mem_of_getElem? (i := 3) rfl))) (g := (mkF m 72 #[.val (.long j0), .second, .val (.long j1), .second, .val (.int i2), .val (.int i3), .val (.int i4), .val (.int (i4 &&& (7 : Int32))), .val (.ref t_PRIMARY_BACKUP), .val (.int (0 : Int32)), .val (.int (1 : Int32)), .val (.int (1 : Int32)), .unset, .unset, .unset, .unset, .unset, .unset, .unset, .unset, .unset] [(.int i3)])) rfl (hb hby at_72)) ?_
        show own_Run p e below s _ _ _ (T128.setTop (mkF m 74 #[.val (.long j0), .second, .val (.long j1), .second, .val (.int i2), .val (.int i3), .val (.int i4), .val (.int (i4 &&& (7 : Int32))), .val (.ref t_PRIMARY_BACKUP), .val (.int (0 : Int32)), .val (.int (1 : Int32)), .val (.int (1 : Int32)), .unset, .unset, .unset, .unset, .unset, .unset, .unset, .unset, .unset] [(.int (1048576 : Int32)), (.int i3)]))
        refine own_st (fun t k => iremM X128 hx rfl (hb hby at_74) rfl (by decide) k) ?_
        show own_Run p e below s _ _ _ (T128.setTop (mkF m 75 #[.val (.long j0), .second, .val (.long j1), .second, .val (.int i2), .val (.int i3), .val (.int i4), .val (.int (i4 &&& (7 : Int32))), .val (.ref t_PRIMARY_BACKUP), .val (.int (0 : Int32)), .val (.int (1 : Int32)), .val (.int (1 : Int32)), .unset, .unset, .unset, .unset, .unset, .unset, .unset, .unset, .unset] [(.int (i3 % (1048576 : Int32)))]))
        obtain ⟨qv, h_qv⟩ : ∃ z, ((i3 % (1048576 : Int32)) : Int32) = z := ⟨_, rfl⟩
        refine own_topI h_qv ?_
        show own_Run p e below s _ _ _ (T128.setTop (mkF m 75 #[.val (.long j0), .second, .val (.long j1), .second, .val (.int i2), .val (.int i3), .val (.int i4), .val (.int (i4 &&& (7 : Int32))), .val (.ref t_PRIMARY_BACKUP), .val (.int (0 : Int32)), .val (.int (1 : Int32)), .val (.int (1 : Int32)), .unset, .unset, .unset, .unset, .unset, .unset, .unset, .unset, .unset] [(.int qv)]))
        have hq : qv.toInt.natAbs ≤ 1048575 := h_qv ▸ own_q20 i3
        refine own_st (fun t k => XS.istore X128.here hx rfl (hb hby at_75) rfl (l' := #[.val (.long j0), .second, .val (.long j1), .second, .val (.int i2), .val (.int i3), .val (.int i4), .val (.int (i4 &&& (7 : Int32))), .val (.ref t_PRIMARY_BACKUP), .val (.int (0 : Int32)), .val (.int (1 : Int32)), .val (.int (1 : Int32)), .val (.int qv), .unset, .unset, .unset, .unset, .unset, .unset, .unset, .unset]) rfl k) ?_
        show own_Run p e below s _ _ _ (T128.setTop (mkF m 77 #[.val (.long j0), .second, .val (.long j1), .second, .val (.int i2), .val (.int i3), .val (.int i4), .val (.int (i4 &&& (7 : Int32))), .val (.ref t_PRIMARY_BACKUP), .val (.int (0 : Int32)), .val (.int (1 : Int32)), .val (.int (1 : Int32)), .val (.int qv), .unset, .unset, .unset, .unset, .unset, .unset, .unset, .unset] []))
        exact own_tail l Z a0 hw T128 _ hx hby hml hZ hown hnm hret hlk j0 j1 i2 i3 i4 (i4 &&& (7 : Int32)) t_PRIMARY_BACKUP (0 : Int32) (1 : Int32) (1 : Int32) qv h0 n0 Z0 _ (X128.more (by decide) (by decide)) e128 N0 K0 O0 (hq) (by decide) (by decide) (by decide)
    · skip
      refine own_st (fun t k => XS.ifNo X128.here hx rfl (hb hby at_31) rfl ((if0 _ _).trans (feq (hc129 : ¬ ((i4 &&& (16 : Int32)) = (0 : Int32)))).1) k) ?_
      show own_Run p e below s _ _ _ (T128.setTop (mkF m 34 #[.val (.long j0), .second, .val (.long j1), .second, .val (.int i2), .val (.int i3), .val (.int i4), .val (.int (i4 &&& (7 : Int32))), .val (.ref t_PRIMARY_BACKUP), .unset, .unset, .unset, .unset, .unset, .unset, .unset, .unset, .unset, .unset, .unset, .unset] []))
      refine own_st (fun t k => XS.iconst X128.here hx rfl (hb hby at_34) k) ?_
      show own_Run p e below s _ _ _ (T128.setTop (mkF m 35 #[.val (.long j0), .second, .val (.long j1), .second, .val (.int i2), .val (.int i3), .val (.int i4), .val (.int (i4 &&& (7 : Int32))), .val (.ref t_PRIMARY_BACKUP), .unset, .unset, .unset, .unset, .unset, .unset, .unset, .unset, .unset, .unset, .unset, .unset] [(.int (1 : Int32))]))
      refine own_st (fun t k => XS.goto X128.here hx rfl (pc0 := 35) (pc' := 39) rfl (hb hby at_35) (by decide) (by decide) k) ?_
      show own_Run p e below s _ _ _ (T128.setTop (mkF m 39 #[.val (.long j0), .second, .val (.long j1), .second, .val (.int i2), .val (.int i3), .val (.int i4), .val (.int (i4 &&& (7 : Int32))), .val (.ref t_PRIMARY_BACKUP), .unset, .unset, .unset, .unset, .unset, .unset, .unset, .unset, .unset, .unset, .unset, .unset] [(.int (1 : Int32))]))
      refine own_st (fun t k => XS.istore X128.here hx rfl (hb hby at_39) rfl (l' := #[.val (.long j0), .second, .val (.long j1), .second, .val (.int i2), .val (.int i3), .val (.int i4), .val (.int (i4 &&& (7 : Int32))), .val (.ref t_PRIMARY_BACKUP), .val (.int (1 : Int32)), .unset, .unset, .unset, .unset, .unset, .unset, .unset, .unset, .unset, .unset, .unset]) rfl k) ?_
      show own_Run p e below s _ _ _ (T128.setTop (mkF m 41 #[.val (.long j0), .second, .val (.long j1), .second, .val (.int i2), .val (.int i3), .val (.int i4), .val (.int (i4 &&& (7 : Int32))), .val (.ref t_PRIMARY_BACKUP), .val (.int (1 : Int32)), .unset, .unset, .unset, .unset, .unset, .unset, .unset, .unset, .unset, .unset, .unset] []))
      refine own_st (fun t k => XS.iload X128.here hx rfl (hb hby at_41) rfl k) ?_
      show own_Run p e below s _ _ _ (T128.setTop (mkF m 43 #[.val (.long j0), .second, .val (.long j1), .second, .val (.int i2), .val (.int i3), .val (.int i4), .val (.int (i4 &&& (7 : Int32))), .val (.ref t_PRIMARY_BACKUP), .val (.int (1 : Int32)), .unset, .unset, .unset, .unset, .unset, .unset, .unset, .unset, .unset, .unset, .unset] [(.int i4)]))
      refine own_st (fun t k => XS.bipush X128.here hx rfl (hb hby at_43) k) ?_
      show own_Run p e below s _ _ _ (T128.setTop (mkF m 45 #[.val (.long j0), .second, .val (.long j1), .second, .val (.int i2), .val (.int i3), .val (.int i4), .val (.int (i4 &&& (7 : Int32))), .val (.ref t_PRIMARY_BACKUP), .val (.int (1 : Int32)), .unset, .unset, .unset, .unset, .unset, .unset, .unset, .unset, .unset, .unset, .unset] [(.int (32 : Int32)), (.int i4)]))
      refine own_st (fun t k => XS.iand X128.here hx rfl (hb hby at_45) rfl k) ?_
      show own_Run p e below s _ _ _ (T128.setTop (mkF m 46 #[.val (.long j0), .second, .val (.long j1), .second, .val (.int i2), .val (.int i3), .val (.int i4), .val (.int (i4 &&& (7 : Int32))), .val (.ref t_PRIMARY_BACKUP), .val (.int (1 : Int32)), .unset, .unset, .unset, .unset, .unset, .unset, .unset, .unset, .unset, .unset, .unset] [(.int (i4 &&& (32 : Int32)))]))
      by_cases hc131 : (i4 &&& (32 : Int32)) = (0 : Int32)
      · skip
        refine own_st (fun t k => XS.ifYes X128.here hx rfl (pc0 := 46) (pc' := 53) rfl (hb hby at_46) rfl ((if0 _ _).trans (teq (hc131 : (i4 &&& (32 : Int32)) = (0 : Int32))).1) (by decide) (by decide) k) ?_
        show own_Run p e below s _ _ _ (T128.setTop (mkF m 53 #[.val (.long j0), .second, .val (.long j1), .second, .val (.int i2), .val (.int i3), .val (.int i4), .val (.int (i4 &&& (7 : Int32))), .val (.ref t_PRIMARY_BACKUP), .val (.int (1 : Int32)), .unset, .unset, .unset, .unset, .unset, .unset, .unset, .unset, .unset, .unset, .unset] []))
        refine own_st (fun t k => XS.iconst X128.here hx rfl (hb hby at_53) k) ?_
        show own_Run p e below s _ _ _ (T128.setTop (mkF m 54 #[.val (.long j0), .second, .val (.long j1), .second, .val (.int i2), .val (.int i3), .val (.int i4), .val (.int (i4 &&& (7 : Int32))), .val (.ref t_PRIMARY_BACKUP), .val (.int (1 : Int32)), .unset, .unset, .unset, .unset, .unset, .unset, .unset, .unset, .unset, .unset, .unset] [(.int (0 : Int32))]))
        refine own_st (fun t k => XS.istore X128.here hx rfl (hb hby at_54) rfl (l' := #[.val (.long j0), .second, .val (.long j1), .second, .val (.int i2), .val (.int i3), .val (.int i4), .val (.int (i4 &&& (7 : Int32))), .val (.ref t_PRIMARY_BACKUP), .val (.int (1 : Int32)), .val (.int (0 : Int32)), .unset, .unset, .unset, .unset, .unset, .unset, .unset, .unset, .unset, .unset]) rfl k) ?_
        show own_Run p e below s _ _ _ (T128.setTop (mkF m 56 #[.val (.long j0), .second, .val (.long j1), .second, .val (.int i2), .val (.int i3), .val (.int i4), .val (.int (i4 &&& (7 : Int32))), .val (.ref t_PRIMARY_BACKUP), .val (.int (1 : Int32)), .val (.int (0 : Int32)), .unset, .unset, .unset, .unset, .unset, .unset, .unset, .unset, .unset, .unset] []))
        refine own_st (fun t k => XS.iload X128.here hx rfl (hb hby at_56) rfl k) ?_
        show own_Run p e below s _ _ _ (T128.setTop (mkF m 58 #[.val (.long j0), .second, .val (.long j1), .second, .val (.int i2), .val (.int i3), .val (.int i4), .val (.int (i4 &&& (7 : Int32))), .val (.ref t_PRIMARY_BACKUP), .val (.int (1 : Int32)), .val (.int (0 : Int32)), .unset, .unset, .unset, .unset, .unset, .unset, .unset, .unset, .unset, .unset] [(.int (1 : Int32))]))
        refine own_st (fun t k => XS.iload X128.here hx rfl (hb hby at_58) rfl k) ?_
        show own_Run p e below s _ _ _ (T128.setTop (mkF m 60 #[.val (.long j0), .second, .val (.long j1), .second, .val (.int i2), .val (.int i3), .val (.int i4), .val (.int (i4 &&& (7 : Int32))), .val (.ref t_PRIMARY_BACKUP), .val (.int (1 : Int32)), .val (.int (0 : Int32)), .unset, .unset, .unset, .unset, .unset, .unset, .unset, .unset, .unset, .unset] [(.int (0 : Int32)), (.int (1 : Int32))]))
        refine own_st (fun t k => XS.icmpNo X128.here hx rfl (hb hby at_60) rfl (feq (by decide : ¬ ((1 : Int32) = (0 : Int32)))).1 k) ?_
        show own_Run p e below s _ _ _ (T128.setTop (mkF m 63 #[.val (.long j0), .second, .val (.long j1), .second, .val (.int i2), .val (.int i3), .val (.int i4), .val (.int (i4 &&& (7 : Int32))), .val (.ref t_PRIMARY_BACKUP), .val (.int (1 : Int32)), .val (.int (0 : Int32)), .unset, .unset, .unset, .unset, .unset, .unset, .unset, .unset, .unset, .unset] []))
        refine own_st (fun t k => XS.iconst X128.here hx rfl (hb hby at_63) k) ?_
        show own_Run p e below s _ _ _ (T128.setTop (mkF m 64 #[.val (.long j0), .second, .val (.long j1), .second, .val (.int i2), .val (.int i3), .val (.int i4), .val (.int (i4 &&& (7 : Int32))), .val (.ref t_PRIMARY_BACKUP), .val (.int (1 : Int32)), .val (.int (0 : Int32)), .unset, .unset, .unset, .unset, .unset, .unset, .unset, .unset, .unset, .unset] [(.int (1 : Int32))]))
        refine own_st (fun t k => XS.goto X128.here hx rfl (pc0 := 64) (pc' := 68) rfl (hb hby at_64) (by decide) (by decide) k) ?_
        show own_Run p e below s _ _ _ (T128.setTop (mkF m 68 #[.val (.long j0), .second, .val (.long j1), .second, .val (.int i2), .val (.int i3), .val (.int i4), .val (.int (i4 &&& (7 : Int32))), .val (.ref t_PRIMARY_BACKUP), .val (.int (1 : Int32)), .val (.int (0 : Int32)), .unset, .unset, .unset, .unset, .unset, .unset, .unset, .unset, .unset, .unset] [(.int (1 : Int32))]))
        refine own_st (fun t k => XS.istore X128.here hx rfl (hb hby at_68) rfl (l' := #[.val (.long j0), .second, .val (.long j1), .second, .val (.int i2), .val (.int i3), .val (.int i4), .val (.int (i4 &&& (7 : Int32))), .val (.ref t_PRIMARY_BACKUP), .val (.int (1 : Int32)), .val (.int (0 : Int32)), .val (.int (1 : Int32)), .unset, .unset, .unset, .unset, .unset, .unset, .unset, .unset, .unset]) rfl k) ?_
        show own_Run p e below s _ _ _ (T128.setTop (mkF m 70 #[.val (.long j0), .second, .val (.long j1), .second, .val (.int i2), .val (.int i3), .val (.int i4), .val (.int (i4 &&& (7 : Int32))), .val (.ref t_PRIMARY_BACKUP), .val (.int (1 : Int32)), .val (.int (0 : Int32)), .val (.int (1 : Int32)), .unset, .unset, .unset, .unset, .unset, .unset, .unset, .unset, .unset] []))
        refine own_st (fun t k => XS.iload X128.here hx rfl (hb hby at_70) rfl k) ?_
        show own_Run p e below s _ _ _ (T128.setTop (mkF m 72 #[.val (.long j0), .second, .val (.long j1), .second, .val (.int i2), .val (.int i3), .val (.int i4), .val (.int (i4 &&& (7 : Int32))), .val (.ref t_PRIMARY_BACKUP), .val (.int (1 : Int32)), .val (.int (0 : Int32)), .val (.int (1 : Int32)), .unset, .unset, .unset, .unset, .unset, .unset, .unset, .unset, .unset] [(.int i3)]))
        refine own_st (X128.ldcInt hx hown (mvT hZ (hw _ (List.mem_of_getElem? (i := 3) rfl))) (g := (mkF m 72 #[.val (.long j0), .second, .val (.long j1), .second, .val (.int i2), .val (.int i3), .val (.int i4), .val (.int (i4 &&& (7 : Int32))), .val (.ref t_PRIMARY_BACKUP), .val (.int (1 : Int32)), .val (.int (0 : Int32)), .val (.int (1 : Int32)), .unset, .unset, .unset, .unset, .unset, .unset, .unset, .unset, .unset] [(.int i3)])) rfl (hb hby at_72)) ?_
        show own_Run p e below s _ _ _ (T128.setTop (mkF m 74 #[.val (.long j0), .second, .val (.long j1), .second, .val (.int i2), .val (.int i3), .val (.int i4), .val (.int (i4 &&& (7 : Int32))), .val (.ref t_PRIMARY_BACKUP), .val (.int (1 : Int32)), .val (.int (0 : Int32)), .val (.int (1 : Int32)), .unset, .unset, .unset, .unset, .unset, .unset, .unset, .unset, .unset] [(.int (1048576 : Int32)), (.int i3)]))
        refine own_st (fun t k => iremM X128 hx rfl (hb hby at_74) rfl (by decide) k) ?_
        show own_Run p e below s _ _ _ (T128.setTop (mkF m 75 #[.val (.long j0), .second, .val (.long j1), .second, .val (.int i2), .val (.int i3), .val (.int i4), .val (.int (i4 &&& (7 : Int32))), .val (.ref t_PRIMARY_BACKUP), .val (.int (1 : Int32)), .val (.int (0 : Int32)), .val (.int (1 : Int32)), .unset, .unset, .unset, .unset, .unset, .unset, .unset, .unset, .unset] [(.int (i3 % (1048576 : Int32)))]))
        obtain ⟨qv, h_qv⟩ : ∃ z, ((i3 % (1048576 : Int32)) : Int32) = z := ⟨_, rfl⟩
        refine own_topI h_qv ?_
        show own_Run p e below s _ _ _ (T128.setTop (mkF m 75 #[.val (.long j0), .second, .val (.long j1), .second, .val (.int i2), .val (.int i3), .val (.int i4), .val (.int (i4 &&& (7 : Int32))), .val (.ref t_PRIMARY_BACKUP), .val (.int (1 : Int32)), .val (.int (0 : Int32)), .val (.int (1 : Int32)), .unset, .unset, .unset, .unset, .unset, .unset, .unset, .unset, .unset] [(.int qv)]))
        have hq : qv.toInt.natAbs ≤ 1048575 := h_qv ▸ own_q20 i3
        refine own_st (fun t k => XS.istore X128.here hx rfl (hb hby at_75) rfl (l' := #[.val (.long j0), .second, .val (.long j1), .second, .val (.int i2), .val (.int i3), .val (.int i4), .val (.int (i4 &&& (7 : Int32))), .val (.ref t_PRIMARY_BACKUP), .val (.int (1 : Int32)), .val (.int (0 : Int32)), .val (.int (1 : Int32)), .val (.int qv), .unset, .unset, .unset, .unset, .unset, .unset, .unset, .unset]) rfl k) ?_
        show own_Run p e below s _ _ _ (T128.setTop (mkF m 77 #[.val (.long j0), .second, .val (.long j1), .second, .val (.int i2), .val (.int i3), .val (.int i4), .val (.int (i4 &&& (7 : Int32))), .val (.ref t_PRIMARY_BACKUP), .val (.int (1 : Int32)), .val (.int (0 : Int32)), .val (.int (1 : Int32)), .val (.int qv), .unset, .unset, .unset, .unset, .unset, .unset, .unset, .unset] []))
        exact own_tail l Z a0 hw T128 _ hx hby hml hZ hown hnm hret hlk j0 j1 i2 i3 i4 (i4 &&& (7 : Int32)) t_PRIMARY_BACKUP (1 : Int32) (0 : Int32) (1 : Int32) qv h0 n0 Z0 _ (X128.more (by decide) (by decide)) e128 N0 K0 O0 (hq) (by decide) (by decide) (by decide)
      · skip
        refine own_st (fun t k => XS.ifNo X128.here hx rfl (hb hby at_46) rfl ((if0 _ _).trans (feq (hc131 : ¬ ((i4 &&& (32 : Int32)) = (0 : Int32)))).1) k) ?_
        show own_Run p e below s _ _ _ (T128.setTop (mkF m 49 #[.val (.long j0), .second, .val (.long j1), .second, .val (.int i2), .val (.int i3), .val (.int i4), .val (.int (i4 &&& (7 : Int32))), .val (.ref t_PRIMARY_BACKUP), .val (.int (1 : Int32)), .unset, .unset, .unset, .unset, .unset, .unset, .unset, .unset, .unset, .unset, .unset] []))
        refine own_st (fun t k => XS.iconst X128.here hx rfl (hb hby at_49) k) ?_
        show own_Run p e below s _ _ _ (T128.setTop (mkF m 50 #[.val (.long j0), .second, .val (.long j1), .second, .val (.int i2), .val (.int i3), .val (.int i4), .val (.int (i4 &&& (7 : Int32))), .val (.ref t_PRIMARY_BACKUP), .val (.int (1 : Int32)), .unset, .unset, .unset, .unset, .unset, .unset, .unset, .unset, .unset, .unset, .unset] [(.int (1 : Int32))]))
        refine own_st (fun t k => XS.goto X128.here hx rfl (pc0 := 50) (pc' := 54) rfl (hb hby at_50) (by decide) (by decide) k) ?_
        show own_Run p e below s _ _ _ (T128.setTop (mkF m 54 #[.val (.long j0), .second, .val (.long j1), .second, .val (.int i2), .val (.int i3), .val (.int i4), .val (.int (i4 &&& (7 : Int32))), .val (.ref t_PRIMARY_BACKUP), .val (.int (1 : Int32)), .unset, .unset, .unset, .unset, .unset, .unset, .unset, .unset, .unset, .unset, .unset] [(.int (1 : Int32))]))
        refine own_st (fun t k => XS.istore X128.here hx rfl (hb hby at_54) rfl (l' := #[.val (.long j0), .second, .val (.long j1), .second, .val (.int i2), .val (.int i3), .val (.int i4), .val (.int (i4 &&& (7 : Int32))), .val (.ref t_PRIMARY_BACKUP), .val (.int (1 : Int32)), .val (.int (1 : Int32)), .unset, .unset, .unset, .unset, .unset, .unset, .unset, .unset, .unset, .unset]) rfl k) ?_
        show own_Run p e below s _ _ _ (T128.setTop (mkF m 56 #[.val (.long j0), .second, .val (.long j1), .second, .val (.int i2), .val (.int i3), .val (.int i4), .val (.int (i4 &&& (7 : Int32))), .val (.ref t_PRIMARY_BACKUP), .val (.int (1 : Int32)), .val (.int (1 : Int32)), .unset, .unset, .unset, .unset, .unset, .unset, .unset, .unset, .unset, .unset] []))
        refine own_st (fun t k => XS.iload X128.here hx rfl (hb hby at_56) rfl k) ?_
        show own_Run p e below s _ _ _ (T128.setTop (mkF m 58 #[.val (.long j0), .second, .val (.long j1), .second, .val (.int i2), .val (.int i3), .val (.int i4), .val (.int (i4 &&& (7 : Int32))), .val (.ref t_PRIMARY_BACKUP), .val (.int (1 : Int32)), .val (.int (1 : Int32)), .unset, .unset, .unset, .unset, .unset, .unset, .unset, .unset, .unset, .unset] [(.int (1 : Int32))]))
        refine own_st (fun t k => XS.iload X128.here hx rfl (hb hby at_58) rfl k) ?_
        show own_Run p e below s _ _ _ (T128.setTop (mkF m 60 #[.val (.long j0), .second, .val (.long j1), .second, .val (.int i2), .val (.int i3), .val (.int i4), .val (.int (i4 &&& (7 : Int32))), .val (.ref t_PRIMARY_BACKUP), .val (.int (1 : Int32)), .val (.int (1 : Int32)), .unset, .unset, .unset, .unset, .unset, .unset, .unset, .unset, .unset, .unset] [(.int (1 : Int32)), (.int (1 : Int32))]))
        refine own_st (fun t k => XS.icmpYes X128.here hx rfl (pc0 := 60) (pc' := 67) rfl (hb hby at_60) rfl (teq (by decide : (1 : Int32) = (1 : Int32))).1 (by decide) (by decide) k) ?_
        show own_Run p e below s _ _ _ (T128.setTop (mkF m 67 #[.val (.long j0), .second, .val (.long j1), .second, .val (.int i2), .val (.int i3), .val (.int i4), .val (.int (i4 &&& (7 : Int32))), .val (.ref t_PRIMARY_BACKUP), .val (.int (1 : Int32)), .val (.int (1 : Int32)), .unset, .unset, .unset, .unset, .unset, .unset, .unset, .unset, .unset, .unset] []))
        refine own_st (fun t k => XS.iconst X128.here hx rfl (hb hby at_67) k) ?_
        show own_Run p e below s _ _ _ (T128.setTop (mkF m 68 #[.val (.long j0), .second, .val (.long j1), .second, .val (.int i2), .val (.int i3), .val (.int i4), .val (.int (i4 &&& (7 : Int32))), .val (.ref t_PRIMARY_BACKUP), .val (.int (1 : Int32)), .val (.int (1 : Int32)), .unset, .unset, .unset, .unset, .unset, .unset, .unset, .unset, .unset, .unset] [(.int (0 : Int32))]))
        refine own_st (fun t k => XS.istore X128.here hx rfl (hb hby at_68) rfl (l' := #[.val (.long j0), .second, .val (.long j1), .second, .val (.int i2), .val (.int i3), .val (.int i4), .val (.int (i4 &&& (7 : Int32))), .val (.ref t_PRIMARY_BACKUP), .val (.int (1 : Int32)), .val (.int (1 : Int32)), .val (.int (0 : Int32)), .unset, .unset, .unset, .unset, .unset, .unset, .unset, .unset, .unset]) rfl k) ?_
        show own_Run p e below s _ _ _ (T128.setTop (mkF m 70 #[.val (.long j0), .second, .val (.long j1), .second, .val (.int i2), .val (.int i3), .val (.int i4), .val (.int (i4 &&& (7 : Int32))), .val (.ref t_PRIMARY_BACKUP), .val (.int (1 : Int32)), .val (.int (1 : Int32)), .val (.int (0 : Int32)), .unset, .unset, .unset, .unset, .unset, .unset, .unset, .unset, .unset] []))
        refine own_st (fun t k => XS.iload X128.here hx rfl (hb hby at_70) rfl k) ?_
        show own_Run p e below s _ _ _ (T128.setTop (mkF m 72 #[.val (.long j0), .second, .val (.long j1), .second, .val (.int i2), .val (.int i3), .val (.int i4), .val (.int (i4 &&& (7 : Int32))), .val (.ref t_PRIMARY_BACKUP), .val (.int (1 : Int32)), .val (.int (1 : Int32)), .val (.int (0 : Int32)), .unset, .unset, .unset, .unset, .unset, .unset, .unset, .unset, .unset] [(.int i3)]))
        refine own_st (X128.ldcInt hx hown (mvT hZ (hw _ (List.mem_of_getElem? (i := 3) rfl))) (g := (mkF m 72 #[.val (.long j0), .second, .val (.long j1), .second, .val (.int i2), .val (.int i3), .val (.int i4), .val (.int (i4 &&& (7 : Int32))), .val (.ref t_PRIMARY_BACKUP), .val (.int (1 : Int32)), .val (.int (1 : Int32)), .val (.int (0 : Int32)), .unset, .unset, .unset, .unset, .unset, .unset, .unset, .unset, .unset] [(.int i3)])) rfl (hb hby at_72)) ?_
        show own_Run p e below s _ _ _ (T128.setTop (mkF m 74 #[.val (.long j0), .second, .val (.long j1), .second, .val (.int i2), .val (.int i3), .val (.int i4), .val (.int (i4 &&& (7 : Int32))), .val (.ref t_PRIMARY_BACKUP), .val (.int (1 : Int32)), .val (.int (1 : Int32)), .val (.int (0 : Int32)), .unset, .unset, .unset, .unset, .unset, .unset, .unset, .unset, .unset] [(.int (1048576 : Int32)), (.int i3)]))
        refine own_st (fun t k => iremM X128 hx rfl (hb hby at_74) rfl (by decide) k) ?_
        show own_Run p e below s _ _ _ (T128.setTop (mkF m 75 #[.val (.long j0), .second, .val (.long j1), .second, .val (.int i2), .val (.int i3), .val (.int i4), .val (.int (i4 &&& (7 : Int32))), .val (.ref t_PRIMARY_BACKUP), .val (.int (1 : Int32)), .val (.int (1 : Int32)), .val (.int (0 : Int32)), .unset, .unset, .unset, .unset, .unset, .unset, .unset, .unset, .unset] [(.int (i3 % (1048576 : Int32)))]))
        obtain ⟨qv, h_qv⟩ : ∃ z, ((i3 % (1048576 : Int32)) : Int32) = z := ⟨_, rfl⟩
        refine own_topI h_qv ?_
        show own_Run p e below s _ _ _ (T128.setTop (mkF m 75 #[.val (.long j0), .second, .val (.long j1), .second, .val (.int i2), .val (.int i3), .val (.int i4), .val (.int (i4 &&& (7 : Int32))), .val (.ref t_PRIMARY_BACKUP), .val (.int (1 : Int32)), .val (.int (1 : Int32)), .val (.int (0 : Int32)), .unset, .unset, .unset, .unset, .unset, .unset, .unset, .unset, .unset] [(.int qv)]))
        have hq : qv.toInt.natAbs ≤ 1048575 := h_qv ▸ own_q20 i3
        refine own_st (fun t k => XS.istore X128.here hx rfl (hb hby at_75) rfl (l' := #[.val (.long j0), .second, .val (.long j1), .second, .val (.int i2), .val (.int i3), .val (.int i4), .val (.int (i4 &&& (7 : Int32))), .val (.ref t_PRIMARY_BACKUP), .val (.int (1 : Int32)), .val (.int (1 : Int32)), .val (.int (0 : Int32)), .val (.int qv), .unset, .unset, .unset, .unset, .unset, .unset, .unset, .unset]) rfl k) ?_
        show own_Run p e below s _ _ _ (T128.setTop (mkF m 77 #[.val (.long j0), .second, .val (.long j1), .second, .val (.int i2), .val (.int i3), .val (.int i4), .val (.int (i4 &&& (7 : Int32))), .val (.ref t_PRIMARY_BACKUP), .val (.int (1 : Int32)), .val (.int (1 : Int32)), .val (.int (0 : Int32)), .val (.int qv), .unset, .unset, .unset, .unset, .unset, .unset, .unset, .unset] []))
        exact own_tail l Z a0 hw T128 _ hx hby hml hZ hown hnm hret hlk j0 j1 i2 i3 i4 (i4 &&& (7 : Int32)) t_PRIMARY_BACKUP (1 : Int32) (1 : Int32) (0 : Int32) qv h0 n0 Z0 _ (X128.more (by decide) (by decide)) e128 N0 K0 O0 (hq) (by decide) (by decide) (by decide)
  · skip
    refine own_st (fun t k => XS.ifNo X0.here hx rfl (hb hby at_12) rfl ((if0 _ _).trans (feq (hc127 : ¬ ((i4 &&& (8 : Int32)) = (0 : Int32)))).1) k) ?_
    show own_Run p e below s _ _ _ (s₁.setTop (mkF m 15 #[.val (.long j0), .second, .val (.long j1), .second, .val (.int i2), .val (.int i3), .val (.int i4), .val (.int (i4 &&& (7 : Int32))), .unset, .unset, .unset, .unset, .unset, .unset, .unset, .unset, .unset, .unset, .unset, .unset, .unset] []))
    obtain ⟨T132, X132, e132, st132⟩ := getS2 X0 hx hZ hown (host := "") (Or.inl (hw _ (List.mem_of_getElem? (i := 45) rfl))) Via.refl e0 (S_TWO_PHASE_COMMIT.ext O0.2) (g := (mkF m 15 #[.val (.long j0), .second, .val (.long j1), .second, .val (.int i2), .val (.int i3), .val (.int i4), .val (.int (i4 &&& (7 : Int32))), .unset, .unset, .unset, .unset, .unset, .unset, .unset, .unset, .unset, .unset, .unset, .unset, .unset] [])) rfl (hb hby at_15)
    refine own_st st132 ?_
    show own_Run p e below s _ _ _ (T132.setTop (mkF m 18 #[.val (.long j0), .second, .val (.long j1), .second, .val (.int i2), .val (.int i3), .val (.int i4), .val (.int (i4 &&& (7 : Int32))), .unset, .unset, .unset, .unset, .unset, .unset, .unset, .unset, .unset, .unset, .unset, .unset, .unset] [(.ref t_TWO_PHASE_COMMIT)]))
    refine own_st (fun t k => XS.goto X132.here hx rfl (pc0 := 18) (pc' := 24) rfl (hb hby at_18) (by decide) (by decide) k) ?_
    show own_Run p e below s _ _ _ (T132.setTop (mkF m 24 #[.val (.long j0), .second, .val (.long j1), .second, .val (.int i2), .val (.int i3), .val (.int i4), .val (.int (i4 &&& (7 : Int32))), .unset, .unset, .unset, .unset, .unset, .unset, .unset, .unset, .unset, .unset, .unset, .unset, .unset] [(.ref t_TWO_PHASE_COMMIT)]))
    refine own_st (fun t k => XS.astore X132.here hx rfl (hb hby at_24) rfl rfl (l' := #[.val (.long j0), .second, .val (.long j1), .second, .val (.int i2), .val (.int i3), .val (.int i4), .val (.int (i4 &&& (7 : Int32))), .val (.ref t_TWO_PHASE_COMMIT), .unset, .unset, .unset, .unset, .unset, .unset, .unset, .unset, .unset, .unset, .unset, .unset]) rfl k) ?_
    show own_Run p e below s _ _ _ (T132.setTop (mkF m 26 #[.val (.long j0), .second, .val (.long j1), .second, .val (.int i2), .val (.int i3), .val (.int i4), .val (.int (i4 &&& (7 : Int32))), .val (.ref t_TWO_PHASE_COMMIT), .unset, .unset, .unset, .unset, .unset, .unset, .unset, .unset, .unset, .unset, .unset, .unset] []))
    refine own_st (fun t k => XS.iload X132.here hx rfl (hb hby at_26) rfl k) ?_
    show own_Run p e below s _ _ _ (T132.setTop (mkF m 28 #[.val (.long j0), .second, .val (.long j1), .second, .val (.int i2), .val (.int i3), .val (.int i4), .val (.int (i4 &&& (7 : Int32))), .val (.ref t_TWO_PHASE_COMMIT), .unset, .unset, .unset, .unset, .unset, .unset, .unset, .unset, .unset, .unset, .unset, .unset] [(.int i4)]))
    refine own_st (fun t k => XS.bipush X132.here hx rfl (hb hby at_28) k) ?_
    show own_Run p e below s _ _ _ (T132.setTop (mkF m 30 #[.val (.long j0), .second, .val (.long j1), .second, .val (.int i2), .val (.int i3), .val (.int i4), .val (.int (i4 &&& (7 : Int32))), .val (.ref t_TWO_PHASE_COMMIT), .unset, .unset, .unset, .unset, .unset, .unset, .unset, .unset, .unset, .unset, .unset, .unset] [(.int (16 : Int32)), (.int i4)]))
    refine own_st (fun t k => XS.iand X132.here hx rfl (hb hby at_30) rfl k) ?_
    show own_Run p e below s _ _ _ (T132.setTop (mkF m 31 #[.val (.long j0), .second, .val (.long j1), .second, .val (.int i2), .val (.int i3), .val (.int i4), .val (.int (i4 &&& (7 : Int32))), .val (.ref t_TWO_PHASE_COMMIT), .unset, .unset, .unset, .unset, .unset, .unset, .unset, .unset, .unset, .unset, .unset, .unset] [(.int (i4 &&& (16 : Int32)))]))
    by_cases hc133 : (i4 &&& (16 : Int32)) = (0 : Int32)
    · skip
      refine own_st (fun t k => XS.ifYes X132.here hx rfl (pc0 := 31) (pc' := 38) rfl (hb hby at_31) rfl ((if0 _ _).trans (teq (hc133 : (i4 &&& (16 : Int32)) = (0 : Int32))).1) (by decide) (by decide) k) ?_
      show own_Run p e below s _ _ _ (T132.setTop (mkF m 38 #[.val (.long j0), .second, .val (.long j1), .second, .val (.int i2), .val (.int i3), .val (.int i4), .val (.int (i4 &&& (7 : Int32))), .val (.ref t_TWO_PHASE_COMMIT), .unset, .unset, .unset, .unset, .unset, .unset, .unset, .unset, .unset, .unset, .unset, .unset] []))
      refine own_st (fun t k => XS.iconst X132.here hx rfl (hb hby at_38) k) ?_
      show own_Run p e below s _ _ _ (T132.setTop (mkF m 39 #[.val (.long j0), .second, .val (.long j1), .second, .val (.int i2), .val (.int i3), .val (.int i4), .val (.int (i4 &&& (7 : Int32))), .val (.ref t_TWO_PHASE_COMMIT), .unset, .unset, .unset, .unset, .unset, .unset, .unset, .unset, .unset, .unset, .unset, .unset] [(.int (0 : Int32))]))
      refine own_st (fun t k => XS.istore X132.here hx rfl (hb hby at_39) rfl (l' := #[.val (.long j0), .second, .val (.long j1), .second, .val (.int i2), .val (.int i3), .val (.int i4), .val (.int (i4 &&& (7 : Int32))), .val (.ref t_TWO_PHASE_COMMIT), .val (.int (0 : Int32)), .unset, .unset, .unset, .unset, .unset, .unset, .unset, .unset, .unset, .unset, .unset]) rfl k) ?_
      show own_Run p e below s _ _ _ (T132.setTop (mkF m 41 #[.val (.long j0), .second, .val (.long j1), .second, .val (.int i2), .val (.int i3), .val (.int i4), .val (.int (i4 &&& (7 : Int32))), .val (.ref t_TWO_PHASE_COMMIT), .val (.int (0 : Int32)), .unset, .unset, .unset, .unset, .unset, .unset, .unset, .unset, .unset, .unset, .unset] []))
      refine own_st (fun t k => XS.iload X132.here hx rfl (hb hby at_41) rfl k) ?_
      show own_Run p e below s _ _ _ (T132.setTop (mkF m 43 #[.val (.long j0), .second, .val (.long j1), .second, .val (.int i2), .val (.int i3), .val (.int i4), .val (.int (i4 &&& (7 : Int32))), .val (.ref t_TWO_PHASE_COMMIT), .val (.int (0 : Int32)), .unset, .unset, .unset, .unset, .unset, .unset, .unset, .unset, .unset, .unset, .unset] [(.int i4)]))
      refine own_st (fun t k => XS.bipush X132.here hx rfl (hb hby at_43) k) ?_
      show own_Run p e below s _ _ _ (T132.setTop (mkF m 45 #[.val (.long j0), .second, .val (.long j1), .second, .val (.int i2), .val (.int i3), .val (.int i4), .val (.int (i4 &&& (7 : Int32))), .val (.ref t_TWO_PHASE_COMMIT), .val (.int (0 : Int32)), .unset, .unset, .unset, .unset, .unset, .unset, .unset, .unset, .unset, .unset, .unset] [(.int (32 : Int32)), (.int i4)]))
      refine own_st (fun t k => XS.iand X132.here hx rfl (hb hby at_45) rfl k) ?_
      show own_Run p e below s _ _ _ (T132.setTop (mkF m 46 #[.val (.long j0), .second, .val (.long j1), .second, .val (.int i2), .val (.int i3), .val (.int i4), .val (.int (i4 &&& (7 : Int32))), .val (.ref t_TWO_PHASE_COMMIT), .val (.int (0 : Int32)), .unset, .unset, .unset, .unset, .unset, .unset, .unset, .unset, .unset, .unset, .unset] [(.int (i4 &&& (32 : Int32)))]))
      by_cases hc134 : (i4 &&& (32 : Int32)) = (0 : Int32)
      · skip
        refine own_st (fun t k => XS.ifYes X132.here hx rfl (pc0 := 46) (pc' := 53) rfl (hb hby at_46) rfl ((if0 _ _).trans (teq (hc134 : (i4 &&& (32 : Int32)) = (0 : Int32))).1) (by decide) (by decide) k) ?_
        show own_Run p e below s _ _ _ (T132.setTop (mkF m 53 #[.val (.long j0), .second, .val (.long j1), .second, .val (.int i2), .val (.int i3), .val (.int i4), .val (.int (i4 &&& (7 : Int32))), .val (.ref t_TWO_PHASE_COMMIT), .val (.int (0 : Int32)), .unset, .unset, .unset, .unset, .unset, .unset, .unset, .unset, .unset, .unset, .unset] []))
        refine own_st (fun t k => XS.iconst X132.here hx rfl (hb hby at_53) k) ?_
        show own_Run p e below s _ _ _ (T132.setTop (mkF m 54 #[.val (.long j0), .second, .val (.long j1), .second, .val (.int i2), .val (.int i3), .val (.int i4), .val (.int (i4 &&& (7 : Int32))), .val (.ref t_TWO_PHASE_COMMIT), .val (.int (0 : Int32)), .unset, .unset, .unset, .unset, .unset, .unset, .unset, .unset, .unset, .unset, .unset] [(.int (0 : Int32))]))
        refine own_st (fun t k => XS.istore X132.here hx rfl (hb hby at_54) rfl (l' := #[.val (.long j0), .second, .val (.long j1), .second, .val (.int i2), .val (.int i3), .val (.int i4), .val (.int (i4 &&& (7 : Int32))), .val (.ref t_TWO_PHASE_COMMIT), .val (.int (0 : Int32)), .val (.int (0 : Int32)), .unset, .unset, .unset, .unset, .unset, .unset, .unset, .unset, .unset, .unset]) rfl k) ?_
        show own_Run p e below s _ _ _ (T132.setTop (mkF m 56 #[.val (.long j0), .second, .val (.long j1), .second, .val (.int i2), .val (.int i3), .val (.int i4), .val (.int (i4 &&& (7 : Int32))), .val (.ref t_TWO_PHASE_COMMIT), .val (.int (0 : Int32)), .val (.int (0 : Int32)), .unset, .unset, .unset, .unset, .unset, .unset, .unset, .unset, .unset, .unset] []))
        refine own_st (fun t k => XS.iload X132.here hx rfl (hb hby at_56) rfl k) ?_
        show own_Run p e below s _ _ _ (T132.setTop (mkF m 58 #[.val (.long j0), .second, .val (.long j1), .second, .val (.int i2), .val (.int i3), .val (.int i4), .val (.int (i4 &&& (7 : Int32))), .val (.ref t_TWO_PHASE_COMMIT), .val (.int (0 : Int32)), .val (.int (0 : Int32)), .unset, .unset, .unset, .unset, .unset, .unset, .unset, .unset, .unset, .unset] [(.int (0 : Int32))]))
        refine own_st (fun t k => XS.iload X132.here hx rfl (hb hby at_58) rfl k) ?_
        show own_Run p e below s _ _ _ (T132.setTop (mkF m 60 #[.val (.long j0), .second, .val (.long j1), .second, .val (.int i2), .val (.int i3), .val (.int i4), .val (.int (i4 &&& (7 : Int32))), .val (.ref t_TWO_PHASE_COMMIT), .val (.int (0 : Int32)), .val (.int (0 : Int32)), .unset, .unset, .unset, .unset, .unset, .unset, .unset, .unset, .unset, .unset] [(.int (0 : Int32)), (.int (0 : Int32))]))
        refine own_st (fun t k => XS.icmpYes X132.here hx rfl (pc0 := 60) (pc' := 67) rfl (hb hby at_60) rfl (teq (by decide : (0 : Int32) = (0 : Int32))).1 (by decide) (by decide) k) ?_
        show own_Run p e below s _ _ _ (T132.setTop (mkF m 67 #[.val (.long j0), .second, .val (.long j1), .second, .val (.int i2), .val (.int i3), .val (.int i4), .val (.int (i4 &&& (7 : Int32))), .val (.ref t_TWO_PHASE_COMMIT), .val (.int (0 : Int32)), .val (.int (0 : Int32)), .unset, .unset, .unset, .unset, .unset, .unset, .unset, .unset, .unset, .unset] []))
        refine own_st (fun t k => XS.iconst X132.here hx rfl (hb hby at_67) k) ?_
        show own_Run p e below s _ _ _ (T132.setTop (mkF m 68 #[.val (.long j0), .second, .val (.long j1), .second, .val (.int i2), .val (.int i3), .val (.int i4), .val (.int (i4 &&& (7 : Int32))), .val (.ref t_TWO_PHASE_COMMIT), .val (.int (0 : Int32)), .val (.int (0 : Int32)), .unset, .unset, .unset, .unset, .unset, .unset, .unset, .unset, .unset, .unset] [(.int (0 : Int32))]))
        refine own_st (fun t k => XS.istore X132.here hx rfl (hb hby at_68) rfl (l' := #[.val (.long j0), .second, .val (.long j1), .second, .val (.int i2), .val (.int i3), .val (.int i4), .val (.int (i4 &&& (7 : Int32))), .val (.ref t_TWO_PHASE_COMMIT), .val (.int (0 : Int32)), .val (.int (0 : Int32)), .val (.int (0 : Int32)), .unset, .unset, .unset, .unset, .unset, .unset, .unset, .unset, .unset]) rfl k) ?_
        show own_Run p e below s _ _ _ (T132.setTop (mkF m 70 #[.val (.long j0), .second, .val (.long j1), .second, .val (.int i2), .val (.int i3), .val (.int i4), .val (.int (i4 &&& (7 : Int32))), .val (.ref t_TWO_PHASE_COMMIT), .val (.int (0 : Int32)), .val (.int (0 : Int32)), .val (.int (0 : Int32)), .unset, .unset, .unset, .unset, .unset, .unset, .unset, .unset, .unset] []))
        refine own_st (fun t k => XS.iload X132.here hx rfl (hb hby at_70) rfl k) ?_
        show own_Run p e below s _ _ _ (T132.setTop (mkF m 72 #[.val (.long j0), .second, .val (.long j1), .second, .val (.int i2), .val (.int i3), .val (.int i4), .val (.int (i4 &&& (7 : Int32))), .val (.ref t_TWO_PHASE_COMMIT), .val (.int (0 : Int32)), .val (.int (0 : Int32)), .val (.int (0 : Int32)), .unset, .unset, .unset, .unset, .unset, .unset, .unset, .unset, .unset] [(.int i3)]))
        refine own_st (X132.ldcInt hx hown (mvT hZ (hw _ (List.mem_of_getElem? (i := 3) rfl))) (g := (mkF m 72 #[.val (.long j0), .second, .val (.long j1), .second, .val (.int i2), .val (.int i3), .val (.int i4), .val (.int (i4 &&& (7 : Int32))), .val (.ref t_TWO_PHASE_COMMIT), .val (.int (0 : Int32)), .val (.int (0 : Int32)), .val (.int (0 : Int32)), .unset, .unset, .unset, .unset, .unset, .unset, .unset, .unset, .unset] [(.int i3)])) rfl (hb hby at_72)) ?_
        show own_Run p e below s _ _ _ (T132.setTop (mkF m 74 #[.val (.long j0), .second, .val (.long j1), .second, .val (.int i2), .val (.int i3), .val (.int i4), .val (.int (i4 &&& (7 : Int32))), .val (.ref t_TWO_PHASE_COMMIT), .val (.int (0 : Int32)), .val (.int (0 : Int32)), .val (.int (0 : Int32)), .unset, .unset, .unset, .unset, .unset, .unset, .unset, .unset, .unset] [(.int (1048576 : Int32)), (.int i3)]))
        refine own_st (fun t k => iremM X132 hx rfl (hb hby at_74) rfl (by decide) k) ?_
        show own_Run p e below s _ _ _ (T132.setTop (mkF m 75 #[.val (.long j0), .second, .val (.long j1), .second, .val (.int i2), .val (.int i3), .val (.int i4), .val (.int (i4 &&& (7 : Int32))), .val (.ref t_TWO_PHASE_COMMIT), .val (.int (0 : Int32)), .val (.int (0 : Int32)), .val (.int (0 : Int32)), .unset, .unset, .unset, .unset, .unset, .unset, .unset, .unset, .unset] [(.int (i3 % (1048576 : Int32)))]))
        obtain ⟨qv, h_qv⟩ : ∃ z, ((i3 % (1048576 : Int32)) : Int32) = z := ⟨_, rfl⟩
        refine own_topI h_qv ?_
        show own_Run p e below s _ _ _ (T132.setTop (mkF m 75 #[.val (.long j0), .second, .val (.long j1), .second, .val (.int i2), .val (.int i3), .val (.int i4), .val (.int (i4 &&& (7 : Int32))), .val (.ref t_TWO_PHASE_COMMIT), .val (.int (0 : Int32)), .val (.int (0 : Int32)), .val (.int (0 : Int32)), .unset, .unset, .unset, .unset, .unset, .unset, .unset, .unset, .unset] [(.int qv)]))
        have hq : qv.toInt.natAbs ≤ 1048575 := h_qv ▸ own_q20 i3
        refine own_st (fun t k => XS.istore X132.here hx rfl (hb hby at_75) rfl (l' := #[.val (.long j0), .second, .val (.long j1), .second, .val (.int i2), .val (.int i3), .val (.int i4), .val (.int (i4 &&& (7 : Int32))), .val (.ref t_TWO_PHASE_COMMIT), .val (.int (0 : Int32)), .val (.int (0 : Int32)), .val (.int (0 : Int32)), .val (.int qv), .unset, .unset, .unset, .unset, .unset, .unset, .unset, .unset]) rfl k) ?_
        show own_Run p e below s _ _ _ (T132.setTop (mkF m 77 #[.val (.long j0), .second, .val (.long j1), .second, .val (.int i2), .val (.int i3), .val (.int i4), .val (.int (i4 &&& (7 : Int32))), .val (.ref t_TWO_PHASE_COMMIT), .val (.int (0 : Int32)), .val (.int (0 : Int32)), .val (.int (0 : Int32)), .val (.int qv), .unset, .unset, .unset, .unset, .unset, .unset, .unset, .unset] []))
        exact own_tail l Z a0 hw T132 _ hx hby hml hZ hown hnm hret hlk j0 j1 i2 i3 i4 (i4 &&& (7 : Int32)) t_TWO_PHASE_COMMIT (0 : Int32) (0 : Int32) (0 : Int32) qv h0 n0 Z0 _ (X132.more (by decide) (by decide)) e132 N0 K0 O0 (hq) (by decide) (by decide) (by decide)
      · skip
        refine own_st (fun t k => XS.ifNo X132.here hx rfl (hb hby at_46) rfl ((if0 _ _).trans (feq (hc134 : ¬ ((i4 &&& (32 : Int32)) = (0 : Int32)))).1) k) ?_
        show own_Run p e below s _ _ _ (T132.setTop (mkF m 49 #[.val (.long j0), .second, .val (.long j1), .second, .val (.int i2), .val (.int i3), .val (.int i4), .val (.int (i4 &&& (7 : Int32))), .val (.ref t_TWO_PHASE_COMMIT), .val (.int (0 : Int32)), .unset, .unset, .unset, .unset, .unset, .unset, .unset, .unset, .unset, .unset, .unset] []))
        refine own_st (fun t k => XS.iconst X132.here hx rfl (hb hby at_49) k) ?_
        show own_Run p e below s _ _ _ (T132.setTop (mkF m 50 #[.val (.long j0), .second, .val (.long j1), .second, .val (.int i2), .val (.int i3), .val (.int i4), .val (.int (i4 &&& (7 : Int32))), .val (.ref t_TWO_PHASE_COMMIT), .val (.int (0 : Int32)), .unset, .unset, .unset, .unset, .unset, .unset, .unset, .unset, .unset, .unset, .unset] [(.int (1 : Int32))]))
        refine own_st (fun t k => XS.goto X132.here hx rfl (pc0 := 50) (pc' := 54) rfl (hb hby at_50) (by decide) (by decide) k) ?_
        show own_Run p e below s _ _ _ (T132.setTop (mkF m 54 #[.val (.long j0), .second, .val (.long j1), .second, .val (.int i2), .val (.int i3), .val (.int i4), .val (.int (i4 &&& (7 : Int32))), .val (.ref t_TWO_PHASE_COMMIT), .val (.int (0 : Int32)), .unset, .unset, .unset, .unset, .unset, .unset, .unset, .unset, .unset, .unset, .unset] [(.int (1 : Int32))]))
        refine own_st (fun t k => XS.istore X132.here hx rfl (hb hby at_54) rfl (l' := #[.val (.long j0), .second, .val (.long j1), .second, .val (.int i2), .val (.int i3), .val (.int i4), .val (.int (i4 &&& (7 : Int32))), .val (.ref t_TWO_PHASE_COMMIT), .val (.int (0 : Int32)), .val (.int (1 : Int32)), .unset, .unset, .unset, .unset, .unset, .unset, .unset, .unset, .unset, .unset]) rfl k) ?_
        show own_Run p e below s _ _ _ (T132.setTop (mkF m 56 #[.val (.long j0), .second, .val (.long j1), .second, .val (.int i2), .val (.int i3), .val (.int i4), .val (.int (i4 &&& (7 : Int32))), .val (.ref t_TWO_PHASE_COMMIT), .val (.int (0 : Int32)), .val (.int (1 : Int32)), .unset, .unset, .unset, .unset, .unset, .unset, .unset, .unset, .unset, .unset] []))
        refine own_st (fun t k => XS.iload X132.here hx rfl (hb hby at_56) rfl k) ?_
        show own_Run p e below s _ _ _ (T132.setTop (mkF m 58 #[.val (.long j0), .second, .val (.long j1), .second, .val (.int i2), .val (.int i3), .val (.int i4), .val (.int (i4 &&& (7 : Int32))), .val (.ref t_TWO_PHASE_COMMIT), .val (.int (0 : Int32)), .val (.int (1 : Int32)), .unset, .unset, .unset, .unset, .unset, .unset, .unset, .unset, .unset, .unset] [(.int (0 : Int32))]))
        refine own_st (fun t k => XS.iload X132.here hx rfl (hb hby at_58) rfl k) ?_
        show own_Run p e below s _ _ _ (T132.setTop (mkF m 60 #[.val (.long j0), .second, .val (.long j1), .second, .val (.int i2), .val (.int i3), .val (.int i4), .val (.int (i4 &&& (7 : Int32))), .val (.ref t_TWO_PHASE_COMMIT), .val (.int (0 : Int32)), .val (.int (1 : Int32)), .unset, .unset, .unset, .unset, .unset, .unset, .unset, .unset, .unset, .unset] [(.int (1 : Int32)), (.int (0 : Int32))]))
        refine own_st (fun t k => XS.icmpNo X132.here hx rfl (hb hby at_60) rfl (feq (by decide : ¬ ((0 : Int32) = (1 : Int32)))).1 k) ?_
        show own_Run p e below s _ _ _ (T132.setTop (mkF m 63 #[.val (.long j0), .second, .val (.long j1), .second, .val (.int i2), .val (.int i3), .val (.int i4), .val (.int (i4 &&& (7 : Int32))), .val (.ref t_TWO_PHASE_COMMIT), .val (.int (0 : Int32)), .val (.int (1 : Int32)), .unset, .unset, .unset, .unset, .unset, .unset, .unset, .unset, .unset, .unset] []))
        refine own_st (fun t k => XS.iconst X132.here hx rfl (hb hby at_63) k) ?_
        show own_Run p e below s _ _ _ (T132.setTop (mkF m 64 #[.val (.long j0), .second, .val (.long j1), .second, .val (.int i2), .val (.int i3), .val (.int i4), .val (.int (i4 &&& (7 : Int32))), .val (.ref t_TWO_PHASE_COMMIT), .val (.int (0 : Int32)), .val (.int (1 : Int32)), .unset, .unset, .unset, .unset, .unset, .unset, .unset, .unset, .unset, .unset] [(.int (1 : Int32))]))
        refine own_st (fun t k => XS.goto X132.here hx rfl (pc0 := 64) (pc' := 68) rfl (hb hby at_64) (by decide) (by decide) k) ?_
        show own_Run p e below s _ _ _ (T132.setTop (mkF m 68 #[.val (.long j0), .second, .val (.long j1), .second, .val (.int i2), .val (.int i3), .val (.int i4), .val (.int (i4 &&& (7 : Int32))), .val (.ref t_TWO_PHASE_COMMIT), .val (.int (0 : Int32)), .val (.int (1 : Int32)), .unset, .unset, .unset, .unset, .unset, .unset, .unset, .unset, .unset, .unset] [(.int (1 : Int32))]))
        refine own_st (fun t k => XS.istore X132.here hx rfl (hb hby at_68) rfl (l' := #[.val (.long j0), .second, .val (.long j1), .second, .val (.int i2), .val (.int i3), .val (.int i4), .val (.int (i4 &&& (7 : Int32))), .val (.ref t_TWO_PHASE_COMMIT), .val (.int (0 : Int32)), .val (.int (1 : Int32)), .val (.int (1 : Int32)), .unset, .unset, .unset, .unset, .unset, .unset, .unset, .unset, .unset]) rfl k) ?_
        show own_Run p e below s _ _ _ (T132.setTop (mkF m 70 #[.val (.long j0), .second, .val (.long j1), .second, .val (.int i2), .val (.int i3), .val (.int i4), .val (.int (i4 &&& (7 : Int32))), .val (.ref t_TWO_PHASE_COMMIT), .val (.int (0 : Int32)), .val (.int (1 : Int32)), .val (.int (1 : Int32)), .unset, .unset, .unset, .unset, .unset, .unset, .unset, .unset, .unset] []))
        refine own_st (fun t k => XS.iload X132.here hx rfl (hb hby at_70) rfl k) ?_
        show own_Run p e below s _ _ _ (T132.setTop (mkF m 72 #[.val (.long j0), .second, .val (.long j1), .second, .val (.int i2), .val (.int i3), .val (.int i4), .val (.int (i4 &&& (7 : Int32))), .val (.ref t_TWO_PHASE_COMMIT), .val (.int (0 : Int32)), .val (.int (1 : Int32)), .val (.int (1 : Int32)), .unset, .unset, .unset, .unset, .unset, .unset, .unset, .unset, .unset] [(.int i3)]))
        refine own_st (X132.ldcInt hx hown (mvT hZ (hw _ (List.mem_of_getElem? (i := 3) rfl))) (g := (mkF m 72 #[.val (.long j0), .second, .val (.long j1), .second, .val (.int i2), .val (.int i3), .val (.int i4), .val (.int (i4 &&& (7 : Int32))), .val (.ref t_TWO_PHASE_COMMIT), .val (.int (0 : Int32)), .val (.int (1 : Int32)), .val (.int (1 : Int32)), .unset, .unset, .unset, .unset, .unset, .unset, .unset, .unset, .unset] [(.int i3)])) rfl (hb hby at_72)) ?_
        show own_Run p e below s _ _ _ (T132.setTop (mkF m 74 #[.val (.long j0), .second, .val (.long j1), .second, .val (.int i2), .val (.int i3), .val (.int i4), .val (.int (i4 &&& (7 : Int32))), .val (.ref t_TWO_PHASE_COMMIT), .val (.int (0 : Int32)), .val (.int (1 : Int32)), .val (.int (1 : Int32)), .unset, .unset, .unset, .unset, .unset, .unset, .unset, .unset, .unset] [(.int (1048576 : Int32)), (.int i3)]))
        refine own_st (fun t k => iremM X132 hx rfl (hb hby at_74) rfl (by decide) k) ?_
        show own_Run p e below s _ _ _ (T132.setTop (mkF m 75 #[.val (.long j0), .second, .val (.long j1), .second, .val (.int i2), .val (.int i3), .val (.int i4), .val (.int (i4 &&& (7 : Int32))), .val (.ref t_TWO_PHASE_COMMIT), .val (.int (0 : Int32)), .val (.int (1 : Int32)), .val (.int (1 : Int32)), .unset, .unset, .unset, .unset, .unset, .unset, .unset, .unset, .unset] [(.int (i3 % (1048576 : Int32)))]))
        obtain ⟨qv, h_qv⟩ : ∃ z, ((i3 % (1048576 : Int32)) : Int32) = z := ⟨_, rfl⟩
        refine own_topI h_qv ?_
        show own_Run p e below s _ _ _ (T132.setTop (mkF m 75 #[.val (.long j0), .second, .val (.long j1), .second, .val (.int i2), .val (.int i3), .val (.int i4), .val (.int (i4 &&& (7 : Int32))), .val (.ref t_TWO_PHASE_COMMIT), .val (.int (0 : Int32)), .val (.int (1 : Int32)), .val (.int (1 : Int32)), .unset, .unset, .unset, .unset, .unset, .unset, .unset, .unset, .unset] [(.int qv)]))
        have hq : qv.toInt.natAbs ≤ 1048575 := h_qv ▸ own_q20 i3
        refine own_st (fun t k => XS.istore X132.here hx rfl (hb hby at_75) rfl (l' := #[.val (.long j0), .second, .val (.long j1), .second, .val (.int i2), .val (.int i3), .val (.int i4), .val (.int (i4 &&& (7 : Int32))), .val (.ref t_TWO_PHASE_COMMIT), .val (.int (0 : Int32)), .val (.int (1 : Int32)), .val (.int (1 : Int32)), .val (.int qv), .unset, .unset, .unset, .unset, .unset, .unset, .unset, .unset]) rfl k) ?_
        show own_Run p e below s _ _ _ (T132.setTop (mkF m 77 #[.val (.long j0), .second, .val (.long j1), .second, .val (.int i2), .val (.int i3), .val (.int i4), .val (.int (i4 &&& (7 : Int32))), .val (.ref t_TWO_PHASE_COMMIT), .val (.int (0 : Int32)), .val (.int (1 : Int32)), .val (.int (1 : Int32)), .val (.int qv), .unset, .unset, .unset, .unset, .unset, .unset, .unset, .unset] []))
        exact own_tail l Z a0 hw T132 _ hx hby hml hZ hown hnm hret hlk j0 j1 i2 i3 i4 (i4 &&& (7 : Int32)) t_TWO_PHASE_COMMIT (0 : Int32) (1 : Int32) (1 : Int32) qv h0 n0 Z0 _ (X132.more (by decide) (by decide)) e132 N0 K0 O0 (hq) (by decide) (by decide) (by decide)
    · skip
      refine own_st (fun t k => XS.ifNo X132.here hx rfl (hb hby at_31) rfl ((if0 _ _).trans (feq (hc133 : ¬ ((i4 &&& (16 : Int32)) = (0 : Int32)))).1) k) ?_
      show own_Run p e below s _ _ _ (T132.setTop (mkF m 34 #[.val (.long j0), .second, .val (.long j1), .second, .val (.int i2), .val (.int i3), .val (.int i4), .val (.int (i4 &&& (7 : Int32))), .val (.ref t_TWO_PHASE_COMMIT), .unset, .unset, .unset, .unset, .unset, .unset, .unset, .unset, .unset, .unset, .unset, .unset] []))
      refine own_st (fun t k => XS.iconst X132.here hx rfl (hb hby at_34) k) ?_
      show own_Run p e below s _ _ _ (T132.setTop (mkF m 35 #[.val (.long j0), .second, .val (.long j1), .second, .val (.int i2), .val (.int i3), .val (.int i4), .val (.int (i4 &&& (7 : Int32))), .val (.ref t_TWO_PHASE_COMMIT), .unset, .unset, .unset, .unset, .unset, .unset, .unset, .unset, .unset, .unset, .unset, .unset] [(.int (1 : Int32))]))
      refine own_st (fun t k => XS.goto X132.here hx rfl (pc0 := 35) (pc' := 39) rfl (hb hby at_35) (by decide) (by decide) k) ?_
      show own_Run p e below s _ _ _ (T132.setTop (mkF m 39 #[.val (.long j0), .second, .val (.long j1), .second, .val (.int i2), .val (.int i3), .val (.int i4), .val (.int (i4 &&& (7 : Int32))), .val (.ref t_TWO_PHASE_COMMIT), .unset, .unset, .unset, .unset, .unset, .unset, .unset, .unset, .unset, .unset, .unset, .unset] [(.int (1 : Int32))]))
      refine own_st (fun t k => XS.istore X132.here hx rfl (hb hby at_39) rfl (l' := #[.val (.long j0), .second, .val (.long j1), .second, .val (.int i2), .val (.int i3), .val (.int i4), .val (.int (i4 &&& (7 : Int32))), .val (.ref t_TWO_PHASE_COMMIT), .val (.int (1 : Int32)), .unset, .unset, .unset, .unset, .unset, .unset, .unset, .unset, .unset, .unset, .unset]) rfl k) ?_
      show own_Run p e below s _ _ _ (T132.setTop (mkF m 41 #[.val (.long j0), .second, .val (.long j1), .second, .val (.int i2), .val (.int i3), .val (.int i4), .val (.int (i4 &&& (7 : Int32))), .val (.ref t_TWO_PHASE_COMMIT), .val (.int (1 : Int32)), .unset, .unset, .unset, .unset, .unset, .unset, .unset, .unset, .unset, .unset, .unset] []))
      refine own_st (fun t k => XS.iload X132.here hx rfl (hb hby at_41) rfl k) ?_
      show own_Run p e below s _ _ _ (T132.setTop (mkF m 43 #[.val (.long j0), .second, .val (.long j1), .second, .val (.int i2), .val (.int i3), .val (.int i4), .val (.int (i4 &&& (7 : Int32))), .val (.ref t_TWO_PHASE_COMMIT), .val (.int (1 : Int32)), .unset, .unset, .unset, .unset, .unset, .unset, .unset, .unset, .unset, .unset, .unset] [(.int i4)]))
      refine own_st (fun t k => XS.bipush X132.here hx rfl (hb hby at_43) k) ?_
      show own_Run p e below s _ _ _ (T132.setTop (mkF m 45 #[.val (.long j0), .second, .val (.long j1), .second, .val (.int i2), .val (.int i3), .val (.int i4), .val (.int (i4 &&& (7 : Int32))), .val (.ref t_TWO_PHASE_COMMIT), .val (.int (1 : Int32)), .unset, .unset, .unset, .unset, .unset, .unset, .unset, .unset, .unset, .unset, .unset] [(.int (32 : Int32)), (.int i4)]))
      refine own_st (fun t k => XS.iand X132.here hx rfl (hb hby at_45) rfl k) ?_
      show own_Run p e below s _ _ _ (T132.setTop (mkF m 46 #[.val (.long j0), .second, .val (.long j1), .second, .val (.int i2), .val (.int i3), .val (.int i4), .val (.int (i4 &&& (7 : Int32))), .val (.ref t_TWO_PHASE_COMMIT), .val (.int (1 : Int32)), .unset, .unset, .unset, .unset, .unset, .unset, .unset, .unset, .unset, .unset, .unset] [(.int (i4 &&& (32 : Int32)))]))
      by_cases hc135 : (i4 &&& (32 : Int32)) = (0 : Int32)
      · skip
        refine own_st (fun t k => XS.ifYes X132.here hx rfl (pc0 := 46) (pc' := 53) rfl (hb hby at_46) rfl ((if0 _ _).trans (teq (hc135 : (i4 &&& (32 : Int32)) = (0 : Int32))).1) (by decide) (by decide) k) ?_
        show own_Run p e below s _ _ _ (T132.setTop (mkF m 53 #[.val (.long j0), .second, .val (.long j1), .second, .val (.int i2), .val (.int i3), .val (.int i4), .val (.int (i4 &&& (7 : Int32))), .val (.ref t_TWO_PHASE_COMMIT), .val (.int (1 : Int32)), .unset, .unset, .unset, .unset, .unset, .unset, .unset, .unset, .unset, .unset, .unset] []))
        refine own_st (fun t k => XS.iconst X132.here hx rfl (hb hby at_53) k) ?_
        show own_Run p e below s _ _ _ (T132.setTop (mkF m 54 #[.val (.long j0), .second, .val (.long j1), .second, .val (.int i2), .val (.int i3), .val (.int i4), .val (.int (i4 &&& (7 : Int32))), .val (.ref t_TWO_PHASE_COMMIT), .val (.int (1 : Int32)), .unset, .unset, .unset, .unset, .unset, .unset, .unset, .unset, .unset, .unset, .unset] [(.int (0 : Int32))]))
        refine own_st (fun t k => XS.istore X132.here hx rfl (hb hby at_54) rfl (l' := #[.val (.long j0), .second, .val (.long j1), .second, .val (.int i2), .val (.int i3), .val (.int i4), .val (.int (i4 &&& (7 : Int32))), .val (.ref t_TWO_PHASE_COMMIT), .val (.int (1 : Int32)), .val (.int (0 : Int32)), .unset, .unset, .unset, .unset, .unset, .unset, .unset, .unset, .unset, .unset]) rfl k) ?_
        show own_Run p e below s _ _ _ (T132.setTop (mkF m 56 #[.val (.long j0), .second, .val (.long j1), .second, .val (.int i2), .val (.int i3), .val (.int i4), .val (.int (i4 &&& (7 : Int32))), .val (.ref t_TWO_PHASE_COMMIT), .val (.int (1 : Int32)), .val (.int (0 : Int32)), .unset, .unset, .unset, .unset, .unset, .unset, .unset, .unset, .unset, .unset] []))
        refine own_st (fun t k => XS.iload X132.here hx rfl (hb hby at_56) rfl k) ?_
        show own_Run p e below s _ _ _ (T132.setTop (mkF m 58 #[.val (.long j0), .second, .val (.long j1), .second, .val (.int i2), .val (.int i3), .val (.int i4), .val (.int (i4 &&& (7 : Int32))), .val (.ref t_TWO_PHASE_COMMIT), .val (.int (1 : Int32)), .val (.int (0 : Int32)), .unset, .unset, .unset, .unset, .unset, .unset, .unset, .unset, .unset, .unset] [(.int (1 : Int32))]))
        refine own_st (fun t k => XS.iload X132.here hx rfl (hb hby at_58) rfl k) ?_
        show own_Run p e below s _ _ _ (T132.setTop (mkF m 60 #[.val (.long j0), .second, .val (.long j1), .second, .val (.int i2), .val (.int i3), .val (.int i4), .val (.int (i4 &&& (7 : Int32))), .val (.ref t_TWO_PHASE_COMMIT), .val (.int (1 : Int32)), .val (.int (0 : Int32)), .unset, .unset, .unset, .unset, .unset, .unset, .unset, .unset, .unset, .unset] [(.int (0 : Int32)), (.int (1 : Int32))]))
        refine own_st (fun t k => XS.icmpNo X132.here hx rfl (hb hby at_60) rfl (feq (by decide : ¬ ((1 : Int32) = (0 : Int32)))).1 k) ?_
        show own_Run p e below s _ _ _ (T132.setTop (mkF m 63 #[.val (.long j0), .second, .val (.long j1), .second, .val (.int i2), .val (.int i3), .val (.int i4), .val (.int (i4 &&& (7 : Int32))), .val (.ref t_TWO_PHASE_COMMIT), .val (.int (1 : Int32)), .val (.int (0 : Int32)), .unset, .unset, .unset, .unset, .unset, .unset, .unset, .unset, .unset, .unset] []))
        refine own_st (fun t k => XS.iconst X132.here hx rfl (hb hby at_63) k) ?_
        show own_Run p e below s _ _ _ (T132.setTop (mkF m 64 #[.val (.long j0), .second, .val (.long j1), .second, .val (.int i2), .val (.int i3), .val (.int i4), .val (.int (i4 &&& (7 : Int32))), .val (.ref t_TWO_PHASE_COMMIT), .val (.int (1 : Int32)), .val (.int (0 : Int32)), .unset, .unset, .unset, .unset, .unset, .unset, .unset, .unset, .unset, .unset] [(.int (1 : Int32))]))
        refine own_st (fun t k => XS.goto X132.here hx rfl (pc0 := 64) (pc' := 68) rfl (hb hby at_64) (by decide) (by decide) k) ?_
        show own_Run p e below s _ _ _ (T132.setTop (mkF m 68 #[.val (.long j0), .second, .val (.long j1), .second, .val (.int i2), .val (.int i3), .val (.int i4), .val (.int (i4 &&& (7 : Int32))), .val (.ref t_TWO_PHASE_COMMIT), .val (.int (1 : Int32)), .val (.int (0 : Int32)), .unset, .unset, .unset, .unset, .unset, .unset, .unset, .unset, .unset, .unset] [(.int (1 : Int32))]))
        refine own_st (fun t k => XS.istore X132.here hx rfl (hb hby at_68) rfl (l' := #[.val (.long j0), .second, .val (.long j1), .second, .val (.int i2), .val (.int i3), .val (.int i4), .val (.int (i4 &&& (7 : Int32))), .val (.ref t_TWO_PHASE_COMMIT), .val (.int (1 : Int32)), .val (.int (0 : Int32)), .val (.int (1 : Int32)), .unset, .unset, .unset, .unset, .unset, .unset, .unset, .unset, .unset]) rfl k) ?_
        show own_Run p e below s _ _ _ (T132.setTop (mkF m 70 #[.val (.long j0), .second, .val (.long j1), .second, .val (.int i2), .val (.int i3), .val (.int i4), .val (.int (i4 &&& (7 : Int32))), .val (.ref t_TWO_PHASE_COMMIT), .val (.int (1 : Int32)), .val (.int (0 : Int32)), .val (.int (1 : Int32)), .unset, .unset, .unset, .unset, .unset, .unset, .unset, .unset, .unset] []))
        refine own_st (fun t k => XS.iload X132.here hx rfl (hb hby at_70) rfl k) ?_
        show own_Run p e below s _ _ _ (T132.setTop (mkF m 72 #[.val (.long j0), .second, .val (.long j1), .second, .val (.int i2), .val (.int i3), .val (.int i4), .val (.int (i4 &&& (7 : Int32))), .val (.ref t_TWO_PHASE_COMMIT), .val (.int (1 : Int32)), .val (.int (0 : Int32)), .val (.int (1 : Int32)), .unset, .unset, .unset, .unset, .unset, .unset, .unset, .unset, .unset] [(.int i3)]))
        refine own_st (X132.ldcInt hx hown (mvT hZ (hw _ (List.mem_of_getElem? (i := 3) rfl))) (g := (mkF m 72 #[.val (.long j0), .second, .val (.long j1), .second, .val (.int i2), .val (.int i3), .val (.int i4), .val (.int (i4 &&& (7 : Int32))), .val (.ref t_TWO_PHASE_COMMIT), .val (.int (1 : Int32)), .val (.int (0 : Int32)), .val (.int (1 : Int32)), .unset, .unset, .unset, .unset, .unset, .unset, .unset, .unset, .unset] [(.int i3)])) rfl (hb hby at_72)) ?_
        show own_Run p e below s _ _ _ (T132.setTop (mkF m 74 #[.val (.long j0), .second, .val (.long j1), .second, .val (.int i2), .val (.int i3), .val (.int i4), .val (.int (i4 &&& (7 : Int32))), .val (.ref t_TWO_PHASE_COMMIT), .val (.int (1 : Int32)), .val (.int (0 : Int32)), .val (.int (1 : Int32)), .unset, .unset, .unset, .unset, .unset, .unset, .unset, .unset, .unset] [(.int (1048576 : Int32)), (.int i3)]))
        refine own_st (fun t k => iremM X132 hx rfl (hb hby at_74) rfl (by decide) k) ?_
        show own_Run p e below s _ _ _ (T132.setTop (mkF m 75 #[.val (.long j0), .second, .val (.long j1), .second, .val (.int i2), .val (.int i3), .val (.int i4), .val (.int (i4 &&& (7 : Int32))), .val (.ref t_TWO_PHASE_COMMIT), .val (.int (1 : Int32)), .val (.int (0 : Int32)), .val (.int (1 : Int32)), .unset, .unset, .unset, .unset, .unset, .unset, .unset, .unset, .unset] [(.int (i3 % (1048576 : Int32)))]))
        obtain ⟨qv, h_qv⟩ : ∃ z, ((i3 % (1048576 : Int32)) : Int32) = z := ⟨_, rfl⟩
        refine own_topI h_qv ?_
        show own_Run p e below s _ _ _ (T132.setTop (mkF m 75 #[.val (.long j0), .second, .val (.long j1), .second, .val (.int i2), .val (.int i3), .val (.int i4), .val (.int (i4 &&& (7 : Int32))), .val (.ref t_TWO_PHASE_COMMIT), .val (.int (1 : Int32)), .val (.int (0 : Int32)), .val (.int (1 : Int32)), .unset, .unset, .unset, .unset, .unset, .unset, .unset, .unset, .unset] [(.int qv)]))
        have hq : qv.toInt.natAbs ≤ 1048575 := h_qv ▸ own_q20 i3
        refine own_st (fun t k => XS.istore X132.here hx rfl (hb hby at_75) rfl (l' := #[.val (.long j0), .second, .val (.long j1), .second, .val (.int i2), .val (.int i3), .val (.int i4), .val (.int (i4 &&& (7 : Int32))), .val (.ref t_TWO_PHASE_COMMIT), .val (.int (1 : Int32)), .val (.int (0 : Int32)), .val (.int (1 : Int32)), .val (.int qv), .unset, .unset, .unset, .unset, .unset, .unset, .unset, .unset]) rfl k) ?_
        show own_Run p e below s _ _ _ (T132.setTop (mkF m 77 #[.val (.long j0), .second, .val (.long j1), .second, .val (.int i2), .val (.int i3), .val (.int i4), .val (.int (i4 &&& (7 : Int32))), .val (.ref t_TWO_PHASE_COMMIT), .val (.int (1 : Int32)), .val (.int (0 : Int32)), .val (.int (1 : Int32)), .val (.int qv), .unset, .unset, .unset, .unset, .unset, .unset, .unset, .unset] []))
        exact own_tail l Z a0 hw T132 _ hx hby hml hZ hown hnm hret hlk j0 j1 i2 i3 i4 (i4 &&& (7 : Int32)) t_TWO_PHASE_COMMIT (1 : Int32) (0 : Int32) (1 : Int32) qv h0 n0 Z0 _ (X132.more (by decide) (by decide)) e132 N0 K0 O0 (hq) (by decide) (by decide) (by decide)
      · skip
        refine own_st (fun t k => XS.ifNo X132.here hx rfl (hb hby at_46) rfl ((if0 _ _).trans (feq (hc135 : ¬ ((i4 &&& (32 : Int32)) = (0 : Int32)))).1) k) ?_
        show own_Run p e below s _ _ _ (T132.setTop (mkF m 49 #[.val (.long j0), .second, .val (.long j1), .second, .val (.int i2), .val (.int i3), .val (.int i4), .val (.int (i4 &&& (7 : Int32))), .val (.ref t_TWO_PHASE_COMMIT), .val (.int (1 : Int32)), .unset, .unset, .unset, .unset, .unset, .unset, .unset, .unset, .unset, .unset, .unset] []))
        refine own_st (fun t k => XS.iconst X132.here hx rfl (hb hby at_49) k) ?_
        show own_Run p e below s _ _ _ (T132.setTop (mkF m 50 #[.val (.long j0), .second, .val (.long j1), .second, .val (.int i2), .val (.int i3), .val (.int i4), .val (.int (i4 &&& (7 : Int32))), .val (.ref t_TWO_PHASE_COMMIT), .val (.int (1 : Int32)), .unset, .unset, .unset, .unset, .unset, .unset, .unset, .unset, .unset, .unset, .unset] [(.int (1 : Int32))]))
        refine own_st (fun t k => XS.goto X132.here hx rfl (pc0 := 50) (pc' := 54) rfl (hb hby at_50) (by decide) (by decide) k) ?_
        show own_Run p e below s _ _ _ (T132.setTop (mkF m 54 #[.val (.long j0), .second, .val (.long j1), .second, .val (.int i2), .val (.int i3), .val (.int i4), .val (.int (i4 &&& (7 : Int32))), .val (.ref t_TWO_PHASE_COMMIT), .val (.int (1 : Int32)), .unset, .unset, .unset, .unset, .unset, .unset, .unset, .unset, .unset, .unset, .unset] [(.int (1 : Int32))]))
        refine own_st (fun t k => XS.istore X132.here hx rfl (hb hby at_54) rfl (l' := #[.val (.long j0), .second, .val (.long j1), .second, .val (.int i2), .val (.int i3), .val (.int i4), .val (.int (i4 &&& (7 : Int32))), .val (.ref t_TWO_PHASE_COMMIT), .val (.int (1 : Int32)), .val (.int (1 : Int32)), .unset, .unset, .unset, .unset, .unset, .unset, .unset, .unset, .unset, .unset]) rfl k) ?_
        show own_Run p e below s _ _ _ (T132.setTop (mkF m 56 #[.val (.long j0), .second, .val (.long j1), .second, .val (.int i2), .val (.int i3), .val (.int i4), .val (.int (i4 &&& (7 : Int32))), .val (.ref t_TWO_PHASE_COMMIT), .val (.int (1 : Int32)), .val (.int (1 : Int32)), .unset, .unset, .unset, .unset, .unset, .unset, .unset, .unset, .unset, .unset] []))
        refine own_st (fun t k => XS.iload X132.here hx rfl (hb hby at_56) rfl k) ?_
        show own_Run p e below s _ _ _ (T132.setTop (mkF m 58 #[.val (.long j0), .second, .val (.long j1), .second, .val (.int i2), .val (.int i3), .val (.int i4), .val (.int (i4 &&& (7 : Int32))), .val (.ref t_TWO_PHASE_COMMIT), .val (.int (1 : Int32)), .val (.int (1 : Int32)), .unset, .unset, .unset, .unset, .unset, .unset, .unset, .unset, .unset, .unset] [(.int (1 : Int32))]))
        refine own_st (fun t k => XS.iload X132.here hx rfl (hb hby at_58) rfl k) ?_
        show own_Run p e below s _ _ _ (T132.setTop (mkF m 60 #[.val (.long j0), .second, .val (.long j1), .second, .val (.int i2), .val (.int i3), .val (.int i4), .val (.int (i4 &&& (7 : Int32))), .val (.ref t_TWO_PHASE_COMMIT), .val (.int (1 : Int32)), .val (.int (1 : Int32)), .unset, .unset, .unset, .unset, .unset, .unset, .unset, .unset, .unset, .unset] [(.int (1 : Int32)), (.int (1 : Int32))]))
        refine own_st (fun t k => XS.icmpYes X132.here hx rfl (pc0 := 60) (pc' := 67) rfl (hb hby at_60) rfl (teq (by decide : (1 : Int32) = (1 : Int32))).1 (by decide) (by decide) k) ?_
        show own_Run p e below s _ _ _ (T132.setTop (mkF m 67 #[.val (.long j0), .second, .val (.long j1), .second, .val (.int i2), .val (.int i3), .val (.int i4), .val (.int (i4 &&& (7 : Int32))), .val (.ref t_TWO_PHASE_COMMIT), .val (.int (1 : Int32)), .val (.int (1 : Int32)), .unset, .unset, .unset, .unset, .unset, .unset, .unset, .unset, .unset, .unset] []))
        refine own_st (fun t k => XS.iconst X132.here hx rfl (hb hby at_67) k) ?_
        show own_Run p e below s _ _ _ (T132.setTop (mkF m 68 #[.val (.long j0), .second, .val (.long j1), .second, .val (.int i2), .val (.int i3), .val (.int i4), .val (.int (i4 &&& (7 : Int32))), .val (.ref t_TWO_PHASE_COMMIT), .val (.int (1 : Int32)), .val (.int (1 : Int32)), .unset, .unset, .unset, .unset, .unset, .unset, .unset, .unset, .unset, .unset] [(.int (0 : Int32))]))
        refine own_st (fun t k => XS.istore X132.here hx rfl (hb hby at_68) rfl (l' := #[.val (.long j0), .second, .val (.long j1), .second, .val (.int i2), .val (.int i3), .val (.int i4), .val (.int (i4 &&& (7 : Int32))), .val (.ref t_TWO_PHASE_COMMIT), .val (.int (1 : Int32)), .val (.int (1 : Int32)), .val (.int (0 : Int32)), .unset, .unset, .unset, .unset, .unset, .unset, .unset, .unset, .unset]) rfl k) ?_
        show own_Run p e below s _ _ _ (T132.setTop (mkF m 70 #[.val (.long j0), .second, .val (.long j1), .second, .val (.int i2), .val (.int i3), .val (.int i4), .val (.int (i4 &&& (7 : Int32))), .val (.ref t_TWO_PHASE_COMMIT), .val (.int (1 : Int32)), .val (.int (1 : Int32)), .val (.int (0 : Int32)), .unset, .unset, .unset, .unset, .unset, .unset, .unset, .unset, .unset] []))
        refine own_st (fun t k => XS.iload X132.here hx rfl (hb hby at_70) rfl k) ?_
        show own_Run p e below s _ _ _ (T132.setTop (mkF m 72 #[.val (.long j0), .second, .val (.long j1), .second, .val (.int i2), .val (.int i3), .val (.int i4), .val (.int (i4 &&& (7 : Int32))), .val (.ref t_TWO_PHASE_COMMIT), .val (.int (1 : Int32)), .val (.int (1 : Int32)), .val (.int (0 : Int32)), .unset, .unset, .unset, .unset, .unset, .unset, .unset, .unset, .unset] [(.int i3)]))
        refine own_st (X132.ldcInt hx hown (mvT hZ (hw _ (List.mem_of_getElem? (i := 3) rfl))) (g := (mkF m 72 #[.val (.long j0), .second, .val (.long j1), .second, .val (.int i2), .val (.int i3), .val (.int i4), .val (.int (i4 &&& (7 : Int32))), .val (.ref t_TWO_PHASE_COMMIT), .val (.int (1 : Int32)), .val (.int (1 : Int32)), .val (.int (0 : Int32)), .unset, .unset, .unset, .unset, .unset, .unset, .unset, .unset, .unset] [(.int i3)])) rfl (hb hby at_72)) ?_
        show own_Run p e below s _ _ _ (T132.setTop (mkF m 74 #[.val (.long j0), .second, .val (.long j1), .second, .val (.int i2), .val (.int i3), .val (.int i4), .val (.int (i4 &&& (7 : Int32))), .val (.ref t_TWO_PHASE_COMMIT), .val (.int (1 : Int32)), .val (.int (1 : Int32)), .val (.int (0 : Int32)), .unset, .unset, .unset, .unset, .unset, .unset, .unset, .unset, .unset] [(.int (1048576 : Int32)), (.int i3)]))
        refine own_st (fun t k => iremM X132 hx rfl (hb hby at_74) rfl (by decide) k) ?_
        show own_Run p e below s _ _ _ (T132.setTop (mkF m 75 #[.val (.long j0), .second, .val (.long j1), .second, .val (.int i2), .val (.int i3), .val (.int i4), .val (.int (i4 &&& (7 : Int32))), .val (.ref t_TWO_PHASE_COMMIT), .val (.int (1 : Int32)), .val (.int (1 : Int32)), .val (.int (0 : Int32)), .unset, .unset, .unset, .unset, .unset, .unset, .unset, .unset, .unset] [(.int (i3 % (1048576 : Int32)))]))
        obtain ⟨qv, h_qv⟩ : ∃ z, ((i3 % (1048576 : Int32)) : Int32) = z := ⟨_, rfl⟩
        refine own_topI h_qv ?_
        show own_Run p e below s _ _ _ (T132.setTop (mkF m 75 #[.val (.long j0), .second, .val (.long j1), .second, .val (.int i2), .val (.int i3), .val (.int i4), .val (.int (i4 &&& (7 : Int32))), .val (.ref t_TWO_PHASE_COMMIT), .val (.int (1 : Int32)), .val (.int (1 : Int32)), .val (.int (0 : Int32)), .unset, .unset, .unset, .unset, .unset, .unset, .unset, .unset, .unset] [(.int qv)]))
        have hq : qv.toInt.natAbs ≤ 1048575 := h_qv ▸ own_q20 i3
        refine own_st (fun t k => XS.istore X132.here hx rfl (hb hby at_75) rfl (l' := #[.val (.long j0), .second, .val (.long j1), .second, .val (.int i2), .val (.int i3), .val (.int i4), .val (.int (i4 &&& (7 : Int32))), .val (.ref t_TWO_PHASE_COMMIT), .val (.int (1 : Int32)), .val (.int (1 : Int32)), .val (.int (0 : Int32)), .val (.int qv), .unset, .unset, .unset, .unset, .unset, .unset, .unset, .unset]) rfl k) ?_
        show own_Run p e below s _ _ _ (T132.setTop (mkF m 77 #[.val (.long j0), .second, .val (.long j1), .second, .val (.int i2), .val (.int i3), .val (.int i4), .val (.int (i4 &&& (7 : Int32))), .val (.ref t_TWO_PHASE_COMMIT), .val (.int (1 : Int32)), .val (.int (1 : Int32)), .val (.int (0 : Int32)), .val (.int qv), .unset, .unset, .unset, .unset, .unset, .unset, .unset, .unset] []))
        exact own_tail l Z a0 hw T132 _ hx hby hml hZ hown hnm hret hlk j0 j1 i2 i3 i4 (i4 &&& (7 : Int32)) t_TWO_PHASE_COMMIT (1 : Int32) (1 : Int32) (0 : Int32) qv h0 n0 Z0 _ (X132.more (by decide) (by decide)) e132 N0 K0 O0 (hq) (by decide) (by decide) (by decide)
set_option maxRecDepth 65536 in
set_option maxHeartbeats 40000000 in
theorem own_comes_1 {Post : Tables → Env → Array Value → State → Outcome → State → Prop} (hpost : ∀ tb e args s v u, (limb_1_1.after args s (.returned v) u = true ∧ limb_1_2.after args s (.returned v) u = true ∧ True) → FrameEnd s (.returned v) u (Jvm.fieldLocs frame_1_writes args s ++ Jvm.arrayLocs frame_1_arrays args s ++ Jvm.staticLocs frame_1_statics s) 16 128 → Post tb e args s (.returned v) u) :
    ArmFor flags0 classFile x code maxLocals ret World_1 tables_1 room_1 Calls_1 rest_1 Pre_1 Post := by
  intro l hfl _ _ p e ha hc hk s m args below hf hA hF happ hP
  obtain ⟨hcalls, hrest, hpre⟩ := hP
  obtain ⟨-, -, -, hnamed, -, -, -, hat⟩ := (Spec.applies_iff hf).mp happ
  obtain ⟨hg, hn⟩ := and_e (Cond.before_iff.mp (show (Jvm.Cond.and given_1 narrow_1).before args s = true from hpre))
  obtain ⟨gv1, gv2⟩ := and_e hg
  obtain ⟨gv3, gv4⟩ := and_e gv2
  obtain ⟨gv5, gv6⟩ := and_e gv4
  obtain ⟨gv7, gv8⟩ := and_e gv6
  obtain ⟨gv9, gv10⟩ := and_e gv8
  obtain ⟨w0, w1, w2, w3, w4, rfl⟩ : ∃ w0 w1 w2 w3 w4 : Value, args = #[w0, w1, w2, w3, w4] := by
    have hs : args.size = 5 := by simpa [Cond.value, given_1] using gv1
    obtain ⟨L⟩ := args
    match L, hs with
    | [w0, w1, w2, w3, w4], _ => exact ⟨w0, w1, w2, w3, w4, rfl⟩
  have hw := fun d (hd : d ∈ tables_1) => atoms_spec (ws := Jvm.Cond.code x code maxLocals ret :: tables_1) hat d (List.mem_cons_of_mem _ hd)
  have hfit : Fit s := fun {y c} hc i hi => by
    obtain ⟨ha, rfl⟩ := Array.getElem?_eq_some_iff.mp hc
    have q := List.all_eq_true.mp ((Array.all_eq_true_iff_forall_mem.mp hF) _ (Array.getElem_mem ha)) i (List.mem_range.mpr hi)
    simpa [Array.getElem?_eq_getElem hi] using q
  obtain ⟨i0, ei0⟩ := isL_v gv3
  obtain rfl : w0 = (.long i0) := Option.some.inj ei0
  obtain ⟨i1, ei1⟩ := isL_v gv5
  obtain rfl : w1 = (.long i1) := Option.some.inj ei1
  obtain ⟨i2, ei2⟩ := is_v gv7
  obtain rfl : w2 = (.int i2) := Option.some.inj ei2
  obtain ⟨i3, ei3⟩ := is_v gv9
  obtain rfl : w3 = (.int i3) := Option.some.inj ei3
  obtain ⟨i4, ei4⟩ := is_v gv10
  obtain rfl : w4 = (.int i4) := Option.some.inj ei4
  obtain ⟨hn1, hn2⟩ := and_e hn
  obtain ⟨t1, et1⟩ := exa_v hn1
  obtain ⟨t2, et2⟩ := exa_v hn2
  have S1 := Sta.start et1 (Or.inr ⟨(hw _ (List.mem_of_getElem? (i := 1) rfl)), (hw _ (List.mem_of_getElem? (i := 2) rfl))⟩)
  have S2 := Sta.start et2 (Or.inr ⟨(hw _ (List.mem_of_getElem? (i := 1) rfl)), (hw _ (List.mem_of_getElem? (i := 46) rfl))⟩)
  obtain ⟨n, o, h1, h2, h3, _, L, rfl, ⟨rfl, N⟩, hq⟩ := own_rm0 l s _ hw tables_1 i0 i1 i2 i3 i4 t2 t1 s.heap s.heap.size (Nat.le_refl _) (Old.start s) S2 S1 p e ha hc hk s m _ below hf ((Spec.applies_iff_loose hf).mp happ).1 ⟨rfl, State.Warmed39.refl s, rfl⟩ trivial
  refine ⟨n, _, h1, h2, h3, hpost _ _ _ _ _ _ ⟨Cond.after_iff.mpr rfl, Cond.after_iff.mpr (eq_i res_at (Term.int_eval (1)) rfl), trivial⟩ ⟨hq.1, hq.2.1, (hq.2.2.sift fun y hy => Or.inr (N y hy)).mono (by decide) (by decide)⟩⟩
theorem main_1_1 : Claimed_1_1 := own_comes_1 fun _ _ _ _ _ _ h hF => ⟨h.1, hF⟩
theorem main_1_2 : Claimed_1_2 := own_comes_1 fun _ _ _ _ _ _ h hF => ⟨h.2.1, hF⟩
end Jvm.Pilot.@@N@@
namespace Jvm.Pilot.@@N@@
open Jvm Jvm.ClassFile Sem Op Lib Jvm.Free Jvm.Stand Jvm.Pilot.@@N@@.Jvm.D
/-! MADE BY PROGRAM (witnessworld.py) out of the Statement's table words and the real class files: 15 classes; the members and pool entries that the words name. The judged class is class 1, her method 1. -/
namespace start1
open Jvm.ClassFile
def u (s : String) : CpInfo := .utf8 (stringToUtf16 s)
/-- a pool by its gaps: so many unusable entries, then the entry; so many at the end -/
def gap : Nat → List CpInfo → List CpInfo
  | 0, r => r
  | n + 1, r => .unusable :: gap n r
def poolList (es : List (Nat × CpInfo)) (last : Nat) : List CpInfo := es.foldr (fun e r => gap e.1 (e.2 :: r)) (gap last [])
def pool (es : List (Nat × CpInfo)) (last : Nat) : Array CpInfo := ⟨poolList es last⟩
def fileOf (pool : Array CpInfo) (this : Nat) (attrs : Array Attribute := #[]) (ms : Array MethodInfo := #[]) (fl : Nat := 33) (sup : Nat := 0) (ifs : Array Nat := #[]) (fds : Array FieldInfo := #[]) : ClassFile where
  minorVersion := 0
  majorVersion := 65
  constantPool := pool
  accessFlags := fl
  thisClass := this
  superClass := sup
  interfaces := ifs
  fields := fds
  methods := ms
  attributes := attrs
def plain (name : String) (sup : Option ClassId) : Class where
  name := name
  kind := .ordinary
  loader := none
  accessFlags := 33
  super := sup
  interfaces := #[]
  cf := none
  fields := #[]
  methods := #[]
  instanceTypes := #[]
  staticTypes := #[]
  resolved := #[]
  callSites := []
  init := .initialized
  statics := none
  mirror := none

def pool0 : Array CpInfo := pool [(5, u "<init>"), (0, u "()V"), (1, .class_ 10), (1, u "java/lang/Object")] 113

def k0c0 : Code := { maxStack := 0, maxLocals := 1, code := object_method_1_code, exceptionTable := #[], attributes := #[] }
def k0m0 : Method := { name := "<init>", desc := "()V", sig := { parameters := [], returnType := none }, accessFlags := 1, code := some k0c0 }
/-- java/lang/Object -/
def k0 : Class := { plain "java/lang/Object" none with
  accessFlags := 33
  interfaces := #[]
  cf := some (fileOf pool0 8 #[] #[{ accessFlags := 1, nameIndex := 5, descriptorIndex := 6, attributes := #[] }] 33 0 #[] #[])
  fields := #[]
  methods := #[k0m0]
  instanceTypes := #[]
  staticTypes := #[]
  resolved := Array.replicate 124 none
  statics := none }

def pool1 : Array CpInfo := pool [(2, .class_ 4), (1, u "java/lang/Object"), (0, u "<init>"), (0, u "()V"), (0, .fieldref 8 9), (0, .class_ 10), (0, .nameAndType 11 12), (0, u "com/example/tunegrid/tunegrid/Replication$Kind"), (0, u "TWO_PHASE_COMMIT"), (0, u "Lcom/example/tunegrid/tunegrid/Replication$Kind;"), (0, .fieldref 8 14), (0, .nameAndType 15 12), (0, u "PRIMARY_BACKUP"), (0, .integer 1048576), (0, .methodref 18 19), (0, .class_ 20), (0, .nameAndType 21 22), (0, u "com/example/tunegrid/tunegrid/IntervalContentionPinLaw"), (0, u "contention"), (0, u "(Lcom/example/tunegrid/tunegrid/Replication$Kind;JJ)D"), (0, .integer 1048575), (0, .integer 524287), (0, .long 2), (1, .long 2147483647), (3, .long 9223372036854775807), (1, .methodref 34 35), (0, .class_ 36), (0, .nameAndType 37 38), (0, u "java/lang/Math"), (0, u "min"), (0, u "(JJ)J"), (0, .class_ 40), (0, u "com/example/tunegrid/tunegrid/TuningPolicy$Interval"), (0, .methodref 39 42), (0, .nameAndType 5 43), (0, u "(Lcom/example/tunegrid/tunegrid/Replication$Kind;IDJJJJJJ)V"), (0, .methodref 39 45), (0, .nameAndType 21 46), (0, u "()D"), (2, u "law"), (0, u "(JJIII)Z")] 10

def k1m0 : Method := { name := "<init>", desc := "()V", sig := { parameters := [], returnType := none }, accessFlags := 1, code := none }
def k1c1 : Code := { maxStack := 6, maxLocals := 21, code := code, exceptionTable := #[], attributes := #[] }
def k1m1 : Method := { name := "law", desc := "(JJIII)Z", sig := { parameters := [.long, .long, .int, .int, .int], returnType := some .boolean }, accessFlags := 9, code := some k1c1 }
def k1c2 : Code := { maxStack := 18, maxLocals := 5, code := method_3_code, exceptionTable := #[], attributes := #[] }
def k1m2 : Method := { name := "contention", desc := "(Lcom/example/tunegrid/tunegrid/Replication$Kind;JJ)D", sig := { parameters := [(.object "com/example/tunegrid/tunegrid/Replication$Kind"), .long, .long], returnType := some .double }, accessFlags := 10, code := some k1c2 }
/-- com/example/tunegrid/tunegrid/IntervalContentionPinLaw -/
def k1 : Class := { plain "com/example/tunegrid/tunegrid/IntervalContentionPinLaw" (some 0) with
  accessFlags := 49
  interfaces := #[]
  cf := some (fileOf pool1 18 #[] #[{ accessFlags := 1, nameIndex := 5, descriptorIndex := 6, attributes := #[] }, { accessFlags := 9, nameIndex := 49, descriptorIndex := 50, attributes := #[] }, { accessFlags := 10, nameIndex := 21, descriptorIndex := 22, attributes := #[] }] 49 2 #[] #[])
  fields := #[]
  methods := #[k1m0, k1m1, k1m2]
  instanceTypes := #[]
  staticTypes := #[]
  resolved := Array.replicate 61 none
  statics := none }

def pool2 : Array CpInfo := pool [(1, .class_ 2), (0, u "java/lang/constant/Constable"), (0, .class_ 4), (0, u "java/lang/Object")] 6

/-- java/lang/constant/Constable -/
def k2 : Class := { plain "java/lang/constant/Constable" (some 0) with
  accessFlags := 1537
  interfaces := #[]
  cf := some (fileOf pool2 1 #[] #[] 1537 3 #[] #[])
  fields := #[]
  methods := #[]
  instanceTypes := #[]
  staticTypes := #[]
  resolved := Array.replicate 11 none
  statics := none }

def pool3 : Array CpInfo := pool [(1, .class_ 2), (0, u "java/lang/Comparable"), (0, .class_ 4), (0, u "java/lang/Object")] 7

/-- java/lang/Comparable -/
def k3 : Class := { plain "java/lang/Comparable" (some 0) with
  accessFlags := 1537
  interfaces := #[]
  cf := some (fileOf pool3 1 #[] #[] 1537 3 #[] #[])
  fields := #[]
  methods := #[]
  instanceTypes := #[]
  staticTypes := #[]
  resolved := Array.replicate 12 none
  statics := none }

def pool4 : Array CpInfo := pool [(1, .class_ 2), (0, u "java/io/Serializable"), (0, .class_ 4), (0, u "java/lang/Object")] 2

/-- java/io/Serializable -/
def k4 : Class := { plain "java/io/Serializable" (some 0) with
  accessFlags := 1537
  interfaces := #[]
  cf := some (fileOf pool4 1 #[] #[] 1537 3 #[] #[])
  fields := #[]
  methods := #[]
  instanceTypes := #[]
  staticTypes := #[]
  resolved := Array.replicate 7 none
  statics := none }

def pool5 : Array CpInfo := pool [(2, .class_ 4), (1, u "java/lang/Enum"), (0, u "name"), (0, u "Ljava/lang/String;"), (2, u "ordinal"), (0, u "I"), (1, .class_ 14), (1, u "java/lang/Object"), (4, u "hash"), (86, .class_ 108), (1, u "java/lang/Enum$EnumDesc"), (2, .class_ 112), (0, u "java/lang/constant/Constable"), (0, .class_ 114), (0, u "java/lang/Comparable"), (0, .class_ 116), (0, u "java/io/Serializable")] 87

/-- java/lang/Enum -/
def k5 : Class := { plain "java/lang/Enum" (some 0) with
  accessFlags := 1057
  interfaces := #[2, 3, 4]
  cf := some (fileOf pool5 2 #[.nestMembers #[106]] #[] 1057 12 #[111, 113, 115] #[{ accessFlags := 18, nameIndex := 5, descriptorIndex := 6, attributes := #[] }, { accessFlags := 18, nameIndex := 9, descriptorIndex := 10, attributes := #[] }, { accessFlags := 2, nameIndex := 19, descriptorIndex := 10, attributes := #[] }])
  fields := #[{ name := "name", type := (.object "java/lang/String"), accessFlags := 18, slot := 0, constantValue := 0 }, { name := "ordinal", type := .int, accessFlags := 18, slot := 1, constantValue := 0 }, { name := "hash", type := .int, accessFlags := 2, slot := 2, constantValue := 0 }]
  methods := #[]
  instanceTypes := #[(.object "java/lang/String"), .int, .int]
  staticTypes := #[]
  resolved := Array.replicate 204 none
  statics := none }

def pool6 : Array CpInfo := pool [(1, .class_ 2), (0, u "com/example/tunegrid/tunegrid/Replication$Kind"), (2, u "TWO_PHASE_COMMIT"), (0, u "Lcom/example/tunegrid/tunegrid/Replication$Kind;"), (2, u "PRIMARY_BACKUP"), (2, u "$VALUES"), (0, u "[Lcom/example/tunegrid/tunegrid/Replication$Kind;"), (6, .class_ 22), (1, u "java/lang/Enum"), (8, u "word"), (0, u "Ljava/lang/String;"), (80, .class_ 114), (0, u "com/example/tunegrid/tunegrid/Replication")] 2

/-- com/example/tunegrid/tunegrid/Replication$Kind -/
def k6 : Class := { plain "com/example/tunegrid/tunegrid/Replication$Kind" (some 5) with
  accessFlags := 16433
  interfaces := #[]
  cf := some (fileOf pool6 1 #[.nestHost 113] #[] 16433 20 #[] #[{ accessFlags := 16409, nameIndex := 5, descriptorIndex := 6, attributes := #[] }, { accessFlags := 16409, nameIndex := 9, descriptorIndex := 6, attributes := #[] }, { accessFlags := 18, nameIndex := 31, descriptorIndex := 32, attributes := #[] }, { accessFlags := 4122, nameIndex := 12, descriptorIndex := 13, attributes := #[] }])
  fields := #[{ name := "TWO_PHASE_COMMIT", type := (.object "com/example/tunegrid/tunegrid/Replication$Kind"), accessFlags := 16409, slot := 0, constantValue := 0 }, { name := "PRIMARY_BACKUP", type := (.object "com/example/tunegrid/tunegrid/Replication$Kind"), accessFlags := 16409, slot := 1, constantValue := 0 }, { name := "word", type := (.object "java/lang/String"), accessFlags := 18, slot := 3, constantValue := 0 }, { name := "$VALUES", type := (.array (.object "com/example/tunegrid/tunegrid/Replication$Kind")), accessFlags := 4122, slot := 2, constantValue := 0 }]
  methods := #[]
  instanceTypes := #[(.object "java/lang/String"), .int, .int, (.object "java/lang/String")]
  staticTypes := #[(.object "com/example/tunegrid/tunegrid/Replication$Kind"), (.object "com/example/tunegrid/tunegrid/Replication$Kind"), (.array (.object "com/example/tunegrid/tunegrid/Replication$Kind"))]
  resolved := Array.replicate 117 none
  statics := some 0 }

def pool7 : Array CpInfo := pool [(1, .methodref 2 3), (0, .class_ 4), (0, .nameAndType 5 6), (0, u "java/lang/Object"), (0, u "<init>"), (0, u "()V"), (0, .class_ 8), (0, u "java/lang/Record")] 13

def k7c0 : Code := { maxStack := 1, maxLocals := 1, code := jdk_30_method_1_code, exceptionTable := #[], attributes := #[] }
def k7m0 : Method := { name := "<init>", desc := "()V", sig := { parameters := [], returnType := none }, accessFlags := 4, code := some k7c0 }
/-- java/lang/Record -/
def k7 : Class := { plain "java/lang/Record" (some 0) with
  accessFlags := 1057
  interfaces := #[]
  cf := some (fileOf pool7 7 #[] #[{ accessFlags := 4, nameIndex := 5, descriptorIndex := 6, attributes := #[] }] 1057 2 #[] #[])
  fields := #[]
  methods := #[k7m0]
  instanceTypes := #[]
  staticTypes := #[]
  resolved := Array.replicate 22 none
  statics := none }

def pool8 : Array CpInfo := pool [(1, .class_ 2), (0, u "com/example/tunegrid/tunegrid/TuningPolicy"), (0, .methodref 4 5), (0, .class_ 6), (0, .nameAndType 7 8), (0, u "java/lang/Record"), (0, u "<init>"), (0, u "()V"), (0, .fieldref 10 11), (0, .class_ 12), (0, .nameAndType 13 14), (0, u "com/example/tunegrid/tunegrid/TuningPolicy$Interval"), (0, u "protocol"), (0, u "Lcom/example/tunegrid/tunegrid/Replication$Kind;"), (0, .fieldref 10 16), (0, .nameAndType 17 18), (0, u "members"), (0, u "I"), (0, .fieldref 10 20), (0, .nameAndType 21 22), (0, u "seconds"), (0, u "D"), (0, .fieldref 10 24), (0, .nameAndType 25 26), (0, u "commits"), (0, u "J"), (0, .fieldref 10 28), (0, .nameAndType 29 26), (0, u "readOnly"), (0, .fieldref 10 31), (0, .nameAndType 32 26), (0, u "updates"), (0, .fieldref 10 34), (0, .nameAndType 35 26), (0, u "puts"), (0, .fieldref 10 37), (0, .nameAndType 38 26), (0, u "claims"), (0, .fieldref 10 40), (0, .nameAndType 41 26), (0, u "contended"), (82, u "(Lcom/example/tunegrid/tunegrid/Replication$Kind;IDJJJJJJ)V"), (5, u "()D"), (11, u "contention")] 77

def k8c0 : Code := { maxStack := 3, maxLocals := 17, code := prog_87_method_1_code, exceptionTable := #[], attributes := #[] }
def k8m0 : Method := { name := "<init>", desc := "(Lcom/example/tunegrid/tunegrid/Replication$Kind;IDJJJJJJ)V", sig := { parameters := [(.object "com/example/tunegrid/tunegrid/Replication$Kind"), .int, .double, .long, .long, .long, .long, .long, .long], returnType := none }, accessFlags := 0, code := some k8c0 }
def k8c1 : Code := { maxStack := 4, maxLocals := 1, code := prog_87_method_6_code, exceptionTable := #[], attributes := #[] }
def k8m1 : Method := { name := "contention", desc := "()D", sig := { parameters := [], returnType := some .double }, accessFlags := 0, code := some k8c1 }
/-- com/example/tunegrid/tunegrid/TuningPolicy$Interval -/
def k8 : Class := { plain "com/example/tunegrid/tunegrid/TuningPolicy$Interval" (some 7) with
  accessFlags := 48
  interfaces := #[]
  cf := some (fileOf pool8 10 #[.nestHost 1] #[{ accessFlags := 0, nameIndex := 7, descriptorIndex := 124, attributes := #[] }, { accessFlags := 0, nameIndex := 142, descriptorIndex := 130, attributes := #[] }] 48 4 #[] #[{ accessFlags := 18, nameIndex := 13, descriptorIndex := 14, attributes := #[] }, { accessFlags := 18, nameIndex := 17, descriptorIndex := 18, attributes := #[] }, { accessFlags := 18, nameIndex := 21, descriptorIndex := 22, attributes := #[] }, { accessFlags := 18, nameIndex := 25, descriptorIndex := 26, attributes := #[] }, { accessFlags := 18, nameIndex := 29, descriptorIndex := 26, attributes := #[] }, { accessFlags := 18, nameIndex := 32, descriptorIndex := 26, attributes := #[] }, { accessFlags := 18, nameIndex := 35, descriptorIndex := 26, attributes := #[] }, { accessFlags := 18, nameIndex := 38, descriptorIndex := 26, attributes := #[] }, { accessFlags := 18, nameIndex := 41, descriptorIndex := 26, attributes := #[] }])
  fields := #[{ name := "protocol", type := (.object "com/example/tunegrid/tunegrid/Replication$Kind"), accessFlags := 18, slot := 0, constantValue := 0 }, { name := "members", type := .int, accessFlags := 18, slot := 1, constantValue := 0 }, { name := "seconds", type := .double, accessFlags := 18, slot := 2, constantValue := 0 }, { name := "commits", type := .long, accessFlags := 18, slot := 3, constantValue := 0 }, { name := "readOnly", type := .long, accessFlags := 18, slot := 4, constantValue := 0 }, { name := "updates", type := .long, accessFlags := 18, slot := 5, constantValue := 0 }, { name := "puts", type := .long, accessFlags := 18, slot := 6, constantValue := 0 }, { name := "claims", type := .long, accessFlags := 18, slot := 7, constantValue := 0 }, { name := "contended", type := .long, accessFlags := 18, slot := 8, constantValue := 0 }]
  methods := #[k8m0, k8m1]
  instanceTypes := #[(.object "com/example/tunegrid/tunegrid/Replication$Kind"), .int, .double, .long, .long, .long, .long, .long, .long]
  staticTypes := #[]
  resolved := Array.replicate 220 none
  statics := none }

def pool9 : Array CpInfo := pool [(1, .class_ 2), (0, u "java/lang/Math"), (1, .class_ 6), (1, u "java/lang/Object"), (0, u "<init>"), (0, u "()V"), (89, .class_ 100), (1, u "java/lang/Math$RandomNumberGeneratorHolder"), (20, u "(JJ)J"), (50, u "negativeZeroFloatBits"), (0, u "J"), (2, u "negativeZeroDoubleBits"), (24, u "min"), (43, u "$assertionsDisabled"), (0, u "Z"), (91, u "twoToTheDoubleScaleDown"), (0, u "D"), (4, u "twoToTheDoubleScaleUp"), (9, u "E"), (3, u "PI"), (2, u "TAU"), (2, u "DEGREES_TO_RADIANS"), (0, u "RADIANS_TO_DEGREES")] 94

def k9m0 : Method := { name := "<init>", desc := "()V", sig := { parameters := [], returnType := none }, accessFlags := 2, code := none }
def k9c1 : Code := { maxStack := 4, maxLocals := 4, code := jdk_29_method_70_code, exceptionTable := #[], attributes := #[] }
def k9m1 : Method := { name := "min", desc := "(JJ)J", sig := { parameters := [.long, .long], returnType := some .long }, accessFlags := 9, code := some k9c1 }
/-- java/lang/Math -/
def k9 : Class := { plain "java/lang/Math" (some 0) with
  accessFlags := 49
  interfaces := #[]
  cf := some (fileOf pool9 1 #[.nestMembers #[98]] #[{ accessFlags := 2, nameIndex := 7, descriptorIndex := 8, attributes := #[] }, { accessFlags := 9, nameIndex := 201, descriptorIndex := 121, attributes := #[] }] 49 4 #[] #[{ accessFlags := 25, nameIndex := 354, descriptorIndex := 339, attributes := #[] }, { accessFlags := 25, nameIndex := 358, descriptorIndex := 339, attributes := #[] }, { accessFlags := 25, nameIndex := 361, descriptorIndex := 339, attributes := #[] }, { accessFlags := 26, nameIndex := 364, descriptorIndex := 339, attributes := #[] }, { accessFlags := 26, nameIndex := 365, descriptorIndex := 339, attributes := #[] }, { accessFlags := 26, nameIndex := 172, descriptorIndex := 173, attributes := #[] }, { accessFlags := 26, nameIndex := 176, descriptorIndex := 173, attributes := #[] }, { accessFlags := 8, nameIndex := 344, descriptorIndex := 339, attributes := #[] }, { accessFlags := 8, nameIndex := 338, descriptorIndex := 339, attributes := #[] }, { accessFlags := 4120, nameIndex := 245, descriptorIndex := 246, attributes := #[] }])
  fields := #[{ name := "E", type := .double, accessFlags := 25, slot := 0, constantValue := 0 }, { name := "PI", type := .double, accessFlags := 25, slot := 1, constantValue := 0 }, { name := "TAU", type := .double, accessFlags := 25, slot := 2, constantValue := 0 }, { name := "DEGREES_TO_RADIANS", type := .double, accessFlags := 26, slot := 3, constantValue := 0 }, { name := "RADIANS_TO_DEGREES", type := .double, accessFlags := 26, slot := 4, constantValue := 0 }, { name := "negativeZeroFloatBits", type := .long, accessFlags := 26, slot := 5, constantValue := 0 }, { name := "negativeZeroDoubleBits", type := .long, accessFlags := 26, slot := 6, constantValue := 0 }, { name := "twoToTheDoubleScaleUp", type := .double, accessFlags := 8, slot := 7, constantValue := 0 }, { name := "twoToTheDoubleScaleDown", type := .double, accessFlags := 8, slot := 8, constantValue := 0 }, { name := "$assertionsDisabled", type := .boolean, accessFlags := 4120, slot := 9, constantValue := 0 }]
  methods := #[k9m0, k9m1]
  instanceTypes := #[]
  staticTypes := #[.double, .double, .double, .double, .double, .long, .long, .double, .double, .boolean]
  resolved := Array.replicate 460 none
  statics := none }

def pool10 : Array CpInfo := pool [(1, u "java/lang/Cloneable"), (0, .class_ 1), (0, u "java/lang/Object"), (0, .class_ 3)] 3

/-- java/lang/Cloneable -/
def k10 : Class := { plain "java/lang/Cloneable" (some 0) with
  accessFlags := 1537
  interfaces := #[]
  cf := some (fileOf pool10 2 #[] #[] 1537 4 #[] #[])
  fields := #[]
  methods := #[]
  instanceTypes := #[]
  staticTypes := #[]
  resolved := Array.replicate 8 none
  statics := none }

/-- the primitive byte -/
def k11 : Class := { plain "byte" none with kind := .primitive 'B', accessFlags := 0x411 }
/-- [B -/
def k12 : Class := { plain "[B" (some 0) with kind := .array 11 .byte, interfaces := #[10, 4], accessFlags := 1041 }

/-- the primitive int -/
def k13 : Class := { plain "int" none with kind := .primitive 'I', accessFlags := 0x411 }
/-- [I -/
def k14 : Class := { plain "[I" (some 0) with kind := .array 13 .int, interfaces := #[10, 4], accessFlags := 1041 }

def heap : Heap := #[{ cls := 6, slots := #[.ref 1, .ref 2, .null], vm := .statics 6 },
  { cls := 6, slots := #[.null, .int 0, .int 0, .null], vm := .none },
  { cls := 6, slots := #[.null, .int 1, .int 0, .null], vm := .none }]
def classes : Array Class := #[k0, k1, k2, k3, k4, k5, k6, k7, k8, k9, k10, k11, k12, k13, k14]
def interned : List (Array UInt16 × Addr) := []
def slotsUsed : Nat := 11
def theMethod : MethodId := ⟨1, 1⟩
def args0 : Array Value := #[.long 1, .long 200, .int 3, .int 4, .int 5]
def aboutOver (below : List Frame) : State where
  vm := { classes := classes, interned := interned.toArray }
  heap := heap
  slotsUsed := slotsUsed
  threads := #[{ frames := .invoking theMethod args0 :: below }]
def below0 : List Frame := [.native { method := ⟨0, 0⟩, args := #[] }]
def about1 : State := aboutOver below0
def p0 : Program := .bare "" "" ""
def e0 : Env := launch0.env 0 0 0
theorem w_frames : about1.frames = Frame.invoking theMethod args0 :: below0 := rfl
set_option maxRecDepth 65536 in
theorem w_args : argsFit about1.vm theMethod args0 = true := by decide +kernel
set_option maxRecDepth 65536 in
theorem w_heap : heapFits about1 = true := by decide +kernel
set_option maxRecDepth 65536 in
theorem w_runnable : about1.curStatus? = some .runnable := by decide +kernel
set_option maxRecDepth 65536 in
theorem w_alone : about1.alone = true := by decide +kernel
set_option maxRecDepth 65536 in
theorem w_named : about1.methodNamed? x = some theMethod := by decide +kernel
set_option maxRecDepth 65536 in
theorem w_hears : about1.hears theMethod below0 = true := by decide +kernel
set_option maxRecDepth 65536 in
theorem w_ripe : about1.ripe theMethod args0 below0 = true := by decide +kernel
theorem w_running : about1.status = .running := rfl
set_option maxRecDepth 65536 in
theorem w_room : about1.hasRoom e0.platform room_1 = true :=
  launch0.hasRoom_least _ room_1 (by decide +kernel) (by decide +kernel) (by decide +kernel) (by decide +kernel) (by decide +kernel) (by decide +kernel)
theorem allAtoms_all (ts : List Jvm.Cond) (a : Array Jvm.Value) (st : Jvm.State) : (allAtoms ts).before a st = ts.all (fun c => c.before a st) := by
  induction ts with
  | nil => rfl
  | cons c t ih =>
    show (Jvm.Cond.and c (allAtoms t)).before a st = _
    rw [Jvm.Cond.before_and, ih, List.all_cons]
def words1 : List Jvm.Cond := Jvm.Cond.code x code maxLocals ret :: tables_1
/-- a 'code' word, met by the world's own term for the bytes: nothing is compared byte by byte -/
theorem code_word {y : MethodName} {bytes : ByteArray} {mx : Nat} {rt : Option FieldType} {a : Array Value} {s : State} {m : MethodId} {meth : Method} {c : Code} (h1 : s.methodNamed? y = some m) (h2 : s.vm.method? m = some meth) (h3 : meth.code = some c) (h4 : c.code = bytes)
    (h5 : (c.maxLocals == mx && c.exceptionTable.isEmpty && decide (c.maxStack ≤ mostOperands) && decide (meth.sig.returnType = rt) && !meth.locks && decide (parseMethodDescriptor y.desc = some meth.sig)) = true) : (Jvm.Cond.code y bytes mx rt).before a s = true := by
  simp only [Bool.and_eq_true, beq_iff_eq, Bool.not_eq_true', decide_eq_true_eq] at h5
  obtain ⟨⟨⟨⟨⟨g1, g2⟩, g3⟩, g4⟩, g5⟩, g6⟩ := h5
  simp [Cond.before, Cond.holds, Cond.value, h1, h2, h3, h4, g1, g2, g3, g4, g5, g6]
def isCode : Jvm.Cond → Bool
  | .code _ _ _ _ => true
  | _ => false
theorem all_split {L : List Jvm.Cond} {P : Jvm.Cond → Bool} (h1 : L.all (fun c => isCode c || P c) = true) (h2 : ∀ c ∈ L.filter isCode, P c = true) : L.all P = true := by
  refine List.all_eq_true.mpr fun c hc => ?_
  have h := List.all_eq_true.mp h1 c hc
  rcases Bool.eq_false_or_eq_true (isCode c) with hi | hi
  · exact h2 c (List.mem_filter.mpr ⟨hc, hi⟩)
  · simpa [hi] using h
set_option maxRecDepth 65536 in
theorem w_c0 : (Jvm.Cond.code x code maxLocals ret).before args0 about1 = true := code_word (m := ⟨1, 1⟩) (meth := k1m1) (c := k1c1) (by decide +kernel) rfl rfl rfl (by decide +kernel)
set_option maxRecDepth 65536 in
theorem w_c1 : (Jvm.Cond.code ({ cls := "com/example/tunegrid/tunegrid/IntervalContentionPinLaw", name := "contention", desc := "(Lcom/example/tunegrid/tunegrid/Replication$Kind;JJ)D" } : Jvm.MethodName) method_3_code (5 : Nat) (Option.some Jvm.ClassFile.FieldType.double)).before args0 about1 = true := code_word (m := ⟨1, 2⟩) (meth := k1m2) (c := k1c2) (by decide +kernel) rfl rfl rfl (by decide +kernel)
set_option maxRecDepth 65536 in
theorem w_c2 : (Jvm.Cond.code ({ cls := "com/example/tunegrid/tunegrid/TuningPolicy$Interval", name := "<init>", desc := "(Lcom/example/tunegrid/tunegrid/Replication$Kind;IDJJJJJJ)V" } : Jvm.MethodName) prog_87_method_1_code (17 : Nat) (Option.none : Option Jvm.ClassFile.FieldType)).before args0 about1 = true := code_word (m := ⟨8, 0⟩) (meth := k8m0) (c := k8c0) (by decide +kernel) rfl rfl rfl (by decide +kernel)
set_option maxRecDepth 65536 in
theorem w_c3 : (Jvm.Cond.code ({ cls := "java/lang/Record", name := "<init>", desc := "()V" } : Jvm.MethodName) jdk_30_method_1_code (1 : Nat) (Option.none : Option Jvm.ClassFile.FieldType)).before args0 about1 = true := code_word (m := ⟨7, 0⟩) (meth := k7m0) (c := k7c0) (by decide +kernel) rfl rfl rfl (by decide +kernel)
set_option maxRecDepth 65536 in
theorem w_c4 : (Jvm.Cond.code ({ cls := "java/lang/Object", name := "<init>", desc := "()V" } : Jvm.MethodName) object_method_1_code (1 : Nat) (Option.none : Option Jvm.ClassFile.FieldType)).before args0 about1 = true := code_word (m := ⟨0, 0⟩) (meth := k0m0) (c := k0c0) (by decide +kernel) rfl rfl rfl (by decide +kernel)
set_option maxRecDepth 65536 in
theorem w_c5 : (Jvm.Cond.code ({ cls := "com/example/tunegrid/tunegrid/TuningPolicy$Interval", name := "contention", desc := "()D" } : Jvm.MethodName) prog_87_method_6_code (1 : Nat) (Option.some Jvm.ClassFile.FieldType.double)).before args0 about1 = true := code_word (m := ⟨8, 1⟩) (meth := k8m1) (c := k8c1) (by decide +kernel) rfl rfl rfl (by decide +kernel)
set_option maxRecDepth 65536 in
theorem w_c6 : (Jvm.Cond.code ({ cls := "java/lang/Math", name := "min", desc := "(JJ)J" } : Jvm.MethodName) jdk_29_method_70_code (4 : Nat) (Option.some Jvm.ClassFile.FieldType.long)).before args0 about1 = true := code_word (m := ⟨9, 1⟩) (meth := k9m1) (c := k9c1) (by decide +kernel) rfl rfl rfl (by decide +kernel)
def codes1 : List Jvm.Cond := [Jvm.Cond.code x code maxLocals ret, Jvm.Cond.code ({ cls := "com/example/tunegrid/tunegrid/IntervalContentionPinLaw", name := "contention", desc := "(Lcom/example/tunegrid/tunegrid/Replication$Kind;JJ)D" } : Jvm.MethodName) method_3_code (5 : Nat) (Option.some Jvm.ClassFile.FieldType.double), Jvm.Cond.code ({ cls := "com/example/tunegrid/tunegrid/TuningPolicy$Interval", name := "<init>", desc := "(Lcom/example/tunegrid/tunegrid/Replication$Kind;IDJJJJJJ)V" } : Jvm.MethodName) prog_87_method_1_code (17 : Nat) (Option.none : Option Jvm.ClassFile.FieldType), Jvm.Cond.code ({ cls := "java/lang/Record", name := "<init>", desc := "()V" } : Jvm.MethodName) jdk_30_method_1_code (1 : Nat) (Option.none : Option Jvm.ClassFile.FieldType), Jvm.Cond.code ({ cls := "java/lang/Object", name := "<init>", desc := "()V" } : Jvm.MethodName) object_method_1_code (1 : Nat) (Option.none : Option Jvm.ClassFile.FieldType), Jvm.Cond.code ({ cls := "com/example/tunegrid/tunegrid/TuningPolicy$Interval", name := "contention", desc := "()D" } : Jvm.MethodName) prog_87_method_6_code (1 : Nat) (Option.some Jvm.ClassFile.FieldType.double), Jvm.Cond.code ({ cls := "java/lang/Math", name := "min", desc := "(JJ)J" } : Jvm.MethodName) jdk_29_method_70_code (4 : Nat) (Option.some Jvm.ClassFile.FieldType.long)]
set_option maxRecDepth 65536 in
theorem codes_eq : words1.filter isCode = codes1 := rfl
theorem w_codes : ∀ c ∈ words1.filter isCode, c.before args0 about1 = true := by
  rw [codes_eq]
  intro c hc
  simp only [codes1, List.mem_cons, List.not_mem_nil, or_false] at hc
  rcases hc with rfl | rfl | rfl | rfl | rfl | rfl | rfl
  · exact w_c0
  · exact w_c1
  · exact w_c2
  · exact w_c3
  · exact w_c4
  · exact w_c5
  · exact w_c6
set_option maxRecDepth 65536 in
theorem w_t1 : (words1.take 24).all (fun c => isCode c || c.before args0 about1) = true := by decide +kernel
set_option maxRecDepth 65536 in
theorem w_t2 : ((words1.drop 24).take 24).all (fun c => isCode c || c.before args0 about1) = true := by decide +kernel
set_option maxRecDepth 65536 in
theorem w_t3 : ((words1.drop 24).drop 24).all (fun c => isCode c || c.before args0 about1) = true := by decide +kernel
theorem w_tables : (allAtoms (Jvm.Cond.code x code maxLocals ret :: tables_1)).before args0 about1 = true := by
  rw [allAtoms_all]
  show words1.all (fun c => c.before args0 about1) = true
  refine all_split ?_ w_codes
  rw [← List.take_append_drop 24 words1, List.all_append, w_t1, ← List.take_append_drop 24 (words1.drop 24), List.all_append, w_t2, w_t3]
  rfl
set_option maxRecDepth 65536 in
theorem w_case : (Jvm.Cond.and given_1 narrow_1).before args0 about1 = true := by decide +kernel
theorem w_applies : (headSpec (Jvm.Cond.code x code maxLocals ret :: tables_1) room_1).applies x e0.platform about1 = true :=
  (Spec.applies_iff w_frames).mpr ⟨w_running, w_runnable, w_alone, w_named, w_hears, w_ripe, w_room, w_tables⟩
theorem atStart : AtStart classFile x code maxLocals ret World_1 tables_1 room_1 Calls_1 rest_1 Pre_1 launch0 p0 e0 about1 theMethod args0 below0 :=
  ⟨lists_1, trivial, launch0.admits_env _ _ _, launch0.least_env, fairChoices_fair.cas, fairChoices_fair.clock, w_frames, w_args, w_heap, w_applies, trivial, trivial, w_case⟩
end start1
theorem witness_1 : WitnessClaimed_1 := ⟨start1.p0, start1.e0, start1.about1, start1.theMethod, start1.args0, start1.below0, start1.atStart⟩
end Jvm.Pilot.@@N@@
