import JvmDerived
import JvmDerived.Pilot.@@N@@Statement
import JvmDerived.Pilot.@@N@@Code
set_option linter.unusedVariables false
set_option linter.unusedSimpArgs false
namespace Jvm.Pilot.@@N@@
open Jvm Jvm.ClassFile Sem Op Lib Jvm.Free Jvm.Stand Jvm.LawKit Jvm.RoadKit Bundle Jvm.Pilot.@@N@@.Jvm.D
def own_Run (p : Program) (e : Env) (below : List Frame) (s : State) (Q : Option Value → Heap → List Loc → Prop) (ck sk : Nat) (U : State) : Prop :=
  ∃ s₂ o, Steps p.tables e below U s₂ ∧ s₂.status = .running ∧ Ended s₂ below o ∧ ∃ v L, o = .returned v ∧ Q v s₂.heap L ∧ FrameEnd s o s₂ L ck sk
section OwnLayer
variable {p : Program} {l : Launch} {e : Env} {R : Room} {s : State} {m : MethodId} {args : Array Value} {below : List Frame} {meth : Method} {c : Code} {T : State} {locs : List Loc} {cells slots : Nat} {Z : State} {a0 : Array Value} {h : Heap} {Q : Option Value → Heap → List Loc → Prop} {ck sk : Nat}
theorem own_st {U U' : State} (hh : ∀ t, Steps p.tables e below U' t → Steps p.tables e below U t) (K : own_Run p e below s Q ck sk U') : own_Run p e below s Q ck sk U := by
  obtain ⟨s2, o, h1, r⟩ := K
  exact ⟨s2, o, hh _ h1, r⟩
theorem own_topI {pc : Nat} {Ls : Array Slot} {st : List Value} {v v' : Int32} (hv : v = v') (K : own_Run p e below s Q ck sk (T.setTop (mkF m pc Ls (.int v' :: st)))) : own_Run p e below s Q ck sk (T.setTop (mkF m pc Ls (.int v :: st))) := hv ▸ K
theorem own_topJ {pc : Nat} {Ls : Array Slot} {st : List Value} {v v' : Int64} (hv : v = v') (K : own_Run p e below s Q ck sk (T.setTop (mkF m pc Ls (.long v' :: st)))) : own_Run p e below s Q ck sk (T.setTop (mkF m pc Ls (.long v :: st))) := hv ▸ K
theorem own_topD {pc : Nat} {Ls : Array Slot} {st : List Value} {v v' : UInt64} (hv : v = v') (K : own_Run p e below s Q ck sk (T.setTop (mkF m pc Ls (.double v' :: st)))) : own_Run p e below s Q ck sk (T.setTop (mkF m pc Ls (.double v :: st))) := hv ▸ K
theorem own_ret (X : Stand p l e R s m args below meth c T locs cells slots) (hx : p.tables.exec = Jvm.exec) (hlk : meth.locks = false) {pc : Nat} {Ls : Array Slot} {w : Value} {t : FieldType} {i : Instr} {rest : List Value} (hret : meth.sig.returnType = some t) (hn : narrow t w = w)
    (hi : (i = .ireturn ∧ (t = .int ∨ t = .boolean ∨ t = .byte ∨ t = .char ∨ t = .short) ∧ ∃ z, w = .int z) ∨ (i = .lreturn ∧ t = .long ∧ ∃ z, w = .long z) ∨ (i = .dreturn ∧ t = .double ∧ ∃ z, w = .double z) ∨ (i = .freturn ∧ t = .float ∧ ∃ z, w = .float z) ∨ (i = .areturn ∧ t.isReference = true ∧ w.isRef = true))
    (hd : decode c.code pc = .ok (i, 1)) (hc : cells ≤ ck) (hs : slots ≤ sk) (hq : Q (some w) T.heap locs) : own_Run p e below s Q ck sk (T.setTop (mkF m pc Ls (w :: rest))) := by
  obtain ⟨fs, hr, hrun, hended, hW, hsame⟩ := X.leave (v := some w) (fun q => by rw [hret] at q; cases q) hlk
  exact ⟨_, _, retOut X hx hret hn hi hd hr, hrun, hended, _, _, rfl, hq, ⟨_, rfl⟩, hW, hsame.mono hc hs⟩
theorem own_retV (X : Stand p l e R s m args below meth c T locs cells slots) (hx : p.tables.exec = Jvm.exec) (hlk : meth.locks = false) {pc : Nat} {Ls : Array Slot} (hret : meth.sig.returnType = none)
    (hd : decode c.code pc = .ok (.return_, 1)) (hc : cells ≤ ck) (hs : slots ≤ sk) (hq : Q none T.heap locs) : own_Run p e below s Q ck sk (T.setTop (mkF m pc Ls [])) := by
  obtain ⟨fs, hr, hrun, hended, hW, hsame⟩ := X.leave (v := none) (fun _ => rfl) hlk
  exact ⟨_, _, X.returnOut hx hret hd hr, hrun, hended, _, _, rfl, hq, ⟨_, rfl⟩, hW, hsame.mono hc hs⟩
theorem own_body {y : MethodName} {bytes : ByteArray} {maxL : Nat} {ret : Option FieldType} {ws : List Jvm.Cond} {rm : Room} {as' : Array Value} {h0 : Heap} (hpl : plainFor y = true)
    (hbody : ∀ (p : Program) (e : Env) (s : State) (m : MethodId) (below : List Frame) (meth : Method) (c : Code) (s₁ : State), p.tables.exec = Jvm.exec → c.code = bytes → c.maxLocals = maxL → Z.Warmed39 s.vm → s.vm.findClass y.cls = some m.cls → meth.name = y.name → meth.sig.returnType = ret → meth.locks = false → Stand p l e rm s m as' below meth c s₁ [] 0 0 → s₁.heap = h0 → own_Run p e below s Q rm.cells rm.slots (s₁.setTop (entryFrame m as' maxL))) :
    MetFree l y (head1 (Jvm.Cond.code y bytes maxL ret :: ws) rm) (fun a U => a = as' ∧ Z.Warmed39 U.vm ∧ U.heap = h0) (fun _ _ _ _ _ => True) (fun _ U o U' => ∃ v L, o = .returned v ∧ Q v U'.heap L ∧ FrameEnd U o U' L rm.cells rm.slots) := by
  refine MetFree.of_bodySF hpl hisR ?_
  intro p e s m args below meth c s₁ Bd hml0 hP hK
  obtain ⟨rfl, hZ, hh⟩ := hP
  exact hbody p e s m below meth c s₁ Bd.exec Bd.bytes hml0 hZ (findClass_of_methodNamed Bd.named) (name_of_methodNamed Bd.named Bd.method).1 Bd.returns Bd.notSynchronized (Stand.of_body Bd) (by rw [← hh, Bd.state]; rfl)
theorem own_callI (X : Stand p l e R s m args below meth c T locs cells slots) (hx : p.tables.exec = Jvm.exec) (hZ : Z.Warmed39 s.vm) {own : String} {idx : Nat} {y : MethodName} (hy1 : y.name = "<init>") (hown : s.vm.findClass own = some m.cls) (w1 : (Jvm.Cond.methodLink own idx y).before a0 Z = true) (w2 : (Jvm.Cond.instanceMethod y).before a0 Z = true)
    {bytes : ByteArray} {maxL : Nat} (w3 : (Jvm.Cond.code y bytes maxL none).before a0 Z = true) (wz : (Jvm.Cond.initialized y.cls).before a0 Z = true) (hy : y.cls ≠ "java/lang/invoke/MethodHandle" ∧ y.cls ≠ "java/lang/invoke/VarHandle") (eT : T.heap = h) {rm : Room} {Qc : Option Value → Heap → List Loc → Prop} {a : Addr} {argsL rest : List Value}
    (hM : MetFree l y (head1 [Jvm.Cond.code y bytes maxL none] rm) (fun b U => b = (Value.ref a :: argsL).toArray ∧ Z.Warmed39 U.vm ∧ U.heap = h) (fun _ _ _ _ _ => True) (fun _ U o U' => ∃ v L, o = .returned v ∧ Qc v U'.heap L ∧ FrameEnd U o U' L rm.cells rm.slots))
    {W : Nat} (hf : rm.frames + 1 ≤ R.frames) (hl : W + (maxL + 11) + rm.locals ≤ R.locals) {pc : Nat} {Ls : Array Slot} {st : List Value} (hsize : Ls.size = c.maxLocals) (hlen : ∀ sig, parseMethodDescriptor y.desc = some sig → argsL.length = sig.parameters.length) (hst : st = argsL.reverse ++ .ref a :: rest) (hW : (rest.map fun v => v.category).sum ≤ W) (hd : decode c.code pc = .ok (.invokespecial idx, 3)) (hc : cells + rm.cells ≤ R.cells) (hs : slots + rm.slots ≤ R.slots)
    (K : ∀ (T' : State) (v : Option Value) (L : List Loc), Stand p l e R s m args below meth c T' (locs ++ L) (cells + rm.cells) (slots + rm.slots) → Qc v T'.heap L → own_Run p e below s Q ck sk (T'.setTop (mkF m (pc + 3) Ls (v.toList ++ rest)))) :
    own_Run p e below s Q ck sk (T.setTop (mkF m pc Ls st)) := by
  obtain ⟨v, _, ⟨T', L', k', n'⟩, -, X', ⟨Lc, hQ, hl', hk', hn'⟩, st'⟩ := X.specialBack hx (y := y) hy1 hown (mvT hZ w1) (mvT hZ w2) (mvT hZ w3) hy (backOf (W := W) hM hZ w3 wz hf hl) (g := mkF m pc Ls st) rfl hsize (Steps.refl _) (a := a) (argsL := argsL) (rest := rest) hlen hst (by show 2 * 0 + _ ≤ _; omega) hd (fun _ _ => ⟨rfl, eT, hc, hs⟩)
  dsimp only [Pt.U, Pt.locs, Pt.cells, Pt.slots] at X' hl' hk' hn' st' hQ
  subst hl' hk' hn'
  exact own_st (fun t k => st'.trans k) (K T' v Lc X' hQ)
theorem own_callV (X : Stand p l e R s m args below meth c T locs cells slots) (hx : p.tables.exec = Jvm.exec) (hZ : Z.Warmed39 s.vm) {own C : String} {idx : Nat} {y : MethodName} (hown : s.vm.findClass own = some m.cls) (w1 : (Jvm.Cond.methodLink own idx y).before a0 Z = true) (w2 : (Jvm.Cond.declares y).before a0 Z = true) (w3 : (Jvm.Cond.selects C y y).before a0 Z = true) (w4 : (Jvm.Cond.instanceMethod y).before a0 Z = true)
    {bytes : ByteArray} {maxL : Nat} {ret : Option FieldType} (w5 : (Jvm.Cond.code y bytes maxL ret).before a0 Z = true) (wz : (Jvm.Cond.initialized y.cls).before a0 Z = true) (hy : y.cls ≠ "java/lang/invoke/MethodHandle" ∧ y.cls ≠ "java/lang/invoke/VarHandle") (eT : T.heap = h) {a : Addr} (E : Exa Z h a C) {rm : Room} {Qc : Option Value → Heap → List Loc → Prop} {argsL rest : List Value}
    (hM : MetFree l y (head1 [Jvm.Cond.code y bytes maxL ret] rm) (fun b U => b = (Value.ref a :: argsL).toArray ∧ Z.Warmed39 U.vm ∧ U.heap = h) (fun _ _ _ _ _ => True) (fun _ U o U' => ∃ v L, o = .returned v ∧ Qc v U'.heap L ∧ FrameEnd U o U' L rm.cells rm.slots))
    {W : Nat} (hf : rm.frames + 1 ≤ R.frames) (hl : W + (maxL + 11) + rm.locals ≤ R.locals) {pc : Nat} {Ls : Array Slot} {st : List Value} (hsize : Ls.size = c.maxLocals) (hlen : ∀ sig, parseMethodDescriptor y.desc = some sig → argsL.length = sig.parameters.length) (hst : st = argsL.reverse ++ .ref a :: rest) (hW : (rest.map fun v => v.category).sum ≤ W) (hd : decode c.code pc = .ok (.invokevirtual idx, 3)) (hc : cells + rm.cells ≤ R.cells) (hs : slots + rm.slots ≤ R.slots)
    (K : ∀ (T' : State) (v : Option Value) (L : List Loc), Stand p l e R s m args below meth c T' (locs ++ L) (cells + rm.cells) (slots + rm.slots) → Qc v T'.heap L → own_Run p e below s Q ck sk (T'.setTop (mkF m (pc + 3) Ls (v.toList ++ rest)))) :
    own_Run p e below s Q ck sk (T.setTop (mkF m pc Ls st)) := by
  obtain ⟨cq, kq, qa, qb, qc⟩ := isOf hZ eT E
  obtain ⟨v, _, ⟨T', L', k', n'⟩, -, X', ⟨Lc, hQ, hl', hk', hn'⟩, st'⟩ := X.virtualBack hx (y := y) (z := y) hown (mvT hZ w1) (mvT hZ w2) (notFace_of_selects (args := #[]) (mvT hZ w3)) (mvT hZ w3) (mvT hZ w4) hy (backOf (W := W) hM hZ w5 wz hf hl) qa qc (g := mkF m pc Ls st) rfl hsize (Steps.refl _) (argsL := argsL) (rest := rest) hlen hst (by show 2 * 0 + _ ≤ _; omega) hd (fun _ _ => ⟨rfl, eT, hc, hs⟩)
  dsimp only [Pt.U, Pt.locs, Pt.cells, Pt.slots] at X' hl' hk' hn' st' hQ
  subst hl' hk' hn'
  exact own_st (fun t k => st'.trans k) (K T' v Lc X' hQ)
theorem own_callS (X : Stand p l e R s m args below meth c T locs cells slots) (hx : p.tables.exec = Jvm.exec) (hZ : Z.Warmed39 s.vm) {own : String} {idx : Nat} {y : MethodName} (hown : s.vm.findClass own = some m.cls) (w1 : (Jvm.Cond.methodLink own idx y).before a0 Z = true) (w2 : (Jvm.Cond.static y).before a0 Z = true)
    {bytes : ByteArray} {maxL : Nat} {ret : Option FieldType} (w5 : (Jvm.Cond.code y bytes maxL ret).before a0 Z = true) (wz : (Jvm.Cond.initialized y.cls).before a0 Z = true) (hy : y.cls ≠ "java/lang/invoke/MethodHandle" ∧ y.cls ≠ "java/lang/invoke/VarHandle") (eT : T.heap = h) {rm : Room} {Qc : Option Value → Heap → List Loc → Prop} {argsL rest : List Value}
    (hM : MetFree l y (head1 [Jvm.Cond.code y bytes maxL ret] rm) (fun b U => b = argsL.toArray ∧ Z.Warmed39 U.vm ∧ U.heap = h) (fun _ _ _ _ _ => True) (fun _ U o U' => ∃ v L, o = .returned v ∧ Qc v U'.heap L ∧ FrameEnd U o U' L rm.cells rm.slots))
    {W : Nat} (hf : rm.frames + 1 ≤ R.frames) (hl : W + (maxL + 11) + rm.locals ≤ R.locals) {pc : Nat} {Ls : Array Slot} {st : List Value} (hsize : Ls.size = c.maxLocals) (hlen : ∀ sig, parseMethodDescriptor y.desc = some sig → argsL.length = sig.parameters.length) (hst : st = argsL.reverse ++ rest) (hW : (rest.map fun v => v.category).sum ≤ W) (hd : decode c.code pc = .ok (.invokestatic idx, 3)) (hc : cells + rm.cells ≤ R.cells) (hs : slots + rm.slots ≤ R.slots)
    (K : ∀ (T' : State) (v : Option Value) (L : List Loc), Stand p l e R s m args below meth c T' (locs ++ L) (cells + rm.cells) (slots + rm.slots) → Qc v T'.heap L → own_Run p e below s Q ck sk (T'.setTop (mkF m (pc + 3) Ls (v.toList ++ rest)))) :
    own_Run p e below s Q ck sk (T.setTop (mkF m pc Ls st)) := by
  obtain ⟨v, _, ⟨T', L', k', n'⟩, -, X', ⟨Lc, hQ, hl', hk', hn'⟩, st'⟩ := Jvm.LawKit.callS X hx (y := y) hown (mvT hZ w1) (mvT hZ w2) (mvT hZ wz) (mvT hZ w5) hy (backOf (W := W) hM hZ w5 wz hf hl) (g := mkF m pc Ls st) rfl hsize (argsL := argsL) (rest := rest) hlen hst (by show 2 * 0 + _ ≤ _; omega) hd (fun _ _ => ⟨rfl, eT, hc, hs⟩)
  dsimp only [Pt.U, Pt.locs, Pt.cells, Pt.slots] at X' hl' hk' hn' st' hQ
  subst hl' hk' hn'
  exact own_st st' (K T' v Lc X' hQ)
end OwnLayer
section OwnNums
open Jvm.FP Jvm.Free.Fl
theorem own_b53 (x : Int32) : B53 x.toInt64 := by
  have := x.le_toInt; have := x.toInt_lt
  unfold B53; rw [Int32.toInt_toInt64]; omega
theorem own_i64lt (x y : Int32) : x.toInt64 < y.toInt64 ↔ x < y := by
  rw [Int64.lt_iff_toInt_lt, Int32.lt_iff_toInt_lt, Int32.toInt_toInt64, Int32.toInt_toInt64]
theorem own_i64eq (x y : Int32) : x.toInt64 = y.toInt64 ↔ x = y := by
  rw [← Int64.toInt_inj, ← Int32.toInt_inj, Int32.toInt_toInt64, Int32.toInt_toInt64]
theorem own_dcmp_lt (x y : Int32) (o : CmpOp) : cmpValue (FP.dcmp (FP.i2d x) (FP.i2d y)) o < 0 ↔ x < y := by
  rw [i2d_w, i2d_w, dcmpV_w (own_b53 x) (own_b53 y), lw_lt, own_i64lt]
theorem own_dcmp_gt (x y : Int32) (o : CmpOp) : 0 < cmpValue (FP.dcmp (FP.i2d x) (FP.i2d y)) o ↔ y < x := by
  rw [i2d_w, i2d_w, dcmpV_w (own_b53 x) (own_b53 y), lw_gt, own_i64lt]
theorem own_dcmp_eq (x y : Int32) (o : CmpOp) : cmpValue (FP.dcmp (FP.i2d x) (FP.i2d y)) o = 0 ↔ x = y := by
  rw [i2d_w, i2d_w, dcmpV_w (own_b53 x) (own_b53 y), lw_eq, own_i64eq]
theorem own_sub_lt (x y : Int32) : lcmpW (x.toInt64 - y.toInt64) 0 < 0 ↔ x < y := by
  have h := sub64 (own_b53 x) (own_b53 y)
  rw [lw_lt, Int64.lt_iff_toInt_lt, Int32.lt_iff_toInt_lt, h, Int32.toInt_toInt64, Int32.toInt_toInt64]
  have : (0 : Int64).toInt = 0 := rfl
  omega
end OwnNums
section OwnWords
theorem own_eqint {args : Array Value} {first s : State} {o : Option Outcome} {idx : List Nat} {t : Term} {k : Int32} (h : (Jvm.Cond.eq t (.int k)).value args first o s idx = some true) : t.eval args first o idx s = some (.int k) := by
  simp only [Cond.value, Term.eval] at h
  cases ht : t.eval args first o idx s with
  | none => simp [ht] at h
  | some x => cases x <;> simp [ht] at h ⊢; exact h
end OwnWords
section OwnInts
theorem own_prod {a b : Int} {A B : Nat} (ha : a.natAbs ≤ A) (hb : b.natAbs ≤ B) : (a * b).natAbs ≤ A * B := by
  rw [Int.natAbs_mul]; exact Nat.mul_le_mul ha hb
theorem own_shr (x : Int32) : (x >>> ((11 : Int32) &&& 31)).toInt.natAbs ≤ 1048576 := by
  rw [c_ishr x 11 11 (by decide)]
  have := x.le_toInt; have := x.toInt_lt
  show (x.toInt / (2048 : Nat)).natAbs ≤ _
  omega
end OwnInts
section OwnFl
open Jvm.FP Jvm.Free.Fl
abbrev own_zv (a : UInt64) : Int := Core.zval Core.b64 (Core.val64 a)
abbrev own_zm (a : UInt64) : Nat := Core.zmag Core.b64 (Core.val64 a)
theorem own_one : (Core.one64 : Nat) = 2 ^ 1074 := rfl
theorem own_finnn {a : UInt64} (h : Core.DFin a) : NoNaN64 a := (fin64_core.mpr h).noNaN
theorem own_finne {a : UInt64} (h : Core.DFin a) : Core.val64 a ≠ .nan := h.ne_nan
theorem own_addle {a b V : UInt64} (ha : Core.DFin a) (hb : Core.DFin b) (hV : Core.val64 V ≠ .nan) (h : own_zv a + own_zv b ≤ own_zv V) : own_zv (FP.dadd a b) ≤ own_zv V := by
  show Core.zval Core.b64 (Core.val64 (Core.dadd a b)) ≤ _
  rw [Core.val64_dadd]
  exact Core.sum_le Core.good_b64 ha hb (Core.val64_fits a) (Core.val64_fits b) (Core.val64_fits V) hV h
theorem own_addge {a b V : UInt64} (ha : Core.DFin a) (hb : Core.DFin b) (hV : Core.val64 V ≠ .nan) (h : own_zv V ≤ own_zv a + own_zv b) : own_zv V ≤ own_zv (FP.dadd a b) := by
  show _ ≤ Core.zval Core.b64 (Core.val64 (Core.dadd a b))
  rw [Core.val64_dadd]
  exact Core.sum_ge Core.good_b64 ha hb (Core.val64_fits a) (Core.val64_fits b) (Core.val64_fits V) hV h
theorem own_negfin {b : UInt64} (hb : Core.DFin b) : ∃ s c q, Core.negate (Core.val64 b) = .fin s c q := by
  obtain ⟨s, c, q, h⟩ := hb
  exact ⟨!s, c, q, by rw [h]; rfl⟩
theorem own_suble {a b V : UInt64} (ha : Core.DFin a) (hb : Core.DFin b) (hV : Core.val64 V ≠ .nan) (h : own_zv a - own_zv b ≤ own_zv V) : own_zv (FP.dsub a b) ≤ own_zv V := by
  show Core.zval Core.b64 (Core.val64 (Core.dsub a b)) ≤ _
  rw [Core.val64_dsub]
  exact Core.sum_le Core.good_b64 ha (own_negfin hb) (Core.val64_fits a) (Core.negate_fits (Core.val64_fits b)) (Core.val64_fits V) hV (by rw [Core.zval_negate]; exact h)
theorem own_subge {a b V : UInt64} (ha : Core.DFin a) (hb : Core.DFin b) (hV : Core.val64 V ≠ .nan) (h : own_zv V ≤ own_zv a - own_zv b) : own_zv V ≤ own_zv (FP.dsub a b) := by
  show _ ≤ Core.zval Core.b64 (Core.val64 (Core.dsub a b))
  rw [Core.val64_dsub]
  exact Core.sum_ge Core.good_b64 ha (own_negfin hb) (Core.val64_fits a) (Core.negate_fits (Core.val64_fits b)) (Core.val64_fits V) hV (by rw [Core.zval_negate]; exact h)
theorem own_pow2q : (2 ^ (Core.b64.qmin - 2 * Core.b64.qmin).toNat : Nat) = Core.one64 := by
  rw [show Core.b64.qmin - 2 * Core.b64.qmin = -Core.b64.qmin by omega]; exact Core.pow_qmin64
theorem own_mulle {a b V : UInt64} (ha : Core.DFin a) (hb : Core.DFin b) (hV : Core.val64 V ≠ .nan) (h : own_zv a * own_zv b ≤ own_zv V * (Core.one64 : Int)) : own_zv (FP.dmul a b) ≤ own_zv V := by
  obtain ⟨s, c, q, ea⟩ := ha
  obtain ⟨t, d, r, eb⟩ := hb
  have fa := Core.val64_fits a
  have fb := Core.val64_fits b
  rw [ea] at fa; rw [eb] at fb
  obtain ⟨h1, h2, h3⟩ := Core.product_units fa fb
  show Core.zval Core.b64 (Core.val64 (Core.dmul a b)) ≤ _
  rw [Core.val64_dmul, ea, eb, h1]
  refine Core.zval_round_le Core.good_b64 (Core.val64_fits V) hV (e0 := 2 * Core.b64.qmin) (by decide) h2 ?_
  rw [h3, Core.signed_xor, own_pow2q]
  simp only [own_zv, ea, eb] at h
  exact h
theorem own_mulge {a b V : UInt64} (ha : Core.DFin a) (hb : Core.DFin b) (hV : Core.val64 V ≠ .nan) (h : own_zv V * (Core.one64 : Int) ≤ own_zv a * own_zv b) : own_zv V ≤ own_zv (FP.dmul a b) := by
  obtain ⟨s, c, q, ea⟩ := ha
  obtain ⟨t, d, r, eb⟩ := hb
  have fa := Core.val64_fits a
  have fb := Core.val64_fits b
  rw [ea] at fa; rw [eb] at fb
  obtain ⟨h1, h2, h3⟩ := Core.product_units fa fb
  show _ ≤ Core.zval Core.b64 (Core.val64 (Core.dmul a b))
  rw [Core.val64_dmul, ea, eb, h1]
  refine Core.zval_round_ge Core.good_b64 (Core.val64_fits V) hV (e0 := 2 * Core.b64.qmin) (by decide) h2 ?_
  rw [h3, Core.signed_xor, own_pow2q]
  simp only [own_zv, ea, eb] at h
  exact h
theorem own_divdat {a b : UInt64} (ha : Core.DFin a) (hb : Core.DFin b) (hz : own_zm b ≠ 0) : ∃ (s t : Bool) (c d : Nat) (q r : Int), Core.val64 a = .fin s c q ∧ Core.val64 b = .fin t d r ∧ 0 < d ∧ Core.b64.qmin ≤ q ∧ Core.b64.qmin ≤ r ∧ Core.val64 (FP.ddiv a b) = Core.roundRatio Core.b64 (s != t) c d (q - r) := by
  obtain ⟨s, c, q, ea⟩ := ha
  obtain ⟨t, d, r, eb⟩ := hb
  have fa := Core.val64_fits a
  have fb := Core.val64_fits b
  rw [ea] at fa; rw [eb] at fb
  have hd : d ≠ 0 := fun q => hz (by unfold own_zm; rw [eb, q]; show Core.inUnits 0 _ _ = 0; unfold Core.inUnits; exact Nat.zero_mul _)
  refine ⟨s, t, c, d, q, r, ea, eb, Nat.pos_of_ne_zero hd, fa.2.1, fb.2.1, ?_⟩
  show Core.val64 (Core.ddiv a b) = _
  rw [Core.val64_ddiv, ea, eb]
  show (if d = 0 then _ else _) = _
  rw [if_neg hd]
theorem own_divunits {c d : Nat} {q r : Int} (hq : Core.b64.qmin ≤ q) (hr : Core.b64.qmin ≤ r) : 2 * Core.b64.qmin - r ≤ Core.b64.qmin ∧ 2 * Core.b64.qmin - r ≤ q - r ∧ Core.inUnits c (q - r) (2 * Core.b64.qmin - r) = Core.inUnits c q Core.b64.qmin * Core.one64 ∧ ∀ m : Nat, m * 2 ^ (Core.b64.qmin - (2 * Core.b64.qmin - r)).toNat * d = m * Core.inUnits d r Core.b64.qmin := by
  have hqm : Core.b64.qmin = -1074 := Core.qmin_b64
  refine ⟨by omega, by omega, ?_, fun m => ?_⟩
  · unfold Core.inUnits
    rw [show (q - r - (2 * Core.b64.qmin - r)).toNat = (q - Core.b64.qmin).toNat + (-Core.b64.qmin).toNat by omega, Nat.pow_add, Core.pow_qmin64, Nat.mul_assoc]
  · unfold Core.inUnits
    rw [show (Core.b64.qmin - (2 * Core.b64.qmin - r)).toNat = (r - Core.b64.qmin).toNat by omega, Nat.mul_assoc, Nat.mul_comm d]
theorem own_divle {a b V : UInt64} (ha : Core.DFin a) (hb : Core.DFin b) (hz : own_zm b ≠ 0) (hV : Core.val64 V ≠ .nan) (h : own_zm a * Core.one64 ≤ own_zm V * own_zm b) : own_zm (FP.ddiv a b) ≤ own_zm V := by
  obtain ⟨s, t, c, d, q, r, ea, eb, hd, hq, hr, e⟩ := own_divdat ha hb hz
  obtain ⟨u1, u2, u3, u4⟩ := own_divunits (c := c) (d := d) hq hr
  unfold own_zm
  rw [e]
  refine Core.zmag_roundRatio_le Core.good_b64 hd (Core.val64_fits V) hV u1 u2 ?_
  rw [u3, u4]
  simp only [own_zm, ea, eb] at h
  exact h
theorem own_divge {a b V : UInt64} (ha : Core.DFin a) (hb : Core.DFin b) (hz : own_zm b ≠ 0) (h : own_zm V * own_zm b ≤ own_zm a * Core.one64) : own_zm V ≤ own_zm (FP.ddiv a b) := by
  obtain ⟨s, t, c, d, q, r, ea, eb, hd, hq, hr, e⟩ := own_divdat ha hb hz
  obtain ⟨u1, u2, u3, u4⟩ := own_divunits (c := c) (d := d) hq hr
  unfold own_zm
  rw [e]
  refine Core.zmag_roundRatio_ge Core.good_b64 hd (Core.val64_fits V) u1 u2 ?_
  rw [u3, u4]
  simp only [own_zm, ea, eb] at h
  exact h
theorem own_divsgn {a b : UInt64} (ha : Core.DFin a) (hb : Core.DFin b) (hz : own_zm b ≠ 0) : Core.sgn (Core.val64 (FP.ddiv a b)) = (Core.sgn (Core.val64 a) != Core.sgn (Core.val64 b)) ∧ Core.val64 (FP.ddiv a b) ≠ .nan := by
  obtain ⟨s, t, c, d, q, r, ea, eb, hd, hq, hr, e⟩ := own_divdat ha hb hz
  rw [e, ea, eb]
  exact ⟨Core.sgn_roundRatio _ _ _ _ _, Core.roundRatio_ne_nan _ _ _ _ _⟩
theorem own_fintop {a : UInt64} (hn : Core.val64 a ≠ .nan) (h : own_zm a < Core.b64.tails * 2 ^ (Core.b64.exps - 2)) : Core.DFin a := by
  cases e : Core.val64 a with
  | nan => exact absurd e hn
  | inf s => rw [own_zm, e] at h; exact absurd h (Nat.lt_irrefl _)
  | fin s c q => exact ⟨s, c, q, e⟩
theorem own_finle {a V : UInt64} (hn : Core.val64 a ≠ .nan) (hV : Core.DFin V) (h : own_zm a ≤ own_zm V) : Core.DFin a := own_fintop hn (Nat.lt_of_le_of_lt h hV.zval_lt)
theorem own_zmabs (a : UInt64) : (own_zv a).natAbs = own_zm a := Core.natAbs_signed _ _
theorem own_addne {a b : UInt64} (ha : Core.DFin a) (hb : Core.DFin b) : Core.val64 (FP.dadd a b) ≠ .nan := (Core.notNaN_iff _).mp (Core.dadd_out ha.notNaN hb)
theorem own_subne {a b : UInt64} (ha : Core.DFin a) (hb : Core.DFin b) : Core.val64 (FP.dsub a b) ≠ .nan := (Core.notNaN_iff _).mp (Core.dsub_out ha.notNaN hb)
theorem own_mulne {a b : UInt64} (ha : Core.DFin a) (hb : Core.DFin b) : Core.val64 (FP.dmul a b) ≠ .nan := (Core.notNaN_iff _).mp (Core.dmul_out ha hb)
theorem own_nnof {a : UInt64} (h : Core.val64 a ≠ .nan) : NoNaN64 a := val64_no.mpr h
/-- the double a is i times two to the power (j - 1074) -/
def own_Z (j : Nat) (i : Int) (a : UInt64) : Prop := Core.DFin a ∧ own_zv a = i * ((2 ^ j : Nat) : Int)
theorem own_rep (n : Int) (j : Nat) (hn : n.natAbs < 2 ^ 53) (hj : j ≤ 2045) : ∃ V, own_Z j n V := by
  have hqm : Core.b64.qmin = -1074 := Core.qmin_b64
  have hqx : Core.b64.qmax = 971 := by decide
  obtain ⟨c', q', h1, h2⟩ := Core.round_exact Core.good_b64 (decide (n < 0)) (c := n.natAbs) (q := Core.b64.qmin + j) hn (by omega) (by omega)
  have hv : Core.val64 (Core.of64 (Core.round Core.b64 (.fin (decide (n < 0)) n.natAbs (Core.b64.qmin + j)))) = .fin (decide (n < 0)) c' q' := by
    rw [Core.val64_of64 (Core.round_fits Core.good_b64 _), h1]
  refine ⟨_, ⟨_, _, _, hv⟩, ?_⟩
  unfold own_zv
  rw [hv]
  show Core.signed (decide (n < 0)) (Core.inUnits c' q' Core.b64.qmin) = _
  rw [h2]
  unfold Core.inUnits
  rw [show (Core.b64.qmin + (j : Int) - Core.b64.qmin).toNat = j by omega, Core.signed_mul]
  congr 1
  unfold Core.signed
  by_cases h : n < 0 <;> simp [h] <;> omega
theorem own_Z.nn {j : Nat} {i : Int} {a : UInt64} (h : own_Z j i a) : NoNaN64 a := own_finnn h.1
theorem own_Z.eqv {j : Nat} {i : Int} {a V : UInt64} (hV : own_Z j i V) (hn : Core.val64 a ≠ .nan) (h1 : own_zv a ≤ own_zv V) (h2 : own_zv V ≤ own_zv a) : own_Z j i a := by
  have e : own_zv a = own_zv V := Int.le_antisymm h1 h2
  refine ⟨own_finle hn hV.1 ?_, e.trans hV.2⟩
  rw [← own_zmabs, ← own_zmabs, e]; exact Nat.le_refl _
theorem own_Z.add {j : Nat} {i k : Int} {a b : UInt64} (ha : own_Z j i a) (hb : own_Z j k b) (hn : (i + k).natAbs < 2 ^ 53) (hj : j ≤ 2045 := by decide) : own_Z j (i + k) (FP.dadd a b) := by
  obtain ⟨V, hV⟩ := own_rep (i + k) j hn hj
  have e : own_zv a + own_zv b = own_zv V := by rw [ha.2, hb.2, hV.2, Int.add_mul]
  exact hV.eqv (own_addne ha.1 hb.1) (own_addle ha.1 hb.1 (own_finne hV.1) (Int.le_of_eq e)) (own_addge ha.1 hb.1 (own_finne hV.1) (Int.le_of_eq e.symm))
theorem own_Z.sub {j : Nat} {i k : Int} {a b : UInt64} (ha : own_Z j i a) (hb : own_Z j k b) (hn : (i - k).natAbs < 2 ^ 53) (hj : j ≤ 2045 := by decide) : own_Z j (i - k) (FP.dsub a b) := by
  obtain ⟨V, hV⟩ := own_rep (i - k) j hn hj
  have e : own_zv a - own_zv b = own_zv V := by rw [ha.2, hb.2, hV.2, Int.sub_mul]
  exact hV.eqv (own_subne ha.1 hb.1) (own_suble ha.1 hb.1 (own_finne hV.1) (Int.le_of_eq e)) (own_subge ha.1 hb.1 (own_finne hV.1) (Int.le_of_eq e.symm))
theorem own_Z.mul {j j' J : Nat} {i k : Int} {a b : UInt64} (ha : own_Z j i a) (hb : own_Z j' k b) (hn : (i * k).natAbs < 2 ^ 53) (hJ : J + 1074 = j + j' := by decide) (hj : J ≤ 2045 := by decide) : own_Z J (i * k) (FP.dmul a b) := by
  obtain ⟨V, hV⟩ := own_rep (i * k) J hn hj
  have e : own_zv a * own_zv b = own_zv V * (Core.one64 : Int) := by
    rw [ha.2, hb.2, hV.2, own_one, Int.mul_assoc (i * k), ← Int.natCast_mul, ← Nat.pow_add, hJ, Nat.pow_add, Int.natCast_mul]
    simp only [Int.mul_assoc, Int.mul_left_comm, Int.mul_comm]
  exact hV.eqv (own_mulne ha.1 hb.1) (own_mulle ha.1 hb.1 (own_finne hV.1) (Int.le_of_eq e)) (own_mulge ha.1 hb.1 (own_finne hV.1) (Int.le_of_eq e.symm))
theorem own_zmZ {j : Nat} {i : Int} {a : UInt64} (h : own_Z j i a) : own_zm a = i.natAbs * 2 ^ j := by
  rw [← own_zmabs, h.2, Int.natAbs_mul, Int.natAbs_natCast]
theorem own_Z.div {j j' J : Nat} {i m : Int} {a b : UInt64} (ha : own_Z j (i * m) a) (hb : own_Z j' m b) (hm : m ≠ 0) (hn : i.natAbs < 2 ^ 53) (hJ : J + j' = j + 1074 := by decide) (hj : J ≤ 2045 := by decide) : own_Z J i (FP.ddiv a b) := by
  obtain ⟨V, hV⟩ := own_rep i J hn hj
  have hb0 : own_zm b ≠ 0 := by
    rw [own_zmZ hb]
    exact Nat.mul_ne_zero (by omega) (Nat.ne_of_gt (Nat.two_pow_pos _))
  have e : own_zm a * Core.one64 = own_zm V * own_zm b := by
    rw [own_zmZ ha, own_zmZ hb, own_zmZ hV, own_one, Int.natAbs_mul, Nat.mul_assoc, ← Nat.pow_add, ← hJ, Nat.pow_add]
    simp only [Nat.mul_assoc, Nat.mul_left_comm, Nat.mul_comm]
  obtain ⟨hs, hne⟩ := own_divsgn ha.1 hb.1 hb0
  have em : own_zm (FP.ddiv a b) = own_zm V := Nat.le_antisymm (own_divle ha.1 hb.1 hb0 (own_finne hV.1) (Nat.le_of_eq e)) (own_divge ha.1 hb.1 hb0 (Nat.le_of_eq e.symm))
  refine ⟨own_finle hne hV.1 (Nat.le_of_eq em), ?_⟩
  have ev : own_zv (FP.ddiv a b) * own_zv b = own_zv a * (Core.one64 : Int) := by
    show Core.signed _ _ * Core.signed _ _ = Core.signed _ _ * _
    rw [← Core.signed_xor, hs, ← Core.signed_mul]
    have e2 : Core.zmag Core.b64 (Core.val64 (FP.ddiv a b)) * Core.zmag Core.b64 (Core.val64 b) = Core.zmag Core.b64 (Core.val64 a) * Core.one64 := by
      rw [show Core.zmag Core.b64 (Core.val64 (FP.ddiv a b)) = own_zm V from em]; exact e.symm
    rw [e2]
    cases Core.sgn (Core.val64 a) <;> cases Core.sgn (Core.val64 b) <;> rfl
  rw [ha.2, hb.2, own_one] at ev
  have hp : ((2 ^ j' : Nat) : Int) ≠ 0 := by have := Nat.two_pow_pos j'; omega
  refine Int.eq_of_mul_eq_mul_right (Int.mul_ne_zero hm hp) (ev.trans ?_)
  rw [Int.mul_assoc (i * m), ← Int.natCast_mul, ← Nat.pow_add, ← hJ, Nat.pow_add, Int.natCast_mul]
  simp only [Int.mul_assoc, Int.mul_left_comm, Int.mul_comm]
theorem own_Z.neg {j : Nat} {i : Int} {a : UInt64} (h : own_Z j i a) : own_Z j (-i) (FP.dneg a) := by
  refine ⟨?_, ?_⟩
  · obtain ⟨s, c, q, e⟩ := own_negfin h.1
    exact ⟨s, c, q, by rw [FP.val64_dneg]; exact e⟩
  · unfold own_zv
    rw [FP.val64_dneg, Core.zval_negate]
    have := h.2; unfold own_zv at this; rw [this, Int.neg_mul]
theorem own_Z.of_int {i : Int} {a : UInt64} (h : Core.DInt i a) : own_Z 1074 i a := by
  refine ⟨?_, Core.DInt_zval h⟩
  unfold Core.DInt at h
  cases e : Core.val64 a with
  | nan => rw [e] at h; exact h.elim
  | inf s => rw [e] at h; exact h.elim
  | fin s c q => exact ⟨s, c, q, e⟩
theorem own_Z.i2d (x : Int32) : own_Z 1074 x.toInt (FP.i2d x) := own_Z.of_int (Core.i2d_int x)
theorem own_Z.l2d {x : Int64} (h : x.toInt.natAbs ≤ 2 ^ 53) : own_Z 1074 x.toInt (FP.l2d x) := own_Z.of_int (Core.l2d_int h)
theorem own_Z.shift {j k : Nat} {i : Int} {a : UInt64} (h : own_Z (j + k) i a) : own_Z j (i * ((2 ^ k : Nat) : Int)) a := by
  refine ⟨h.1, h.2.trans ?_⟩
  rw [Nat.add_comm, Nat.pow_add, Int.natCast_mul, Int.mul_assoc]
theorem own_Z.cmp {j : Nat} {i k : Int} {a b : UInt64} (ha : own_Z j i a) (hb : own_Z j k b) : FP.dcmp a b = some (compare i k) := by
  have h := Core.dcmp_zval (own_finne ha.1) (own_finne hb.1)
  have h1 := ha.2; have h2 := hb.2
  unfold own_zv at h1 h2
  rw [h1, h2, Core.compare_mul_pos _ _ _ (by have := Nat.two_pow_pos j; omega)] at h
  exact h
theorem own_Z.cmpE {j : Nat} {i k : Int} {a b : UInt64} (ha : own_Z j i a) (hb : own_Z j k b) (h : i = k) (o : CmpOp) : cmpValue (FP.dcmp a b) o = 0 := by
  rw [ha.cmp hb, (Core.compare_eq_iff _ _).mpr h]; cases o <;> rfl
theorem own_Z.cmpL {j : Nat} {i k : Int} {a b : UInt64} (ha : own_Z j i a) (hb : own_Z j k b) (h : i < k) (o : CmpOp) : cmpValue (FP.dcmp a b) o = -1 := by
  rw [ha.cmp hb, (Core.compare_lt_iff _ _).mpr h]; cases o <;> rfl
theorem own_Z.cmpG {j : Nat} {i k : Int} {a b : UInt64} (ha : own_Z j i a) (hb : own_Z j k b) (h : k < i) (o : CmpOp) : cmpValue (FP.dcmp a b) o = 1 := by
  rw [ha.cmp hb, (Core.compare_gt_iff _ _).mpr h]; cases o <;> rfl
theorem own_Z.eq {j : Nat} {i k : Int} {a : UInt64} (ha : own_Z j i a) (h : i = k) : own_Z j k a := h ▸ ha
theorem own_mulb {a b : Int} {A B : Nat} (ha : a.natAbs ≤ A) (hb : b.natAbs ≤ B) : (a * b).natAbs ≤ A * B := by
  rw [Int.natAbs_mul]; exact Nat.mul_le_mul ha hb
theorem own_Z0 : own_Z 1074 0 0 := by
  refine ⟨⟨false, 0, Core.b64.qmin, by decide +kernel⟩, by decide +kernel⟩
theorem own_Z1 : own_Z 1074 1 4607182418800017408 := own_Z.of_int Core.dint_one
end OwnFl
section OwnMid
open Jvm.FP Jvm.Free.Fl
theorem own_s12 (x : Int32) : (x >>> ((12 : Int32) &&& 31)).toInt.natAbs ≤ 524288 := by
  rw [c_ishr x 12 12 (by decide)]
  have := x.le_toInt; have := x.toInt_lt
  show (x.toInt / (4096 : Nat)).natAbs ≤ _
  omega
theorem own_ite {P : Prop} [Decidable P] {x y : Int32} {B : Nat} (hx : x.toInt.natAbs ≤ B) (hy : y.toInt.natAbs ≤ B) : (if P then x else y).toInt.natAbs ≤ B := by split <;> assumption
theorem own_pkE {i : Int32} {sc : UInt64} (h : (if i = (0 : Int32) then (4607182418800017408 : UInt64) else if i = (1 : Int32) then (4472074429978902528 : UInt64) else if i = (2 : Int32) then (9133300044307365888 : UInt64) else (103582791429521408 : UInt64)) = sc) : Core.DFin sc := by
  rw [← h]
  split
  · exact own_Z1.1
  · split
    · exact ⟨false, 4503599627370496, -82, by decide +kernel⟩
    · split
      · exact ⟨false, 4503599627370496, 953, by decide +kernel⟩
      · exact ⟨false, 4503599627370496, -1052, by decide +kernel⟩
theorem own_pkN {i : Int32} {sc : UInt64} (h : (if i = (0 : Int32) then (4607182418800017408 : UInt64) else if i = (1 : Int32) then (4472074429978902528 : UInt64) else if i = (2 : Int32) then (8660422083433463808 : UInt64) else (103582791429521408 : UInt64)) = sc) : ∃ K, own_Z (K + 1) 1 sc ∧ K ≤ 2000 := by
  rw [← h]
  split
  · exact ⟨1073, own_Z1, by decide⟩
  · split
    · exact ⟨1043, ⟨⟨false, 4503599627370496, -82, by decide +kernel⟩, by decide +kernel⟩, by decide⟩
    · split
      · exact ⟨1973, ⟨⟨false, 4503599627370496, 848, by decide +kernel⟩, by decide +kernel⟩, by decide⟩
      · exact ⟨73, ⟨⟨false, 4503599627370496, -1052, by decide +kernel⟩, by decide +kernel⟩, by decide⟩
theorem own_iab {a b : Int32} (ra : a.toInt.natAbs ≤ 524288) (rb : b.toInt.natAbs ≤ 524288) : (a + b).toInt = a.toInt + b.toInt := by
  have e := c_iadd a b; have := rng32 (a + b); omega
theorem own_mids {K : Nat} {a b : Int32} {sc : UInt64} (z : own_Z (K + 1) 1 sc) (k : K ≤ 2000) (ra : a.toInt.natAbs ≤ 524288) (rb : b.toInt.natAbs ≤ 524288) :
    own_Z (K + 1) a.toInt (FP.dmul (FP.i2d a) sc) ∧ own_Z (K + 1) b.toInt (FP.dmul (FP.i2d b) sc) ∧
    ((¬ (cmpValue (FP.dcmp (FP.dmul (FP.i2d a) sc) (FP.dmul (FP.i2d b) sc)) .l = (0 : Int32)) → NoNaN64 (FP.dadd (FP.dmul (FP.i2d a) sc) (FP.dmul (FP.i2d b) sc))) ∧
     (¬ (cmpValue (FP.dcmp (FP.dmul (FP.i2d a) sc) (FP.dmul (FP.i2d b) sc)) .l = (0 : Int32)) → NoNaN64 (FP.ddiv (FP.dadd (FP.dmul (FP.i2d a) sc) (FP.dmul (FP.i2d b) sc)) 4611686018427387904))) ∧
    (∀ mm, (if cmpValue (FP.dcmp (FP.dmul (FP.i2d a) sc) (FP.dmul (FP.i2d b) sc)) .l = (0 : Int32) then FP.dmul (FP.i2d a) sc else FP.ddiv (FP.dadd (FP.dmul (FP.i2d a) sc) (FP.dmul (FP.i2d b) sc)) 4611686018427387904) = mm → own_Z K (a.toInt + b.toInt) mm) ∧
    own_Z (K + 1) (a + b).toInt (FP.dmul (FP.i2d (a + b)) sc) := by
  have hi : (a + b).toInt = a.toInt + b.toInt := own_iab ra rb
  have mk : ∀ (x : Int32), x.toInt.natAbs ≤ 1048576 → own_Z (K + 1) x.toInt (FP.dmul (FP.i2d x) sc) := fun x hx =>
    own_Z.eq ((own_Z.i2d x).mul z (J := K + 1) (by rw [Int.mul_one]; omega) (by omega) (by omega)) (Int.mul_one _)
  have A := mk a (by omega)
  have B := mk b (by omega)
  have C := mk (a + b) (by omega)
  have S := A.add B (by omega) (by omega)
  have z2 : own_Z 1075 1 4611686018427387904 := ⟨⟨false, 4503599627370496, -51, by decide +kernel⟩, by decide +kernel⟩
  have D : own_Z K (a.toInt + b.toInt) (FP.ddiv (FP.dadd (FP.dmul (FP.i2d a) sc) (FP.dmul (FP.i2d b) sc)) 4611686018427387904) :=
    own_Z.div (own_Z.eq S (Int.mul_one _).symm) z2 (by decide) (by omega) (by omega) (by omega)
  refine ⟨A, B, ⟨fun _ => S.nn, fun _ => D.nn⟩, fun mm hm => ?_, C⟩
  rw [← hm]
  by_cases q : cmpValue (FP.dcmp (FP.dmul (FP.i2d a) sc) (FP.dmul (FP.i2d b) sc)) .l = (0 : Int32)
  · rw [if_pos q]
    have e : a.toInt = b.toInt := by
      rcases Int.lt_trichotomy a.toInt b.toInt with h | h | h
      · rw [A.cmpL B h] at q; exact absurd q (by decide)
      · exact h
      · rw [A.cmpG B h] at q; exact absurd q (by decide)
    exact own_Z.eq (own_Z.shift (j := K) (k := 1) A) (by show a.toInt * 2 = _; omega)
  · rw [if_neg q]; exact D
theorem own_mm {K : Nat} {a b : Int32} {mm : UInt64} (z : own_Z K (a.toInt + b.toInt) mm) (k : K ≤ 2000) (ra : a.toInt.natAbs ≤ 524288) (rb : b.toInt.natAbs ≤ 524288) : own_Z K ((a.toInt + b.toInt) + (a.toInt + b.toInt)) (FP.dadd mm mm) := z.add z (by omega) (by omega)
theorem own_mcmp {K : Nat} {a b : Int32} {mm s : UInt64} (z : own_Z K (a.toInt + b.toInt) mm) (h : own_Z (K + 1) (a + b).toInt s) (k : K ≤ 2000) (ra : a.toInt.natAbs ≤ 524288) (rb : b.toInt.natAbs ≤ 524288) : cmpValue (FP.dcmp (FP.dadd mm mm) s) .l = 0 :=
  (own_mm z k ra rb).cmpE (own_Z.shift (j := K) (k := 1) h) (by rw [own_iab ra rb]; show _ = _ * 2; omega) _
end OwnMid
theorem own_d1_0 : decode jdk_29_method_69_code 0 = .ok (.iload_n 0, 1) := by decide +kernel
theorem own_d1_1 : decode jdk_29_method_69_code 1 = .ok (.iload_n 1, 1) := by decide +kernel
theorem own_d1_2 : decode jdk_29_method_69_code 2 = .ok (.if_icmp .gt 7, 3) := by decide +kernel
theorem own_d1_9 : decode jdk_29_method_69_code 9 = .ok (.iload_n 1, 1) := by decide +kernel
theorem own_d1_10 : decode jdk_29_method_69_code 10 = .ok (.ireturn, 1) := by decide +kernel
theorem own_d1_5 : decode jdk_29_method_69_code 5 = .ok (.iload_n 0, 1) := by decide +kernel
theorem own_d1_6 : decode jdk_29_method_69_code 6 = .ok (.goto 4, 3) := by decide +kernel
set_option maxHeartbeats 4000000 in
theorem own_ef1 (m : MethodId) (x0 : Int32) (x1 : Int32) : entryFrame m #[(.int x0), (.int x1)] 2 = mkF m 0 #[.val (.int x0), .val (.int x1)] [] := by first | (simp [entryFrame, mkF, argsToLocals, Value.category]; done) | rfl
def own_Q1 (Z : State) (a0 : Array Value) (i0 : Int32) (i1 : Int32) (h0 : Heap) (n0 : Nat) (v : Option Value) (h : Heap) (L : List Loc) : Prop := v = some (.int (if i1 < i0 then i1 else i0)) ∧ Fr n0 L ∧ h = h0
set_option maxRecDepth 65536 in
set_option maxHeartbeats 40000000 in
theorem own_rm1 (l : Launch) (Z : State) (a0 : Array Value) (hw : ∀ d ∈ tables_1, d.before a0 Z = true) (ws : List Jvm.Cond) (i0 : Int32) (i1 : Int32) (h0 : Heap) (n0 : Nat) (Z0 : n0 ≤ h0.size) :
    MetFree l (⟨"java/lang/Math", "min", "(II)I"⟩ : MethodName) (head1 (Jvm.Cond.code (⟨"java/lang/Math", "min", "(II)I"⟩ : MethodName) jdk_29_method_69_code 2 (some .int) :: ws) ({ frames := 0, cells := 0, slots := 0, locals := 0 } : Room)) (fun a U => a = #[(.int i0), (.int i1)] ∧ Z.Warmed39 U.vm ∧ U.heap = h0) (fun _ _ _ _ _ => True) (fun _ U o U' => ∃ v L, o = .returned v ∧ own_Q1 Z a0 i0 i1 h0 n0 v U'.heap L ∧ FrameEnd U o U' L ({ frames := 0, cells := 0, slots := 0, locals := 0 } : Room).cells ({ frames := 0, cells := 0, slots := 0, locals := 0 } : Room).slots) := by
  refine own_body (Q := fun v h L => own_Q1 Z a0 i0 i1 h0 n0 v h L) (Jvm.Free.JP.mathPlain rfl (by decide +kernel)) ?_
  intro p e s m below meth c s₁ hx hby hml hZ hown hnm hret hlk X0 e0
  replace hml : c.maxLocals = 2 := hml
  have N0 := Fr.nil n0
  have K0 : Keep h0 h0 [] := Keep.refl _ _
  refine own_st (fun t k => castTop (own_ef1 m i0 i1) k) ?_
  show own_Run p e below s _ _ _ (s₁.setTop (mkF m 0 #[.val (.int i0), .val (.int i1)] []))
  refine own_st (fun t k => XS.iloadN X0.here hx rfl (hb hby own_d1_0) rfl k) ?_
  show own_Run p e below s _ _ _ (s₁.setTop (mkF m 1 #[.val (.int i0), .val (.int i1)] [(.int i0)]))
  refine own_st (fun t k => XS.iloadN X0.here hx rfl (hb hby own_d1_1) rfl k) ?_
  show own_Run p e below s _ _ _ (s₁.setTop (mkF m 2 #[.val (.int i0), .val (.int i1)] [(.int i1), (.int i0)]))
  by_cases hA : i1 < i0
  · skip
    refine own_st (fun t k => XS.icmpYes X0.here hx rfl (pc0 := 2) (pc' := 9) rfl (hb hby own_d1_2) rfl (tlt (hA : i1 < i0)).2.2.1 (by decide) (by decide) k) ?_
    show own_Run p e below s _ _ _ (s₁.setTop (mkF m 9 #[.val (.int i0), .val (.int i1)] []))
    refine own_st (fun t k => XS.iloadN X0.here hx rfl (hb hby own_d1_9) rfl k) ?_
    show own_Run p e below s _ _ _ (s₁.setTop (mkF m 10 #[.val (.int i0), .val (.int i1)] [(.int i1)]))
    exact own_ret X0 hx hlk (t := .int) hret rfl (Or.inl ⟨rfl, by simp, _, rfl⟩) (hb hby own_d1_10) (by decide) (by decide) ⟨by simp [hA], N0, e0⟩
  · skip
    refine own_st (fun t k => XS.icmpNo X0.here hx rfl (hb hby own_d1_2) rfl (flt (hA : ¬ (i1 < i0))).2.2.1 k) ?_
    show own_Run p e below s _ _ _ (s₁.setTop (mkF m 5 #[.val (.int i0), .val (.int i1)] []))
    refine own_st (fun t k => XS.iloadN X0.here hx rfl (hb hby own_d1_5) rfl k) ?_
    show own_Run p e below s _ _ _ (s₁.setTop (mkF m 6 #[.val (.int i0), .val (.int i1)] [(.int i0)]))
    refine own_st (fun t k => XS.goto X0.here hx rfl (pc0 := 6) (pc' := 10) rfl (hb hby own_d1_6) (by decide) (by decide) k) ?_
    show own_Run p e below s _ _ _ (s₁.setTop (mkF m 10 #[.val (.int i0), .val (.int i1)] [(.int i0)]))
    exact own_ret X0 hx hlk (t := .int) hret rfl (Or.inl ⟨rfl, by simp, _, rfl⟩) (hb hby own_d1_10) (by decide) (by decide) ⟨by simp [hA], N0, e0⟩
theorem own_d2_0 : decode jdk_29_method_65_code 0 = .ok (.iload_n 0, 1) := by decide +kernel
theorem own_d2_1 : decode jdk_29_method_65_code 1 = .ok (.iload_n 1, 1) := by decide +kernel
theorem own_d2_2 : decode jdk_29_method_65_code 2 = .ok (.if_icmp .lt 7, 3) := by decide +kernel
theorem own_d2_9 : decode jdk_29_method_65_code 9 = .ok (.iload_n 1, 1) := by decide +kernel
theorem own_d2_10 : decode jdk_29_method_65_code 10 = .ok (.ireturn, 1) := by decide +kernel
theorem own_d2_5 : decode jdk_29_method_65_code 5 = .ok (.iload_n 0, 1) := by decide +kernel
theorem own_d2_6 : decode jdk_29_method_65_code 6 = .ok (.goto 4, 3) := by decide +kernel
set_option maxHeartbeats 4000000 in
theorem own_ef2 (m : MethodId) (x0 : Int32) (x1 : Int32) : entryFrame m #[(.int x0), (.int x1)] 2 = mkF m 0 #[.val (.int x0), .val (.int x1)] [] := by first | (simp [entryFrame, mkF, argsToLocals, Value.category]; done) | rfl
def own_Q2 (Z : State) (a0 : Array Value) (i0 : Int32) (i1 : Int32) (h0 : Heap) (n0 : Nat) (v : Option Value) (h : Heap) (L : List Loc) : Prop := v = some (.int (if i0 < i1 then i1 else i0)) ∧ Fr n0 L ∧ h = h0
set_option maxRecDepth 65536 in
set_option maxHeartbeats 40000000 in
theorem own_rm2 (l : Launch) (Z : State) (a0 : Array Value) (hw : ∀ d ∈ tables_1, d.before a0 Z = true) (ws : List Jvm.Cond) (i0 : Int32) (i1 : Int32) (h0 : Heap) (n0 : Nat) (Z0 : n0 ≤ h0.size) :
    MetFree l (⟨"java/lang/Math", "max", "(II)I"⟩ : MethodName) (head1 (Jvm.Cond.code (⟨"java/lang/Math", "max", "(II)I"⟩ : MethodName) jdk_29_method_65_code 2 (some .int) :: ws) ({ frames := 0, cells := 0, slots := 0, locals := 0 } : Room)) (fun a U => a = #[(.int i0), (.int i1)] ∧ Z.Warmed39 U.vm ∧ U.heap = h0) (fun _ _ _ _ _ => True) (fun _ U o U' => ∃ v L, o = .returned v ∧ own_Q2 Z a0 i0 i1 h0 n0 v U'.heap L ∧ FrameEnd U o U' L ({ frames := 0, cells := 0, slots := 0, locals := 0 } : Room).cells ({ frames := 0, cells := 0, slots := 0, locals := 0 } : Room).slots) := by
  refine own_body (Q := fun v h L => own_Q2 Z a0 i0 i1 h0 n0 v h L) (Jvm.Free.JP.mathPlain rfl (by decide +kernel)) ?_
  intro p e s m below meth c s₁ hx hby hml hZ hown hnm hret hlk X0 e0
  replace hml : c.maxLocals = 2 := hml
  have N0 := Fr.nil n0
  have K0 : Keep h0 h0 [] := Keep.refl _ _
  refine own_st (fun t k => castTop (own_ef2 m i0 i1) k) ?_
  show own_Run p e below s _ _ _ (s₁.setTop (mkF m 0 #[.val (.int i0), .val (.int i1)] []))
  refine own_st (fun t k => XS.iloadN X0.here hx rfl (hb hby own_d2_0) rfl k) ?_
  show own_Run p e below s _ _ _ (s₁.setTop (mkF m 1 #[.val (.int i0), .val (.int i1)] [(.int i0)]))
  refine own_st (fun t k => XS.iloadN X0.here hx rfl (hb hby own_d2_1) rfl k) ?_
  show own_Run p e below s _ _ _ (s₁.setTop (mkF m 2 #[.val (.int i0), .val (.int i1)] [(.int i1), (.int i0)]))
  by_cases hA : i0 < i1
  · skip
    refine own_st (fun t k => XS.icmpYes X0.here hx rfl (pc0 := 2) (pc' := 9) rfl (hb hby own_d2_2) rfl (tlt (hA : i0 < i1)).1 (by decide) (by decide) k) ?_
    show own_Run p e below s _ _ _ (s₁.setTop (mkF m 9 #[.val (.int i0), .val (.int i1)] []))
    refine own_st (fun t k => XS.iloadN X0.here hx rfl (hb hby own_d2_9) rfl k) ?_
    show own_Run p e below s _ _ _ (s₁.setTop (mkF m 10 #[.val (.int i0), .val (.int i1)] [(.int i1)]))
    exact own_ret X0 hx hlk (t := .int) hret rfl (Or.inl ⟨rfl, by simp, _, rfl⟩) (hb hby own_d2_10) (by decide) (by decide) ⟨by simp [hA], N0, e0⟩
  · skip
    refine own_st (fun t k => XS.icmpNo X0.here hx rfl (hb hby own_d2_2) rfl (flt (hA : ¬ (i0 < i1))).1 k) ?_
    show own_Run p e below s _ _ _ (s₁.setTop (mkF m 5 #[.val (.int i0), .val (.int i1)] []))
    refine own_st (fun t k => XS.iloadN X0.here hx rfl (hb hby own_d2_5) rfl k) ?_
    show own_Run p e below s _ _ _ (s₁.setTop (mkF m 6 #[.val (.int i0), .val (.int i1)] [(.int i0)]))
    refine own_st (fun t k => XS.goto X0.here hx rfl (pc0 := 6) (pc' := 10) rfl (hb hby own_d2_6) (by decide) (by decide) k) ?_
    show own_Run p e below s _ _ _ (s₁.setTop (mkF m 10 #[.val (.int i0), .val (.int i1)] [(.int i0)]))
    exact own_ret X0 hx hlk (t := .int) hret rfl (Or.inl ⟨rfl, by simp, _, rfl⟩) (hb hby own_d2_10) (by decide) (by decide) ⟨by simp [hA], N0, e0⟩
theorem own_d3_0 : decode method_2_code 0 = .ok (.iload_n 0, 1) := by decide +kernel
theorem own_d3_1 : decode method_2_code 1 = .ok (.ifCond .ne 5, 3) := by decide +kernel
theorem own_d3_4 : decode method_2_code 4 = .ok (.dconst 1, 1) := by decide +kernel
theorem own_d3_5 : decode method_2_code 5 = .ok (.dreturn, 1) := by decide +kernel
theorem own_d3_6 : decode method_2_code 6 = .ok (.iload_n 0, 1) := by decide +kernel
theorem own_d3_7 : decode method_2_code 7 = .ok (.iconst 1, 1) := by decide +kernel
theorem own_d3_8 : decode method_2_code 8 = .ok (.if_icmp .ne 7, 3) := by decide +kernel
theorem own_d3_11 : decode method_2_code 11 = .ok (.ldc2_w 7, 3) := by decide +kernel
theorem own_d3_14 : decode method_2_code 14 = .ok (.dreturn, 1) := by decide +kernel
theorem own_d3_15 : decode method_2_code 15 = .ok (.iload_n 0, 1) := by decide +kernel
theorem own_d3_16 : decode method_2_code 16 = .ok (.iconst 2, 1) := by decide +kernel
theorem own_d3_17 : decode method_2_code 17 = .ok (.if_icmp .ne 15, 3) := by decide +kernel
theorem own_d3_20 : decode method_2_code 20 = .ok (.iload_n 1, 1) := by decide +kernel
theorem own_d3_21 : decode method_2_code 21 = .ok (.ifCond .eq 7, 3) := by decide +kernel
theorem own_d3_24 : decode method_2_code 24 = .ok (.ldc2_w 9, 3) := by decide +kernel
theorem own_d3_27 : decode method_2_code 27 = .ok (.dreturn, 1) := by decide +kernel
theorem own_d3_32 : decode method_2_code 32 = .ok (.ldc2_w 13, 3) := by decide +kernel
theorem own_d3_35 : decode method_2_code 35 = .ok (.dreturn, 1) := by decide +kernel
set_option maxHeartbeats 4000000 in
theorem own_ef3E (m : MethodId) (x0 : Int32) (x1 : Int32) : entryFrame m #[(.int x0), (.int x1)] 2 = mkF m 0 #[.val (.int x0), .val (.int x1)] [] := by first | (simp [entryFrame, mkF, argsToLocals, Value.category]; done) | rfl
theorem own_pn0 : plainName "com/example/intervallum/intervallum/robust/ValueBoundsMidpointPinLaw" = true := by first | (simp [plainName, overriddenIn]; done) | decide +kernel
def own_Q3E (Z : State) (a0 : Array Value) (i0 : Int32) (h0 : Heap) (n0 : Nat) (v : Option Value) (h : Heap) (L : List Loc) : Prop := v = some (.double (if i0 = (0 : Int32) then (4607182418800017408 : UInt64) else if i0 = (1 : Int32) then (4472074429978902528 : UInt64) else if i0 = (2 : Int32) then (9133300044307365888 : UInt64) else (103582791429521408 : UInt64))) ∧ Fr n0 L ∧ h = h0
set_option maxRecDepth 65536 in
set_option maxHeartbeats 40000000 in
theorem own_rm3E (l : Launch) (Z : State) (a0 : Array Value) (hw : ∀ d ∈ tables_1, d.before a0 Z = true) (ws : List Jvm.Cond) (i0 : Int32) (h0 : Heap) (n0 : Nat) (Z0 : n0 ≤ h0.size) :
    MetFree l (⟨"com/example/intervallum/intervallum/robust/ValueBoundsMidpointPinLaw", "pick", "(IZ)D"⟩ : MethodName) (head1 (Jvm.Cond.code (⟨"com/example/intervallum/intervallum/robust/ValueBoundsMidpointPinLaw", "pick", "(IZ)D"⟩ : MethodName) method_2_code 2 (some .double) :: ws) ({ frames := 0, cells := 0, slots := 0, locals := 0 } : Room)) (fun a U => a = #[(.int i0), (.int (1 : Int32))] ∧ Z.Warmed39 U.vm ∧ U.heap = h0) (fun _ _ _ _ _ => True) (fun _ U o U' => ∃ v L, o = .returned v ∧ own_Q3E Z a0 i0 h0 n0 v U'.heap L ∧ FrameEnd U o U' L ({ frames := 0, cells := 0, slots := 0, locals := 0 } : Room).cells ({ frames := 0, cells := 0, slots := 0, locals := 0 } : Room).slots) := by
  refine own_body (Q := fun v h L => own_Q3E Z a0 i0 h0 n0 v h L) (plainFor_of_name own_pn0) ?_
  intro p e s m below meth c s₁ hx hby hml hZ hown hnm hret hlk X0 e0
  replace hml : c.maxLocals = 2 := hml
  have N0 := Fr.nil n0
  have K0 : Keep h0 h0 [] := Keep.refl _ _
  refine own_st (fun t k => castTop (own_ef3E m i0 (1 : Int32)) k) ?_
  show own_Run p e below s _ _ _ (s₁.setTop (mkF m 0 #[.val (.int i0), .val (.int (1 : Int32))] []))
  refine own_st (fun t k => XS.iloadN X0.here hx rfl (hb hby own_d3_0) rfl k) ?_
  show own_Run p e below s _ _ _ (s₁.setTop (mkF m 1 #[.val (.int i0), .val (.int (1 : Int32))] [(.int i0)]))
  by_cases hA : i0 = (0 : Int32)
  · skip
    refine own_st (fun t k => XS.ifNo X0.here hx rfl (hb hby own_d3_1) rfl ((if0 _ _).trans (teq (hA : i0 = (0 : Int32))).2) k) ?_
    show own_Run p e below s _ _ _ (s₁.setTop (mkF m 4 #[.val (.int i0), .val (.int (1 : Int32))] []))
    refine own_st (fun t k => XS.dconst1 X0.here hx rfl (hb hby own_d3_4) (v := 4607182418800017408) rfl k) ?_
    show own_Run p e below s _ _ _ (s₁.setTop (mkF m 5 #[.val (.int i0), .val (.int (1 : Int32))] [(.double (4607182418800017408 : UInt64))]))
    exact own_ret X0 hx hlk (t := .double) hret rfl (Or.inr (Or.inr (Or.inl ⟨rfl, rfl, _, rfl⟩))) (hb hby own_d3_5) (by decide) (by decide) ⟨by first | simp [hA, hB, hC] | simp [hA, hB] | simp [hA], N0, e0⟩
  · skip
    refine own_st (fun t k => XS.ifYes X0.here hx rfl (pc0 := 1) (pc' := 6) rfl (hb hby own_d3_1) rfl ((if0 _ _).trans (feq (hA : ¬ (i0 = (0 : Int32)))).2) (by decide) (by decide) k) ?_
    show own_Run p e below s _ _ _ (s₁.setTop (mkF m 6 #[.val (.int i0), .val (.int (1 : Int32))] []))
    refine own_st (fun t k => XS.iloadN X0.here hx rfl (hb hby own_d3_6) rfl k) ?_
    show own_Run p e below s _ _ _ (s₁.setTop (mkF m 7 #[.val (.int i0), .val (.int (1 : Int32))] [(.int i0)]))
    refine own_st (fun t k => XS.iconst X0.here hx rfl (hb hby own_d3_7) k) ?_
    show own_Run p e below s _ _ _ (s₁.setTop (mkF m 8 #[.val (.int i0), .val (.int (1 : Int32))] [(.int (1 : Int32)), (.int i0)]))
    by_cases hB : i0 = (1 : Int32)
    · skip
      refine own_st (fun t k => XS.icmpNo X0.here hx rfl (hb hby own_d3_8) rfl (teq (hB : i0 = (1 : Int32))).2 k) ?_
      show own_Run p e below s _ _ _ (s₁.setTop (mkF m 11 #[.val (.int i0), .val (.int (1 : Int32))] []))
      refine own_st (X0.ldc2DoubleC hx hown (mvT hZ (hw _ (List.mem_of_getElem? (i := 37) rfl))) (g := (mkF m 11 #[.val (.int i0), .val (.int (1 : Int32))] [])) rfl (hb hby own_d3_11)) ?_
      show own_Run p e below s _ _ _ (s₁.setTop (mkF m 14 #[.val (.int i0), .val (.int (1 : Int32))] [(.double (4472074429978902528 : UInt64))]))
      exact own_ret X0 hx hlk (t := .double) hret rfl (Or.inr (Or.inr (Or.inl ⟨rfl, rfl, _, rfl⟩))) (hb hby own_d3_14) (by decide) (by decide) ⟨by first | simp [hA, hB, hC] | simp [hA, hB] | simp [hA], N0, e0⟩
    · skip
      refine own_st (fun t k => XS.icmpYes X0.here hx rfl (pc0 := 8) (pc' := 15) rfl (hb hby own_d3_8) rfl (feq (hB : ¬ (i0 = (1 : Int32)))).2 (by decide) (by decide) k) ?_
      show own_Run p e below s _ _ _ (s₁.setTop (mkF m 15 #[.val (.int i0), .val (.int (1 : Int32))] []))
      refine own_st (fun t k => XS.iloadN X0.here hx rfl (hb hby own_d3_15) rfl k) ?_
      show own_Run p e below s _ _ _ (s₁.setTop (mkF m 16 #[.val (.int i0), .val (.int (1 : Int32))] [(.int i0)]))
      refine own_st (fun t k => XS.iconst X0.here hx rfl (hb hby own_d3_16) k) ?_
      show own_Run p e below s _ _ _ (s₁.setTop (mkF m 17 #[.val (.int i0), .val (.int (1 : Int32))] [(.int (2 : Int32)), (.int i0)]))
      by_cases hC : i0 = (2 : Int32)
      · skip
        refine own_st (fun t k => XS.icmpNo X0.here hx rfl (hb hby own_d3_17) rfl (teq (hC : i0 = (2 : Int32))).2 k) ?_
        show own_Run p e below s _ _ _ (s₁.setTop (mkF m 20 #[.val (.int i0), .val (.int (1 : Int32))] []))
        refine own_st (fun t k => XS.iloadN X0.here hx rfl (hb hby own_d3_20) rfl k) ?_
        show own_Run p e below s _ _ _ (s₁.setTop (mkF m 21 #[.val (.int i0), .val (.int (1 : Int32))] [(.int (1 : Int32))]))
        refine own_st (fun t k => XS.ifNo X0.here hx rfl (hb hby own_d3_21) rfl ((if0 _ _).trans (feq (by decide : ¬ ((1 : Int32) = (0 : Int32)))).1) k) ?_
        show own_Run p e below s _ _ _ (s₁.setTop (mkF m 24 #[.val (.int i0), .val (.int (1 : Int32))] []))
        refine own_st (X0.ldc2DoubleC hx hown (mvT hZ (hw _ (List.mem_of_getElem? (i := 38) rfl))) (g := (mkF m 24 #[.val (.int i0), .val (.int (1 : Int32))] [])) rfl (hb hby own_d3_24)) ?_
        show own_Run p e below s _ _ _ (s₁.setTop (mkF m 27 #[.val (.int i0), .val (.int (1 : Int32))] [(.double (9133300044307365888 : UInt64))]))
        exact own_ret X0 hx hlk (t := .double) hret rfl (Or.inr (Or.inr (Or.inl ⟨rfl, rfl, _, rfl⟩))) (hb hby own_d3_27) (by decide) (by decide) ⟨by first | simp [hA, hB, hC] | simp [hA, hB] | simp [hA], N0, e0⟩
      · skip
        refine own_st (fun t k => XS.icmpYes X0.here hx rfl (pc0 := 17) (pc' := 32) rfl (hb hby own_d3_17) rfl (feq (hC : ¬ (i0 = (2 : Int32)))).2 (by decide) (by decide) k) ?_
        show own_Run p e below s _ _ _ (s₁.setTop (mkF m 32 #[.val (.int i0), .val (.int (1 : Int32))] []))
        refine own_st (X0.ldc2DoubleC hx hown (mvT hZ (hw _ (List.mem_of_getElem? (i := 36) rfl))) (g := (mkF m 32 #[.val (.int i0), .val (.int (1 : Int32))] [])) rfl (hb hby own_d3_32)) ?_
        show own_Run p e below s _ _ _ (s₁.setTop (mkF m 35 #[.val (.int i0), .val (.int (1 : Int32))] [(.double (103582791429521408 : UInt64))]))
        exact own_ret X0 hx hlk (t := .double) hret rfl (Or.inr (Or.inr (Or.inl ⟨rfl, rfl, _, rfl⟩))) (hb hby own_d3_35) (by decide) (by decide) ⟨by first | simp [hA, hB, hC] | simp [hA, hB] | simp [hA], N0, e0⟩
theorem own_d3_28 : decode method_2_code 28 = .ok (.ldc2_w 11, 3) := by decide +kernel
theorem own_d3_31 : decode method_2_code 31 = .ok (.dreturn, 1) := by decide +kernel
set_option maxHeartbeats 4000000 in
theorem own_ef3N (m : MethodId) (x0 : Int32) (x1 : Int32) : entryFrame m #[(.int x0), (.int x1)] 2 = mkF m 0 #[.val (.int x0), .val (.int x1)] [] := by first | (simp [entryFrame, mkF, argsToLocals, Value.category]; done) | rfl
def own_Q3N (Z : State) (a0 : Array Value) (i0 : Int32) (h0 : Heap) (n0 : Nat) (v : Option Value) (h : Heap) (L : List Loc) : Prop := v = some (.double (if i0 = (0 : Int32) then (4607182418800017408 : UInt64) else if i0 = (1 : Int32) then (4472074429978902528 : UInt64) else if i0 = (2 : Int32) then (8660422083433463808 : UInt64) else (103582791429521408 : UInt64))) ∧ Fr n0 L ∧ h = h0
set_option maxRecDepth 65536 in
set_option maxHeartbeats 40000000 in
theorem own_rm3N (l : Launch) (Z : State) (a0 : Array Value) (hw : ∀ d ∈ tables_1, d.before a0 Z = true) (ws : List Jvm.Cond) (i0 : Int32) (h0 : Heap) (n0 : Nat) (Z0 : n0 ≤ h0.size) :
    MetFree l (⟨"com/example/intervallum/intervallum/robust/ValueBoundsMidpointPinLaw", "pick", "(IZ)D"⟩ : MethodName) (head1 (Jvm.Cond.code (⟨"com/example/intervallum/intervallum/robust/ValueBoundsMidpointPinLaw", "pick", "(IZ)D"⟩ : MethodName) method_2_code 2 (some .double) :: ws) ({ frames := 0, cells := 0, slots := 0, locals := 0 } : Room)) (fun a U => a = #[(.int i0), (.int (0 : Int32))] ∧ Z.Warmed39 U.vm ∧ U.heap = h0) (fun _ _ _ _ _ => True) (fun _ U o U' => ∃ v L, o = .returned v ∧ own_Q3N Z a0 i0 h0 n0 v U'.heap L ∧ FrameEnd U o U' L ({ frames := 0, cells := 0, slots := 0, locals := 0 } : Room).cells ({ frames := 0, cells := 0, slots := 0, locals := 0 } : Room).slots) := by
  refine own_body (Q := fun v h L => own_Q3N Z a0 i0 h0 n0 v h L) (plainFor_of_name own_pn0) ?_
  intro p e s m below meth c s₁ hx hby hml hZ hown hnm hret hlk X0 e0
  replace hml : c.maxLocals = 2 := hml
  have N0 := Fr.nil n0
  have K0 : Keep h0 h0 [] := Keep.refl _ _
  refine own_st (fun t k => castTop (own_ef3N m i0 (0 : Int32)) k) ?_
  show own_Run p e below s _ _ _ (s₁.setTop (mkF m 0 #[.val (.int i0), .val (.int (0 : Int32))] []))
  refine own_st (fun t k => XS.iloadN X0.here hx rfl (hb hby own_d3_0) rfl k) ?_
  show own_Run p e below s _ _ _ (s₁.setTop (mkF m 1 #[.val (.int i0), .val (.int (0 : Int32))] [(.int i0)]))
  by_cases hA : i0 = (0 : Int32)
  · skip
    refine own_st (fun t k => XS.ifNo X0.here hx rfl (hb hby own_d3_1) rfl ((if0 _ _).trans (teq (hA : i0 = (0 : Int32))).2) k) ?_
    show own_Run p e below s _ _ _ (s₁.setTop (mkF m 4 #[.val (.int i0), .val (.int (0 : Int32))] []))
    refine own_st (fun t k => XS.dconst1 X0.here hx rfl (hb hby own_d3_4) (v := 4607182418800017408) rfl k) ?_
    show own_Run p e below s _ _ _ (s₁.setTop (mkF m 5 #[.val (.int i0), .val (.int (0 : Int32))] [(.double (4607182418800017408 : UInt64))]))
    exact own_ret X0 hx hlk (t := .double) hret rfl (Or.inr (Or.inr (Or.inl ⟨rfl, rfl, _, rfl⟩))) (hb hby own_d3_5) (by decide) (by decide) ⟨by first | simp [hA, hB, hC] | simp [hA, hB] | simp [hA], N0, e0⟩
  · skip
    refine own_st (fun t k => XS.ifYes X0.here hx rfl (pc0 := 1) (pc' := 6) rfl (hb hby own_d3_1) rfl ((if0 _ _).trans (feq (hA : ¬ (i0 = (0 : Int32)))).2) (by decide) (by decide) k) ?_
    show own_Run p e below s _ _ _ (s₁.setTop (mkF m 6 #[.val (.int i0), .val (.int (0 : Int32))] []))
    refine own_st (fun t k => XS.iloadN X0.here hx rfl (hb hby own_d3_6) rfl k) ?_
    show own_Run p e below s _ _ _ (s₁.setTop (mkF m 7 #[.val (.int i0), .val (.int (0 : Int32))] [(.int i0)]))
    refine own_st (fun t k => XS.iconst X0.here hx rfl (hb hby own_d3_7) k) ?_
    show own_Run p e below s _ _ _ (s₁.setTop (mkF m 8 #[.val (.int i0), .val (.int (0 : Int32))] [(.int (1 : Int32)), (.int i0)]))
    by_cases hB : i0 = (1 : Int32)
    · skip
      refine own_st (fun t k => XS.icmpNo X0.here hx rfl (hb hby own_d3_8) rfl (teq (hB : i0 = (1 : Int32))).2 k) ?_
      show own_Run p e below s _ _ _ (s₁.setTop (mkF m 11 #[.val (.int i0), .val (.int (0 : Int32))] []))
      refine own_st (X0.ldc2DoubleC hx hown (mvT hZ (hw _ (List.mem_of_getElem? (i := 37) rfl))) (g := (mkF m 11 #[.val (.int i0), .val (.int (0 : Int32))] [])) rfl (hb hby own_d3_11)) ?_
      show own_Run p e below s _ _ _ (s₁.setTop (mkF m 14 #[.val (.int i0), .val (.int (0 : Int32))] [(.double (4472074429978902528 : UInt64))]))
      exact own_ret X0 hx hlk (t := .double) hret rfl (Or.inr (Or.inr (Or.inl ⟨rfl, rfl, _, rfl⟩))) (hb hby own_d3_14) (by decide) (by decide) ⟨by first | simp [hA, hB, hC] | simp [hA, hB] | simp [hA], N0, e0⟩
    · skip
      refine own_st (fun t k => XS.icmpYes X0.here hx rfl (pc0 := 8) (pc' := 15) rfl (hb hby own_d3_8) rfl (feq (hB : ¬ (i0 = (1 : Int32)))).2 (by decide) (by decide) k) ?_
      show own_Run p e below s _ _ _ (s₁.setTop (mkF m 15 #[.val (.int i0), .val (.int (0 : Int32))] []))
      refine own_st (fun t k => XS.iloadN X0.here hx rfl (hb hby own_d3_15) rfl k) ?_
      show own_Run p e below s _ _ _ (s₁.setTop (mkF m 16 #[.val (.int i0), .val (.int (0 : Int32))] [(.int i0)]))
      refine own_st (fun t k => XS.iconst X0.here hx rfl (hb hby own_d3_16) k) ?_
      show own_Run p e below s _ _ _ (s₁.setTop (mkF m 17 #[.val (.int i0), .val (.int (0 : Int32))] [(.int (2 : Int32)), (.int i0)]))
      by_cases hC : i0 = (2 : Int32)
      · skip
        refine own_st (fun t k => XS.icmpNo X0.here hx rfl (hb hby own_d3_17) rfl (teq (hC : i0 = (2 : Int32))).2 k) ?_
        show own_Run p e below s _ _ _ (s₁.setTop (mkF m 20 #[.val (.int i0), .val (.int (0 : Int32))] []))
        refine own_st (fun t k => XS.iloadN X0.here hx rfl (hb hby own_d3_20) rfl k) ?_
        show own_Run p e below s _ _ _ (s₁.setTop (mkF m 21 #[.val (.int i0), .val (.int (0 : Int32))] [(.int (0 : Int32))]))
        refine own_st (fun t k => XS.ifYes X0.here hx rfl (pc0 := 21) (pc' := 28) rfl (hb hby own_d3_21) rfl ((if0 _ _).trans (teq (by decide : (0 : Int32) = (0 : Int32))).1) (by decide) (by decide) k) ?_
        show own_Run p e below s _ _ _ (s₁.setTop (mkF m 28 #[.val (.int i0), .val (.int (0 : Int32))] []))
        refine own_st (X0.ldc2DoubleC hx hown (mvT hZ (hw _ (List.mem_of_getElem? (i := 11) rfl))) (g := (mkF m 28 #[.val (.int i0), .val (.int (0 : Int32))] [])) rfl (hb hby own_d3_28)) ?_
        show own_Run p e below s _ _ _ (s₁.setTop (mkF m 31 #[.val (.int i0), .val (.int (0 : Int32))] [(.double (8660422083433463808 : UInt64))]))
        exact own_ret X0 hx hlk (t := .double) hret rfl (Or.inr (Or.inr (Or.inl ⟨rfl, rfl, _, rfl⟩))) (hb hby own_d3_31) (by decide) (by decide) ⟨by first | simp [hA, hB, hC] | simp [hA, hB] | simp [hA], N0, e0⟩
      · skip
        refine own_st (fun t k => XS.icmpYes X0.here hx rfl (pc0 := 17) (pc' := 32) rfl (hb hby own_d3_17) rfl (feq (hC : ¬ (i0 = (2 : Int32)))).2 (by decide) (by decide) k) ?_
        show own_Run p e below s _ _ _ (s₁.setTop (mkF m 32 #[.val (.int i0), .val (.int (0 : Int32))] []))
        refine own_st (X0.ldc2DoubleC hx hown (mvT hZ (hw _ (List.mem_of_getElem? (i := 36) rfl))) (g := (mkF m 32 #[.val (.int i0), .val (.int (0 : Int32))] [])) rfl (hb hby own_d3_32)) ?_
        show own_Run p e below s _ _ _ (s₁.setTop (mkF m 35 #[.val (.int i0), .val (.int (0 : Int32))] [(.double (103582791429521408 : UInt64))]))
        exact own_ret X0 hx hlk (t := .double) hret rfl (Or.inr (Or.inr (Or.inl ⟨rfl, rfl, _, rfl⟩))) (hb hby own_d3_35) (by decide) (by decide) ⟨by first | simp [hA, hB, hC] | simp [hA, hB] | simp [hA], N0, e0⟩
theorem own_d5_0 : decode jdk_30_method_1_code 0 = .ok (.aload_n 0, 1) := by decide +kernel
theorem own_d5_1 : decode jdk_30_method_1_code 1 = .ok (.invokespecial 1, 3) := by decide +kernel
theorem own_d5_4 : decode jdk_30_method_1_code 4 = .ok (.return_, 1) := by decide +kernel
set_option maxHeartbeats 4000000 in
theorem own_ef5 (m : MethodId) (x0 : Addr) : entryFrame m #[(.ref x0)] 1 = mkF m 0 #[.val (.ref x0)] [] := by first | (simp [entryFrame, mkF, argsToLocals, Value.category]; done) | rfl
theorem own_pn1 : plainName "java/lang/Record" = true := by first | (simp [plainName, overriddenIn]; done) | decide +kernel
def own_Q5 (Z : State) (a0 : Array Value) (o0 : Addr) (h0 : Heap) (n0 : Nat) (v : Option Value) (h : Heap) (L : List Loc) : Prop := v = none ∧ Fr n0 L ∧ h = h0
set_option maxRecDepth 65536 in
set_option maxHeartbeats 40000000 in
theorem own_rm5 (l : Launch) (Z : State) (a0 : Array Value) (hw : ∀ d ∈ tables_1, d.before a0 Z = true) (ws : List Jvm.Cond) (o0 : Addr) (h0 : Heap) (n0 : Nat) (Z0 : n0 ≤ h0.size) :
    MetFree l (⟨"java/lang/Record", "<init>", "()V"⟩ : MethodName) (head1 (Jvm.Cond.code (⟨"java/lang/Record", "<init>", "()V"⟩ : MethodName) jdk_30_method_1_code 1 none :: ws) ({ frames := 1, cells := 0, slots := 0, locals := 12 } : Room)) (fun a U => a = #[(.ref o0)] ∧ Z.Warmed39 U.vm ∧ U.heap = h0) (fun _ _ _ _ _ => True) (fun _ U o U' => ∃ v L, o = .returned v ∧ own_Q5 Z a0 o0 h0 n0 v U'.heap L ∧ FrameEnd U o U' L ({ frames := 1, cells := 0, slots := 0, locals := 12 } : Room).cells ({ frames := 1, cells := 0, slots := 0, locals := 12 } : Room).slots) := by
  refine own_body (Q := fun v h L => own_Q5 Z a0 o0 h0 n0 v h L) (plainFor_of_name own_pn1) ?_
  intro p e s m below meth c s₁ hx hby hml hZ hown hnm hret hlk X0 e0
  replace hml : c.maxLocals = 1 := hml
  have N0 := Fr.nil n0
  have K0 : Keep h0 h0 [] := Keep.refl _ _
  refine own_st (fun t k => castTop (own_ef5 m o0) k) ?_
  show own_Run p e below s _ _ _ (s₁.setTop (mkF m 0 #[.val (.ref o0)] []))
  refine own_st (fun t k => XS.aloadN X0.here hx rfl (hb hby own_d5_0) rfl rfl k) ?_
  show own_Run p e below s _ _ _ (s₁.setTop (mkF m 1 #[.val (.ref o0)] [(.ref o0)]))
  obtain ⟨T1, X1, e1, st1⟩ := initO X0 hx hZ hown (hw _ (List.mem_of_getElem? (i := 23) rfl)) (hw _ (List.mem_of_getElem? (i := 24) rfl)) (hw _ (List.mem_of_getElem? (i := 25) rfl)) e0 (g := (mkF m 1 #[.val (.ref o0)] [(.ref o0)])) rfl (by rw [hml]; rfl) rfl (hb hby own_d5_1) (by decide) (W := 0) (by show 2 * 0 + _ ≤ _; exact Nat.le_of_eq rfl) (by decide)
  refine own_st st1 ?_
  show own_Run p e below s _ _ _ (T1.setTop (mkF m 4 #[.val (.ref o0)] []))
  exact own_retV X1 hx hlk hret (hb hby own_d5_4) (by decide) (by decide) ⟨rfl, N0, e1⟩
theorem own_d4_0 : decode prog_55_method_1_code 0 = .ok (.aload_n 0, 1) := by decide +kernel
theorem own_d4_1 : decode prog_55_method_1_code 1 = .ok (.invokespecial 1, 3) := by decide +kernel
theorem own_pd2 : parseMethodDescriptor "()V" = some ⟨[], none⟩ := by decide +kernel
theorem own_d4_4 : decode prog_55_method_1_code 4 = .ok (.aload_n 0, 1) := by decide +kernel
theorem own_d4_5 : decode prog_55_method_1_code 5 = .ok (.dload_n 1, 1) := by decide +kernel
theorem own_d4_6 : decode prog_55_method_1_code 6 = .ok (.putfield 7, 3) := by decide +kernel
theorem own_d4_9 : decode prog_55_method_1_code 9 = .ok (.aload_n 0, 1) := by decide +kernel
theorem own_d4_10 : decode prog_55_method_1_code 10 = .ok (.dload_n 3, 1) := by decide +kernel
theorem own_d4_11 : decode prog_55_method_1_code 11 = .ok (.putfield 13, 3) := by decide +kernel
theorem own_d4_14 : decode prog_55_method_1_code 14 = .ok (.return_, 1) := by decide +kernel
set_option maxHeartbeats 4000000 in
theorem own_ef4 (m : MethodId) (x0 : Addr) (x1 : UInt64) (x2 : UInt64) : entryFrame m #[(.ref x0), (.double x1), (.double x2)] 5 = mkF m 0 #[.val (.ref x0), .val (.double x1), .second, .val (.double x2), .second] [] := by first | (simp [entryFrame, mkF, argsToLocals, Value.category]; done) | rfl
theorem own_pn3 : plainName "com/example/intervallum/intervallum/robust/ValueBounds" = true := by first | (simp [plainName, overriddenIn]; done) | decide +kernel
def own_Q4 (Z : State) (a0 : Array Value) (a0_ : Addr) (d1 : UInt64) (d2 : UInt64) (h0 : Heap) (n0 : Nat) (v : Option Value) (h : Heap) (L : List Loc) : Prop := v = none ∧ Fr n0 L ∧ Keep h0 h [a0_] ∧ Exa Z h a0_ "com/example/intervallum/intervallum/robust/ValueBounds" ∧ Fld Z h a0_ "com/example/intervallum/intervallum/robust/ValueBounds" "lower" "D" (.double d1) ∧ Fld Z h a0_ "com/example/intervallum/intervallum/robust/ValueBounds" "upper" "D" (.double d2)
set_option maxRecDepth 65536 in
set_option maxHeartbeats 40000000 in
theorem own_rm4 (l : Launch) (Z : State) (a0 : Array Value) (hw : ∀ d ∈ tables_1, d.before a0 Z = true) (ws : List Jvm.Cond) (a0_ : Addr) (d1 : UInt64) (d2 : UInt64) (h0 : Heap) (n0 : Nat) (Z0 : n0 ≤ h0.size) (E0 : Exa Z h0 a0_ "com/example/intervallum/intervallum/robust/ValueBounds") (D0 : ∀ {O nm d : String} {ty : FieldType}, Laid Z a0 "com/example/intervallum/intervallum/robust/ValueBounds" O nm d → parseFieldDescriptor d = some ty → Fld Z h0 a0_ O nm d (defaultValue ty)) (G0 : n0 ≤ a0_) :
    MetFree l (⟨"com/example/intervallum/intervallum/robust/ValueBounds", "<init>", "(DD)V"⟩ : MethodName) (head1 (Jvm.Cond.code (⟨"com/example/intervallum/intervallum/robust/ValueBounds", "<init>", "(DD)V"⟩ : MethodName) prog_55_method_1_code 5 none :: ws) ({ frames := 2, cells := 0, slots := 0, locals := 24 } : Room)) (fun a U => a = #[(.ref a0_), (.double d1), (.double d2)] ∧ Z.Warmed39 U.vm ∧ U.heap = h0) (fun _ _ _ _ _ => True) (fun _ U o U' => ∃ v L, o = .returned v ∧ own_Q4 Z a0 a0_ d1 d2 h0 n0 v U'.heap L ∧ FrameEnd U o U' L ({ frames := 2, cells := 0, slots := 0, locals := 24 } : Room).cells ({ frames := 2, cells := 0, slots := 0, locals := 24 } : Room).slots) := by
  refine own_body (Q := fun v h L => own_Q4 Z a0 a0_ d1 d2 h0 n0 v h L) (plainFor_of_name own_pn3) ?_
  intro p e s m below meth c s₁ hx hby hml hZ hown hnm hret hlk X0 e0
  replace hml : c.maxLocals = 5 := hml
  have N0 := Fr.nil n0
  have K0 : Keep h0 h0 [a0_] := Keep.refl _ _
  refine own_st (fun t k => castTop (own_ef4 m a0_ d1 d2) k) ?_
  show own_Run p e below s _ _ _ (s₁.setTop (mkF m 0 #[.val (.ref a0_), .val (.double d1), .second, .val (.double d2), .second] []))
  refine own_st (fun t k => XS.aloadN X0.here hx rfl (hb hby own_d4_0) rfl rfl k) ?_
  show own_Run p e below s _ _ _ (s₁.setTop (mkF m 1 #[.val (.ref a0_), .val (.double d1), .second, .val (.double d2), .second] [(.ref a0_)]))
  refine own_callI X0 hx hZ (y := (⟨"java/lang/Record", "<init>", "()V"⟩ : MethodName)) rfl hown (hw _ (List.mem_of_getElem? (i := 18) rfl)) (hw _ (List.mem_of_getElem? (i := 19) rfl)) (hw _ (List.mem_of_getElem? (i := 22) rfl)) (hw _ (List.mem_of_getElem? (i := 21) rfl)) (by decide) e0 (a := a0_) (argsL := []) (rest := []) (W := 0) (own_rm5 l Z a0 hw [] a0_ h0 n0 (Nat.le_trans Z0 K0.1) ) (by decide) (by decide) (by rw [hml]; rfl) (lenOf own_pd2 rfl) rfl (by exact Nat.le_of_eq rfl) (hb hby own_d4_1) (by decide) (by decide) ?_
  intro T2 v2 L2 X2 hq2
  obtain ⟨rfl, N2q, hh2⟩ := hq2
  have N2 := Fr.app N0 N2q
  show own_Run p e below s _ _ _ (T2.setTop (mkF m 4 #[.val (.ref a0_), .val (.double d1), .second, .val (.double d2), .second] []))
  refine own_st (fun t k => XS.aloadN X2.here hx rfl (hb hby own_d4_4) rfl rfl k) ?_
  show own_Run p e below s _ _ _ (T2.setTop (mkF m 5 #[.val (.ref a0_), .val (.double d1), .second, .val (.double d2), .second] [(.ref a0_)]))
  refine own_st (fun t k => XS.dloadN X2.here hx rfl (hb hby own_d4_5) rfl k) ?_
  show own_Run p e below s _ _ _ (T2.setTop (mkF m 6 #[.val (.ref a0_), .val (.double d1), .second, .val (.double d2), .second] [(.double d1), (.ref a0_)]))
  have F3 : Fld Z _ a0_ "com/example/intervallum/intervallum/robust/ValueBounds" "lower" "D" (.double (0 : UInt64)) := D0 (Or.inr (hw _ (List.mem_of_getElem? (i := 27) rfl))) (ty := .double) (by decide)
  obtain ⟨T4, h4, X4, e4, W4, st4⟩ := putF X2 hx hZ hown (host := "") (Or.inl (hw _ (List.mem_of_getElem? (i := 26) rfl))) Via.refl hh2 F3 E0 (Or.inr ⟨(hw _ (List.mem_of_getElem? (i := 27) rfl)), rfl, hnm⟩) (hw _ (List.mem_of_getElem? (i := 13) rfl)) (ty := .double) (by decide) rfl rfl (g := (mkF m 6 #[.val (.ref a0_), .val (.double d1), .second, .val (.double d2), .second] [(.double d1), (.ref a0_)])) rfl rfl (hb hby own_d4_6)
  refine own_st st4 ?_
  have Fw4 := F3.same W4
  have N4 := Fr.snoc X4 N2 G0
  have K5 : Keep h0 h4 [a0_] := K0.wr W4 (Or.inl (List.mem_of_getElem? (i := 0) rfl))
  show own_Run p e below s _ _ _ (T4.setTop (mkF m 9 #[.val (.ref a0_), .val (.double d1), .second, .val (.double d2), .second] []))
  refine own_st (fun t k => XS.aloadN X4.here hx rfl (hb hby own_d4_9) rfl rfl k) ?_
  show own_Run p e below s _ _ _ (T4.setTop (mkF m 10 #[.val (.ref a0_), .val (.double d1), .second, .val (.double d2), .second] [(.ref a0_)]))
  refine own_st (fun t k => XS.dloadN X4.here hx rfl (hb hby own_d4_10) rfl k) ?_
  show own_Run p e below s _ _ _ (T4.setTop (mkF m 11 #[.val (.ref a0_), .val (.double d1), .second, .val (.double d2), .second] [(.double d2), (.ref a0_)]))
  have E7 := (E0.wr W4)
  have F8 : Fld Z _ a0_ "com/example/intervallum/intervallum/robust/ValueBounds" "upper" "D" (.double (0 : UInt64)) := D0 (Or.inr (hw _ (List.mem_of_getElem? (i := 29) rfl))) (ty := .double) (by decide)
  have F9 := (F8.other W4 (Or.inr (slot_ne (Or.inr (hw _ (List.mem_of_getElem? (i := 29) rfl))) (Or.inr (hw _ (List.mem_of_getElem? (i := 27) rfl))) (by decide) (t := .double) (t' := .double) (by decide) (by decide))))
  obtain ⟨T10, h10, X10, e10, W10, st10⟩ := putF X4 hx hZ hown (host := "") (Or.inl (hw _ (List.mem_of_getElem? (i := 28) rfl))) Via.refl e4 F9 E7 (Or.inr ⟨(hw _ (List.mem_of_getElem? (i := 29) rfl)), rfl, hnm⟩) (hw _ (List.mem_of_getElem? (i := 13) rfl)) (ty := .double) (by decide) rfl rfl (g := (mkF m 11 #[.val (.ref a0_), .val (.double d1), .second, .val (.double d2), .second] [(.double d2), (.ref a0_)])) rfl rfl (hb hby own_d4_11)
  refine own_st st10 ?_
  have Fw10 := F9.same W10
  have N10 := Fr.snoc X10 N4 G0
  have K11 : Keep h0 h10 [a0_] := K5.wr W10 (Or.inl (List.mem_of_getElem? (i := 0) rfl))
  show own_Run p e below s _ _ _ (T10.setTop (mkF m 14 #[.val (.ref a0_), .val (.double d1), .second, .val (.double d2), .second] []))
  have hQe := e10
  subst hQe
  have E13 := (E7.wr W10)
  have F14 := (Fw4.other W10 (Or.inr (slot_ne (Or.inr (hw _ (List.mem_of_getElem? (i := 27) rfl))) (Or.inr (hw _ (List.mem_of_getElem? (i := 29) rfl))) (by decide) (t := .double) (t' := .double) (by decide) (by decide))))
  exact own_retV X10 hx hlk hret (hb hby own_d4_14) (by decide) (by decide) ⟨rfl, N10, K11, E13, F14, Fw10⟩
theorem own_d7_0 : decode prog_55_method_2_code 0 = .ok (.aload_n 0, 1) := by decide +kernel
theorem own_d7_1 : decode prog_55_method_2_code 1 = .ok (.getfield 7, 3) := by decide +kernel
theorem own_d7_4 : decode prog_55_method_2_code 4 = .ok (.aload_n 0, 1) := by decide +kernel
theorem own_d7_5 : decode prog_55_method_2_code 5 = .ok (.getfield 13, 3) := by decide +kernel
theorem own_d7_8 : decode prog_55_method_2_code 8 = .ok (.dcmp .l, 1) := by decide +kernel
theorem own_d7_9 : decode prog_55_method_2_code 9 = .ok (.ifCond .ne 10, 3) := by decide +kernel
theorem own_d7_12 : decode prog_55_method_2_code 12 = .ok (.aload_n 0, 1) := by decide +kernel
theorem own_d7_13 : decode prog_55_method_2_code 13 = .ok (.getfield 7, 3) := by decide +kernel
theorem own_d7_16 : decode prog_55_method_2_code 16 = .ok (.goto 16, 3) := by decide +kernel
theorem own_d7_32 : decode prog_55_method_2_code 32 = .ok (.dreturn, 1) := by decide +kernel
theorem own_d7_19 : decode prog_55_method_2_code 19 = .ok (.aload_n 0, 1) := by decide +kernel
theorem own_d7_20 : decode prog_55_method_2_code 20 = .ok (.getfield 7, 3) := by decide +kernel
theorem own_d7_23 : decode prog_55_method_2_code 23 = .ok (.aload_n 0, 1) := by decide +kernel
theorem own_d7_24 : decode prog_55_method_2_code 24 = .ok (.getfield 13, 3) := by decide +kernel
theorem own_d7_27 : decode prog_55_method_2_code 27 = .ok (.dadd, 1) := by decide +kernel
theorem own_d7_28 : decode prog_55_method_2_code 28 = .ok (.ldc2_w 16, 3) := by decide +kernel
theorem own_d7_31 : decode prog_55_method_2_code 31 = .ok (.ddiv, 1) := by decide +kernel
set_option maxHeartbeats 4000000 in
theorem own_ef7 (m : MethodId) (x0 : Addr) : entryFrame m #[(.ref x0)] 1 = mkF m 0 #[.val (.ref x0)] [] := by first | (simp [entryFrame, mkF, argsToLocals, Value.category]; done) | rfl
def own_Q7 (Z : State) (a0 : Array Value) (o0 : Addr) (lw_ : UInt64) (up_ : UInt64) (h0 : Heap) (n0 : Nat) (v : Option Value) (h : Heap) (L : List Loc) : Prop := v = some (.double (if (cmpValue (FP.dcmp lw_ up_) .l) = (0 : Int32) then lw_ else (FP.ddiv (FP.dadd lw_ up_) (4611686018427387904 : UInt64)))) ∧ Fr n0 L ∧ h = h0
set_option maxRecDepth 65536 in
set_option maxHeartbeats 40000000 in
theorem own_rm7 (l : Launch) (Z : State) (a0 : Array Value) (hw : ∀ d ∈ tables_1, d.before a0 Z = true) (ws : List Jvm.Cond) (o0 : Addr) (lw_ : UInt64) (up_ : UInt64) (h0 : Heap) (n0 : Nat) (Z0 : n0 ≤ h0.size) (F_l : Fld Z h0 o0 "com/example/intervallum/intervallum/robust/ValueBounds" "lower" "D" (.double lw_)) (F_u : Fld Z h0 o0 "com/example/intervallum/intervallum/robust/ValueBounds" "upper" "D" (.double up_)) (pn0 : ¬ ((cmpValue (FP.dcmp lw_ up_) .l) = (0 : Int32)) → Jvm.Free.Fl.NoNaN64 (FP.dadd lw_ up_)) (pn1 : ¬ ((cmpValue (FP.dcmp lw_ up_) .l) = (0 : Int32)) → Jvm.Free.Fl.NoNaN64 (FP.ddiv (FP.dadd lw_ up_) (4611686018427387904 : UInt64))) :
    MetFree l (⟨"com/example/intervallum/intervallum/robust/ValueBounds", "midpoint", "()D"⟩ : MethodName) (head1 (Jvm.Cond.code (⟨"com/example/intervallum/intervallum/robust/ValueBounds", "midpoint", "()D"⟩ : MethodName) prog_55_method_2_code 1 (some .double) :: ws) ({ frames := 0, cells := 0, slots := 0, locals := 0 } : Room)) (fun a U => a = #[(.ref o0)] ∧ Z.Warmed39 U.vm ∧ U.heap = h0) (fun _ _ _ _ _ => True) (fun _ U o U' => ∃ v L, o = .returned v ∧ own_Q7 Z a0 o0 lw_ up_ h0 n0 v U'.heap L ∧ FrameEnd U o U' L ({ frames := 0, cells := 0, slots := 0, locals := 0 } : Room).cells ({ frames := 0, cells := 0, slots := 0, locals := 0 } : Room).slots) := by
  refine own_body (Q := fun v h L => own_Q7 Z a0 o0 lw_ up_ h0 n0 v h L) (plainFor_of_name own_pn3) ?_
  intro p e s m below meth c s₁ hx hby hml hZ hown hnm hret hlk X0 e0
  replace hml : c.maxLocals = 1 := hml
  have N0 := Fr.nil n0
  have K0 : Keep h0 h0 [] := Keep.refl _ _
  refine own_st (fun t k => castTop (own_ef7 m o0) k) ?_
  show own_Run p e below s _ _ _ (s₁.setTop (mkF m 0 #[.val (.ref o0)] []))
  refine own_st (fun t k => XS.aloadN X0.here hx rfl (hb hby own_d7_0) rfl rfl k) ?_
  show own_Run p e below s _ _ _ (s₁.setTop (mkF m 1 #[.val (.ref o0)] [(.ref o0)]))
  obtain ⟨T15, X15, e15, st15⟩ := getF X0 hx hZ hown (host := "") (Or.inl (hw _ (List.mem_of_getElem? (i := 26) rfl))) Via.refl e0 F_l (g := (mkF m 1 #[.val (.ref o0)] [(.ref o0)])) rfl rfl (hb hby own_d7_1)
  refine own_st st15 ?_
  show own_Run p e below s _ _ _ (T15.setTop (mkF m 4 #[.val (.ref o0)] [(.double lw_)]))
  refine own_st (fun t k => XS.aloadN X15.here hx rfl (hb hby own_d7_4) rfl rfl k) ?_
  show own_Run p e below s _ _ _ (T15.setTop (mkF m 5 #[.val (.ref o0)] [(.ref o0), (.double lw_)]))
  obtain ⟨T16, X16, e16, st16⟩ := getF X15 hx hZ hown (host := "") (Or.inl (hw _ (List.mem_of_getElem? (i := 28) rfl))) Via.refl e15 F_u (g := (mkF m 5 #[.val (.ref o0)] [(.ref o0), (.double lw_)])) rfl rfl (hb hby own_d7_5)
  refine own_st st16 ?_
  show own_Run p e below s _ _ _ (T16.setTop (mkF m 8 #[.val (.ref o0)] [(.double up_), (.double lw_)]))
  refine own_st (fun t k => XS.dcmpS X16.here hx rfl (hb hby own_d7_8) rfl (v := (cmpValue (FP.dcmp lw_ up_) .l)) (rfl) k) ?_
  show own_Run p e below s _ _ _ (T16.setTop (mkF m 9 #[.val (.ref o0)] [(.int (cmpValue (FP.dcmp lw_ up_) .l))]))
  by_cases hA : (cmpValue (FP.dcmp lw_ up_) .l) = (0 : Int32)
  · skip
    refine own_st (fun t k => XS.ifNo X16.here hx rfl (hb hby own_d7_9) rfl ((if0 _ _).trans (teq (hA : (cmpValue (FP.dcmp lw_ up_) .l) = (0 : Int32))).2) k) ?_
    show own_Run p e below s _ _ _ (T16.setTop (mkF m 12 #[.val (.ref o0)] []))
    refine own_st (fun t k => XS.aloadN X16.here hx rfl (hb hby own_d7_12) rfl rfl k) ?_
    show own_Run p e below s _ _ _ (T16.setTop (mkF m 13 #[.val (.ref o0)] [(.ref o0)]))
    obtain ⟨T17, X17, e17, st17⟩ := getF X16 hx hZ hown (host := "") (Or.inl (hw _ (List.mem_of_getElem? (i := 26) rfl))) Via.refl e16 F_l (g := (mkF m 13 #[.val (.ref o0)] [(.ref o0)])) rfl rfl (hb hby own_d7_13)
    refine own_st st17 ?_
    show own_Run p e below s _ _ _ (T17.setTop (mkF m 16 #[.val (.ref o0)] [(.double lw_)]))
    refine own_st (fun t k => XS.goto X17.here hx rfl (pc0 := 16) (pc' := 32) rfl (hb hby own_d7_16) (by decide) (by decide) k) ?_
    show own_Run p e below s _ _ _ (T17.setTop (mkF m 32 #[.val (.ref o0)] [(.double lw_)]))
    exact own_ret X17 hx hlk (t := .double) hret rfl (Or.inr (Or.inr (Or.inl ⟨rfl, rfl, _, rfl⟩))) (hb hby own_d7_32) (by decide) (by decide) ⟨by simp [hA], N0, e17⟩
  · skip
    refine own_st (fun t k => XS.ifYes X16.here hx rfl (pc0 := 9) (pc' := 19) rfl (hb hby own_d7_9) rfl ((if0 _ _).trans (feq (hA : ¬ ((cmpValue (FP.dcmp lw_ up_) .l) = (0 : Int32)))).2) (by decide) (by decide) k) ?_
    show own_Run p e below s _ _ _ (T16.setTop (mkF m 19 #[.val (.ref o0)] []))
    refine own_st (fun t k => XS.aloadN X16.here hx rfl (hb hby own_d7_19) rfl rfl k) ?_
    show own_Run p e below s _ _ _ (T16.setTop (mkF m 20 #[.val (.ref o0)] [(.ref o0)]))
    obtain ⟨T18, X18, e18, st18⟩ := getF X16 hx hZ hown (host := "") (Or.inl (hw _ (List.mem_of_getElem? (i := 26) rfl))) Via.refl e16 F_l (g := (mkF m 20 #[.val (.ref o0)] [(.ref o0)])) rfl rfl (hb hby own_d7_20)
    refine own_st st18 ?_
    show own_Run p e below s _ _ _ (T18.setTop (mkF m 23 #[.val (.ref o0)] [(.double lw_)]))
    refine own_st (fun t k => XS.aloadN X18.here hx rfl (hb hby own_d7_23) rfl rfl k) ?_
    show own_Run p e below s _ _ _ (T18.setTop (mkF m 24 #[.val (.ref o0)] [(.ref o0), (.double lw_)]))
    obtain ⟨T19, X19, e19, st19⟩ := getF X18 hx hZ hown (host := "") (Or.inl (hw _ (List.mem_of_getElem? (i := 28) rfl))) Via.refl e18 F_u (g := (mkF m 24 #[.val (.ref o0)] [(.ref o0), (.double lw_)])) rfl rfl (hb hby own_d7_24)
    refine own_st st19 ?_
    show own_Run p e below s _ _ _ (T19.setTop (mkF m 27 #[.val (.ref o0)] [(.double up_), (.double lw_)]))
    refine own_st (fun t k => XS.daddS X19.here hx rfl (hb hby own_d7_27) rfl (pn0 hA) (v := (FP.dadd lw_ up_)) (rfl) k) ?_
    show own_Run p e below s _ _ _ (T19.setTop (mkF m 28 #[.val (.ref o0)] [(.double (FP.dadd lw_ up_))]))
    refine own_st (X19.ldc2DoubleC hx hown (mvT hZ (hw _ (List.mem_of_getElem? (i := 35) rfl))) (g := (mkF m 28 #[.val (.ref o0)] [(.double (FP.dadd lw_ up_))])) rfl (hb hby own_d7_28)) ?_
    show own_Run p e below s _ _ _ (T19.setTop (mkF m 31 #[.val (.ref o0)] [(.double (4611686018427387904 : UInt64)), (.double (FP.dadd lw_ up_))]))
    refine own_st (fun t k => XS.ddivS X19.here hx rfl (hb hby own_d7_31) rfl (pn1 hA) (v := (FP.ddiv (FP.dadd lw_ up_) (4611686018427387904 : UInt64))) (rfl) k) ?_
    show own_Run p e below s _ _ _ (T19.setTop (mkF m 32 #[.val (.ref o0)] [(.double (FP.ddiv (FP.dadd lw_ up_) (4611686018427387904 : UInt64)))]))
    exact own_ret X19 hx hlk (t := .double) hret rfl (Or.inr (Or.inr (Or.inl ⟨rfl, rfl, _, rfl⟩))) (hb hby own_d7_32) (by decide) (by decide) ⟨by simp [hA], N0, e19⟩
theorem own_pd4 : parseMethodDescriptor "(II)I" = some ⟨[.int, .int], some .int⟩ := by decide +kernel
theorem own_pd5 : parseMethodDescriptor "(IZ)D" = some ⟨[.int, .boolean], some .double⟩ := by decide +kernel
theorem own_pd6 : parseMethodDescriptor "(DD)V" = some ⟨[.double, .double], none⟩ := by decide +kernel
theorem own_pd7 : parseMethodDescriptor "()D" = some ⟨[], some .double⟩ := by decide +kernel
set_option maxHeartbeats 4000000 in
theorem own_ef0 (m : MethodId) (x0 : Int32) (x1 : Int32) (x2 : Int32) : entryFrame m #[(.int x0), (.int x1), (.int x2)] maxLocals = mkF m 0 #[.val (.int x0), .val (.int x1), .val (.int x2), .unset, .unset, .unset, .unset, .unset, .unset, .unset, .unset, .unset, .unset, .unset, .unset, .unset, .unset] [] := by first | (simp [entryFrame, mkF, argsToLocals, Value.category, maxLocals]; done) | rfl
def own_Q0 (Z : State) (a0 : Array Value) (i0 : Int32) (i1 : Int32) (i2 : Int32) (h0 : Heap) (n0 : Nat) (v : Option Value) (h : Heap) (L : List Loc) : Prop := v = some (.int 1) ∧ Fr n0 L
set_option maxRecDepth 65536 in
set_option maxHeartbeats 40000000 in
theorem own_rm0 (l : Launch) (Z : State) (a0 : Array Value) (hw : ∀ d ∈ tables_1, d.before a0 Z = true) (ws : List Jvm.Cond) (i0 : Int32) (i1 : Int32) (i2 : Int32) (h0 : Heap) (n0 : Nat) (Z0 : n0 ≤ h0.size) (O0 : Old Z n0 h0) :
    MetFree l x (head1 (Jvm.Cond.code x code maxLocals ret :: ws) room_1) (fun a U => a = #[(.int i0), (.int i1), (.int i2)] ∧ Z.Warmed39 U.vm ∧ U.heap = h0) (fun _ _ _ _ _ => True) (fun _ U o U' => ∃ v L, o = .returned v ∧ own_Q0 Z a0 i0 i1 i2 h0 n0 v U'.heap L ∧ FrameEnd U o U' L room_1.cells room_1.slots) := by
  refine own_body (Q := fun v h L => own_Q0 Z a0 i0 i1 i2 h0 n0 v h L) (plainFor_of_name own_pn0) ?_
  intro p e s m below meth c s₁ hx hby hml hZ hown hnm hret hlk X0 e0
  replace hml : c.maxLocals = 17 := hml
  replace hown : s.vm.findClass "com/example/intervallum/intervallum/robust/ValueBoundsMidpointPinLaw" = some m.cls := hown
  have N0 := Fr.nil n0
  have K0 : Keep h0 h0 [] := Keep.refl _ _
  refine own_st (fun t k => castTop (own_ef0 m i0 i1 i2) k) ?_
  show own_Run p e below s _ _ _ (s₁.setTop (mkF m 0 #[.val (.int i0), .val (.int i1), .val (.int i2), .unset, .unset, .unset, .unset, .unset, .unset, .unset, .unset, .unset, .unset, .unset, .unset, .unset, .unset] []))
  refine own_st (fun t k => XS.iloadN X0.here hx rfl (hb hby at_0) rfl k) ?_
  show own_Run p e below s _ _ _ (s₁.setTop (mkF m 1 #[.val (.int i0), .val (.int i1), .val (.int i2), .unset, .unset, .unset, .unset, .unset, .unset, .unset, .unset, .unset, .unset, .unset, .unset, .unset, .unset] [(.int i0)]))
  refine own_st (fun t k => XS.bipush X0.here hx rfl (hb hby at_1) k) ?_
  show own_Run p e below s _ _ _ (s₁.setTop (mkF m 3 #[.val (.int i0), .val (.int i1), .val (.int i2), .unset, .unset, .unset, .unset, .unset, .unset, .unset, .unset, .unset, .unset, .unset, .unset, .unset, .unset] [(.int (12 : Int32)), (.int i0)]))
  refine own_st (fun t k => XS.ishl X0.here hx rfl (hb hby at_3) rfl k) ?_
  show own_Run p e below s _ _ _ (s₁.setTop (mkF m 4 #[.val (.int i0), .val (.int i1), .val (.int i2), .unset, .unset, .unset, .unset, .unset, .unset, .unset, .unset, .unset, .unset, .unset, .unset, .unset, .unset] [(.int (i0 <<< ((12 : Int32) &&& 31)))]))
  refine own_st (fun t k => XS.bipush X0.here hx rfl (hb hby at_4) k) ?_
  show own_Run p e below s _ _ _ (s₁.setTop (mkF m 6 #[.val (.int i0), .val (.int i1), .val (.int i2), .unset, .unset, .unset, .unset, .unset, .unset, .unset, .unset, .unset, .unset, .unset, .unset, .unset, .unset] [(.int (12 : Int32)), (.int (i0 <<< ((12 : Int32) &&& 31)))]))
  refine own_st (fun t k => XS.ishr X0.here hx rfl (hb hby at_6) rfl k) ?_
  show own_Run p e below s _ _ _ (s₁.setTop (mkF m 7 #[.val (.int i0), .val (.int i1), .val (.int i2), .unset, .unset, .unset, .unset, .unset, .unset, .unset, .unset, .unset, .unset, .unset, .unset, .unset, .unset] [(.int ((i0 <<< ((12 : Int32) &&& 31)) >>> ((12 : Int32) &&& 31)))]))
  obtain ⟨a0_, h_a0_⟩ : ∃ z, (((i0 <<< ((12 : Int32) &&& 31)) >>> ((12 : Int32) &&& 31)) : Int32) = z := ⟨_, rfl⟩
  refine own_topI h_a0_ ?_
  show own_Run p e below s _ _ _ (s₁.setTop (mkF m 7 #[.val (.int i0), .val (.int i1), .val (.int i2), .unset, .unset, .unset, .unset, .unset, .unset, .unset, .unset, .unset, .unset, .unset, .unset, .unset, .unset] [(.int a0_)]))
  have r_a0 : a0_.toInt.natAbs ≤ 524288 := h_a0_ ▸ own_s12 _
  refine own_st (fun t k => XS.istoreN X0.here hx rfl (hb hby at_7) rfl (l' := #[.val (.int i0), .val (.int i1), .val (.int i2), .val (.int a0_), .unset, .unset, .unset, .unset, .unset, .unset, .unset, .unset, .unset, .unset, .unset, .unset, .unset]) rfl k) ?_
  show own_Run p e below s _ _ _ (s₁.setTop (mkF m 8 #[.val (.int i0), .val (.int i1), .val (.int i2), .val (.int a0_), .unset, .unset, .unset, .unset, .unset, .unset, .unset, .unset, .unset, .unset, .unset, .unset, .unset] []))
  refine own_st (fun t k => XS.iloadN X0.here hx rfl (hb hby at_8) rfl k) ?_
  show own_Run p e below s _ _ _ (s₁.setTop (mkF m 9 #[.val (.int i0), .val (.int i1), .val (.int i2), .val (.int a0_), .unset, .unset, .unset, .unset, .unset, .unset, .unset, .unset, .unset, .unset, .unset, .unset, .unset] [(.int i1)]))
  refine own_st (fun t k => XS.bipush X0.here hx rfl (hb hby at_9) k) ?_
  show own_Run p e below s _ _ _ (s₁.setTop (mkF m 11 #[.val (.int i0), .val (.int i1), .val (.int i2), .val (.int a0_), .unset, .unset, .unset, .unset, .unset, .unset, .unset, .unset, .unset, .unset, .unset, .unset, .unset] [(.int (12 : Int32)), (.int i1)]))
  refine own_st (fun t k => XS.ishl X0.here hx rfl (hb hby at_11) rfl k) ?_
  show own_Run p e below s _ _ _ (s₁.setTop (mkF m 12 #[.val (.int i0), .val (.int i1), .val (.int i2), .val (.int a0_), .unset, .unset, .unset, .unset, .unset, .unset, .unset, .unset, .unset, .unset, .unset, .unset, .unset] [(.int (i1 <<< ((12 : Int32) &&& 31)))]))
  refine own_st (fun t k => XS.bipush X0.here hx rfl (hb hby at_12) k) ?_
  show own_Run p e below s _ _ _ (s₁.setTop (mkF m 14 #[.val (.int i0), .val (.int i1), .val (.int i2), .val (.int a0_), .unset, .unset, .unset, .unset, .unset, .unset, .unset, .unset, .unset, .unset, .unset, .unset, .unset] [(.int (12 : Int32)), (.int (i1 <<< ((12 : Int32) &&& 31)))]))
  refine own_st (fun t k => XS.ishr X0.here hx rfl (hb hby at_14) rfl k) ?_
  show own_Run p e below s _ _ _ (s₁.setTop (mkF m 15 #[.val (.int i0), .val (.int i1), .val (.int i2), .val (.int a0_), .unset, .unset, .unset, .unset, .unset, .unset, .unset, .unset, .unset, .unset, .unset, .unset, .unset] [(.int ((i1 <<< ((12 : Int32) &&& 31)) >>> ((12 : Int32) &&& 31)))]))
  obtain ⟨b0_, h_b0_⟩ : ∃ z, (((i1 <<< ((12 : Int32) &&& 31)) >>> ((12 : Int32) &&& 31)) : Int32) = z := ⟨_, rfl⟩
  refine own_topI h_b0_ ?_
  show own_Run p e below s _ _ _ (s₁.setTop (mkF m 15 #[.val (.int i0), .val (.int i1), .val (.int i2), .val (.int a0_), .unset, .unset, .unset, .unset, .unset, .unset, .unset, .unset, .unset, .unset, .unset, .unset, .unset] [(.int b0_)]))
  have r_b0 : b0_.toInt.natAbs ≤ 524288 := h_b0_ ▸ own_s12 _
  refine own_st (fun t k => XS.istore X0.here hx rfl (hb hby at_15) rfl (l' := #[.val (.int i0), .val (.int i1), .val (.int i2), .val (.int a0_), .val (.int b0_), .unset, .unset, .unset, .unset, .unset, .unset, .unset, .unset, .unset, .unset, .unset, .unset]) rfl k) ?_
  show own_Run p e below s _ _ _ (s₁.setTop (mkF m 17 #[.val (.int i0), .val (.int i1), .val (.int i2), .val (.int a0_), .val (.int b0_), .unset, .unset, .unset, .unset, .unset, .unset, .unset, .unset, .unset, .unset, .unset, .unset] []))
  refine own_st (fun t k => XS.iloadN X0.here hx rfl (hb hby at_17) rfl k) ?_
  show own_Run p e below s _ _ _ (s₁.setTop (mkF m 18 #[.val (.int i0), .val (.int i1), .val (.int i2), .val (.int a0_), .val (.int b0_), .unset, .unset, .unset, .unset, .unset, .unset, .unset, .unset, .unset, .unset, .unset, .unset] [(.int a0_)]))
  refine own_st (fun t k => XS.iload X0.here hx rfl (hb hby at_18) rfl k) ?_
  show own_Run p e below s _ _ _ (s₁.setTop (mkF m 20 #[.val (.int i0), .val (.int i1), .val (.int i2), .val (.int a0_), .val (.int b0_), .unset, .unset, .unset, .unset, .unset, .unset, .unset, .unset, .unset, .unset, .unset, .unset] [(.int b0_), (.int a0_)]))
  refine own_callS X0 hx hZ (y := (⟨"java/lang/Math", "min", "(II)I"⟩ : MethodName)) hown (hw _ (List.mem_of_getElem? (i := 0) rfl)) (hw _ (List.mem_of_getElem? (i := 1) rfl)) (hw _ (List.mem_of_getElem? (i := 3) rfl)) (hw _ (List.mem_of_getElem? (i := 2) rfl)) (by decide) e0 (argsL := [(.int a0_), (.int b0_)]) (rest := []) (W := 0) (own_rm1 l Z a0 hw [] a0_ b0_ h0 n0 (Nat.le_trans Z0 K0.1) ) (by decide) (by decide) (by rw [hml]; rfl) (lenOf own_pd4 rfl) rfl (by exact Nat.le_of_eq rfl) (hb hby at_20) (by decide) (by decide) ?_
  intro T20 v20 L20 X20 hq20
  obtain ⟨rfl, N20q, hh20⟩ := hq20
  have N20 := Fr.app N0 N20q
  show own_Run p e below s _ _ _ (T20.setTop (mkF m 23 #[.val (.int i0), .val (.int i1), .val (.int i2), .val (.int a0_), .val (.int b0_), .unset, .unset, .unset, .unset, .unset, .unset, .unset, .unset, .unset, .unset, .unset, .unset] [(.int (if b0_ < a0_ then b0_ else a0_))]))
  obtain ⟨a, h_a⟩ : ∃ z, ((if b0_ < a0_ then b0_ else a0_) : Int32) = z := ⟨_, rfl⟩
  refine own_topI h_a ?_
  show own_Run p e below s _ _ _ (T20.setTop (mkF m 23 #[.val (.int i0), .val (.int i1), .val (.int i2), .val (.int a0_), .val (.int b0_), .unset, .unset, .unset, .unset, .unset, .unset, .unset, .unset, .unset, .unset, .unset, .unset] [(.int a)]))
  have r_a : a.toInt.natAbs ≤ 524288 := h_a ▸ own_ite r_b0 r_a0
  refine own_st (fun t k => XS.istore X20.here hx rfl (hb hby at_23) rfl (l' := #[.val (.int i0), .val (.int i1), .val (.int i2), .val (.int a0_), .val (.int b0_), .val (.int a), .unset, .unset, .unset, .unset, .unset, .unset, .unset, .unset, .unset, .unset, .unset]) rfl k) ?_
  show own_Run p e below s _ _ _ (T20.setTop (mkF m 25 #[.val (.int i0), .val (.int i1), .val (.int i2), .val (.int a0_), .val (.int b0_), .val (.int a), .unset, .unset, .unset, .unset, .unset, .unset, .unset, .unset, .unset, .unset, .unset] []))
  refine own_st (fun t k => XS.iloadN X20.here hx rfl (hb hby at_25) rfl k) ?_
  show own_Run p e below s _ _ _ (T20.setTop (mkF m 26 #[.val (.int i0), .val (.int i1), .val (.int i2), .val (.int a0_), .val (.int b0_), .val (.int a), .unset, .unset, .unset, .unset, .unset, .unset, .unset, .unset, .unset, .unset, .unset] [(.int a0_)]))
  refine own_st (fun t k => XS.iload X20.here hx rfl (hb hby at_26) rfl k) ?_
  show own_Run p e below s _ _ _ (T20.setTop (mkF m 28 #[.val (.int i0), .val (.int i1), .val (.int i2), .val (.int a0_), .val (.int b0_), .val (.int a), .unset, .unset, .unset, .unset, .unset, .unset, .unset, .unset, .unset, .unset, .unset] [(.int b0_), (.int a0_)]))
  refine own_callS X20 hx hZ (y := (⟨"java/lang/Math", "max", "(II)I"⟩ : MethodName)) hown (hw _ (List.mem_of_getElem? (i := 4) rfl)) (hw _ (List.mem_of_getElem? (i := 5) rfl)) (hw _ (List.mem_of_getElem? (i := 6) rfl)) (hw _ (List.mem_of_getElem? (i := 2) rfl)) (by decide) hh20 (argsL := [(.int a0_), (.int b0_)]) (rest := []) (W := 0) (own_rm2 l Z a0 hw [] a0_ b0_ h0 n0 (Nat.le_trans Z0 K0.1) ) (by decide) (by decide) (by rw [hml]; rfl) (lenOf own_pd4 rfl) rfl (by exact Nat.le_of_eq rfl) (hb hby at_28) (by decide) (by decide) ?_
  intro T21 v21 L21 X21 hq21
  obtain ⟨rfl, N21q, hh21⟩ := hq21
  have N21 := Fr.app N20 N21q
  show own_Run p e below s _ _ _ (T21.setTop (mkF m 31 #[.val (.int i0), .val (.int i1), .val (.int i2), .val (.int a0_), .val (.int b0_), .val (.int a), .unset, .unset, .unset, .unset, .unset, .unset, .unset, .unset, .unset, .unset, .unset] [(.int (if a0_ < b0_ then b0_ else a0_))]))
  obtain ⟨b, h_b⟩ : ∃ z, ((if a0_ < b0_ then b0_ else a0_) : Int32) = z := ⟨_, rfl⟩
  refine own_topI h_b ?_
  show own_Run p e below s _ _ _ (T21.setTop (mkF m 31 #[.val (.int i0), .val (.int i1), .val (.int i2), .val (.int a0_), .val (.int b0_), .val (.int a), .unset, .unset, .unset, .unset, .unset, .unset, .unset, .unset, .unset, .unset, .unset] [(.int b)]))
  have r_b : b.toInt.natAbs ≤ 524288 := h_b ▸ own_ite r_b0 r_a0
  refine own_st (fun t k => XS.istore X21.here hx rfl (hb hby at_31) rfl (l' := #[.val (.int i0), .val (.int i1), .val (.int i2), .val (.int a0_), .val (.int b0_), .val (.int a), .val (.int b), .unset, .unset, .unset, .unset, .unset, .unset, .unset, .unset, .unset, .unset]) rfl k) ?_
  show own_Run p e below s _ _ _ (T21.setTop (mkF m 33 #[.val (.int i0), .val (.int i1), .val (.int i2), .val (.int a0_), .val (.int b0_), .val (.int a), .val (.int b), .unset, .unset, .unset, .unset, .unset, .unset, .unset, .unset, .unset, .unset] []))
  refine own_st (fun t k => XS.iloadN X21.here hx rfl (hb hby at_33) rfl k) ?_
  show own_Run p e below s _ _ _ (T21.setTop (mkF m 34 #[.val (.int i0), .val (.int i1), .val (.int i2), .val (.int a0_), .val (.int b0_), .val (.int a), .val (.int b), .unset, .unset, .unset, .unset, .unset, .unset, .unset, .unset, .unset, .unset] [(.int i2)]))
  refine own_st (fun t k => XS.iconst X21.here hx rfl (hb hby at_34) k) ?_
  show own_Run p e below s _ _ _ (T21.setTop (mkF m 35 #[.val (.int i0), .val (.int i1), .val (.int i2), .val (.int a0_), .val (.int b0_), .val (.int a), .val (.int b), .unset, .unset, .unset, .unset, .unset, .unset, .unset, .unset, .unset, .unset] [(.int (4 : Int32)), (.int i2)]))
  refine own_st (fun t k => XS.iand X21.here hx rfl (hb hby at_35) rfl k) ?_
  show own_Run p e below s _ _ _ (T21.setTop (mkF m 36 #[.val (.int i0), .val (.int i1), .val (.int i2), .val (.int a0_), .val (.int b0_), .val (.int a), .val (.int b), .unset, .unset, .unset, .unset, .unset, .unset, .unset, .unset, .unset, .unset] [(.int (i2 &&& (4 : Int32)))]))
  by_cases hc22 : (i2 &&& (4 : Int32)) = (0 : Int32)
  · skip
    refine own_st (fun t k => XS.ifYes X21.here hx rfl (pc0 := 36) (pc' := 43) rfl (hb hby at_36) rfl ((if0 _ _).trans (teq (hc22 : (i2 &&& (4 : Int32)) = (0 : Int32))).1) (by decide) (by decide) k) ?_
    show own_Run p e below s _ _ _ (T21.setTop (mkF m 43 #[.val (.int i0), .val (.int i1), .val (.int i2), .val (.int a0_), .val (.int b0_), .val (.int a), .val (.int b), .unset, .unset, .unset, .unset, .unset, .unset, .unset, .unset, .unset, .unset] []))
    refine own_st (fun t k => XS.iconst X21.here hx rfl (hb hby at_43) k) ?_
    show own_Run p e below s _ _ _ (T21.setTop (mkF m 44 #[.val (.int i0), .val (.int i1), .val (.int i2), .val (.int a0_), .val (.int b0_), .val (.int a), .val (.int b), .unset, .unset, .unset, .unset, .unset, .unset, .unset, .unset, .unset, .unset] [(.int (0 : Int32))]))
    refine own_st (fun t k => XS.istore X21.here hx rfl (hb hby at_44) rfl (l' := #[.val (.int i0), .val (.int i1), .val (.int i2), .val (.int a0_), .val (.int b0_), .val (.int a), .val (.int b), .val (.int (0 : Int32)), .unset, .unset, .unset, .unset, .unset, .unset, .unset, .unset, .unset]) rfl k) ?_
    show own_Run p e below s _ _ _ (T21.setTop (mkF m 46 #[.val (.int i0), .val (.int i1), .val (.int i2), .val (.int a0_), .val (.int b0_), .val (.int a), .val (.int b), .val (.int (0 : Int32)), .unset, .unset, .unset, .unset, .unset, .unset, .unset, .unset, .unset] []))
    refine own_st (fun t k => XS.iloadN X21.here hx rfl (hb hby at_46) rfl k) ?_
    show own_Run p e below s _ _ _ (T21.setTop (mkF m 47 #[.val (.int i0), .val (.int i1), .val (.int i2), .val (.int a0_), .val (.int b0_), .val (.int a), .val (.int b), .val (.int (0 : Int32)), .unset, .unset, .unset, .unset, .unset, .unset, .unset, .unset, .unset] [(.int i2)]))
    refine own_st (fun t k => XS.iconst X21.here hx rfl (hb hby at_47) k) ?_
    show own_Run p e below s _ _ _ (T21.setTop (mkF m 48 #[.val (.int i0), .val (.int i1), .val (.int i2), .val (.int a0_), .val (.int b0_), .val (.int a), .val (.int b), .val (.int (0 : Int32)), .unset, .unset, .unset, .unset, .unset, .unset, .unset, .unset, .unset] [(.int (3 : Int32)), (.int i2)]))
    refine own_st (fun t k => XS.iand X21.here hx rfl (hb hby at_48) rfl k) ?_
    show own_Run p e below s _ _ _ (T21.setTop (mkF m 49 #[.val (.int i0), .val (.int i1), .val (.int i2), .val (.int a0_), .val (.int b0_), .val (.int a), .val (.int b), .val (.int (0 : Int32)), .unset, .unset, .unset, .unset, .unset, .unset, .unset, .unset, .unset] [(.int (i2 &&& (3 : Int32)))]))
    refine own_st (fun t k => XS.iload X21.here hx rfl (hb hby at_49) rfl k) ?_
    show own_Run p e below s _ _ _ (T21.setTop (mkF m 51 #[.val (.int i0), .val (.int i1), .val (.int i2), .val (.int a0_), .val (.int b0_), .val (.int a), .val (.int b), .val (.int (0 : Int32)), .unset, .unset, .unset, .unset, .unset, .unset, .unset, .unset, .unset] [(.int (0 : Int32)), (.int (i2 &&& (3 : Int32)))]))
    refine own_callS X21 hx hZ (y := (⟨"com/example/intervallum/intervallum/robust/ValueBoundsMidpointPinLaw", "pick", "(IZ)D"⟩ : MethodName)) hown (hw _ (List.mem_of_getElem? (i := 7) rfl)) (hw _ (List.mem_of_getElem? (i := 8) rfl)) (hw _ (List.mem_of_getElem? (i := 10) rfl)) (hw _ (List.mem_of_getElem? (i := 9) rfl)) (by decide) hh21 (argsL := [(.int (i2 &&& (3 : Int32))), (.int (0 : Int32))]) (rest := []) (W := 0) (own_rm3N l Z a0 hw [] (i2 &&& (3 : Int32)) h0 n0 (Nat.le_trans Z0 K0.1) ) (by decide) (by decide) (by rw [hml]; rfl) (lenOf own_pd5 rfl) rfl (by exact Nat.le_of_eq rfl) (hb hby at_51) (by decide) (by decide) ?_
    intro T23 v23 L23 X23 hq23
    obtain ⟨rfl, N23q, hh23⟩ := hq23
    have N23 := Fr.app N21 N23q
    show own_Run p e below s _ _ _ (T23.setTop (mkF m 54 #[.val (.int i0), .val (.int i1), .val (.int i2), .val (.int a0_), .val (.int b0_), .val (.int a), .val (.int b), .val (.int (0 : Int32)), .unset, .unset, .unset, .unset, .unset, .unset, .unset, .unset, .unset] [(.double (if (i2 &&& (3 : Int32)) = (0 : Int32) then (4607182418800017408 : UInt64) else if (i2 &&& (3 : Int32)) = (1 : Int32) then (4472074429978902528 : UInt64) else if (i2 &&& (3 : Int32)) = (2 : Int32) then (8660422083433463808 : UInt64) else (103582791429521408 : UInt64)))]))
    obtain ⟨sc, h_sc⟩ : ∃ z, ((if (i2 &&& (3 : Int32)) = (0 : Int32) then (4607182418800017408 : UInt64) else if (i2 &&& (3 : Int32)) = (1 : Int32) then (4472074429978902528 : UInt64) else if (i2 &&& (3 : Int32)) = (2 : Int32) then (8660422083433463808 : UInt64) else (103582791429521408 : UInt64)) : UInt64) = z := ⟨_, rfl⟩
    refine own_topD h_sc ?_
    show own_Run p e below s _ _ _ (T23.setTop (mkF m 54 #[.val (.int i0), .val (.int i1), .val (.int i2), .val (.int a0_), .val (.int b0_), .val (.int a), .val (.int b), .val (.int (0 : Int32)), .unset, .unset, .unset, .unset, .unset, .unset, .unset, .unset, .unset] [(.double sc)]))
    obtain ⟨K, z_sc, k_sc⟩ := own_pkN h_sc
    obtain ⟨q1, q2, q3, q4, q5⟩ := own_mids z_sc k_sc r_a r_b
    refine own_st (fun t k => XS.dstore X23.here hx rfl (hb hby at_54) rfl (l' := #[.val (.int i0), .val (.int i1), .val (.int i2), .val (.int a0_), .val (.int b0_), .val (.int a), .val (.int b), .val (.int (0 : Int32)), .val (.double sc), .second, .unset, .unset, .unset, .unset, .unset, .unset, .unset]) rfl k) ?_
    show own_Run p e below s _ _ _ (T23.setTop (mkF m 56 #[.val (.int i0), .val (.int i1), .val (.int i2), .val (.int a0_), .val (.int b0_), .val (.int a), .val (.int b), .val (.int (0 : Int32)), .val (.double sc), .second, .unset, .unset, .unset, .unset, .unset, .unset, .unset] []))
    refine own_st (fun t k => XS.iload X23.here hx rfl (hb hby at_56) rfl k) ?_
    show own_Run p e below s _ _ _ (T23.setTop (mkF m 58 #[.val (.int i0), .val (.int i1), .val (.int i2), .val (.int a0_), .val (.int b0_), .val (.int a), .val (.int b), .val (.int (0 : Int32)), .val (.double sc), .second, .unset, .unset, .unset, .unset, .unset, .unset, .unset] [(.int (0 : Int32))]))
    refine own_st (fun t k => XS.ifYes X23.here hx rfl (pc0 := 58) (pc' := 98) rfl (hb hby at_58) rfl ((if0 _ _).trans (teq (by decide : (0 : Int32) = (0 : Int32))).1) (by decide) (by decide) k) ?_
    show own_Run p e below s _ _ _ (T23.setTop (mkF m 98 #[.val (.int i0), .val (.int i1), .val (.int i2), .val (.int a0_), .val (.int b0_), .val (.int a), .val (.int b), .val (.int (0 : Int32)), .val (.double sc), .second, .unset, .unset, .unset, .unset, .unset, .unset, .unset] []))
    refine own_st (fun t k => XS.iload X23.here hx rfl (hb hby at_98) rfl k) ?_
    show own_Run p e below s _ _ _ (T23.setTop (mkF m 100 #[.val (.int i0), .val (.int i1), .val (.int i2), .val (.int a0_), .val (.int b0_), .val (.int a), .val (.int b), .val (.int (0 : Int32)), .val (.double sc), .second, .unset, .unset, .unset, .unset, .unset, .unset, .unset] [(.int a)]))
    refine own_st (fun t k => XS.i2dS X23.here hx rfl (hb hby at_100) rfl (v := (FP.i2d a)) (rfl) k) ?_
    show own_Run p e below s _ _ _ (T23.setTop (mkF m 101 #[.val (.int i0), .val (.int i1), .val (.int i2), .val (.int a0_), .val (.int b0_), .val (.int a), .val (.int b), .val (.int (0 : Int32)), .val (.double sc), .second, .unset, .unset, .unset, .unset, .unset, .unset, .unset] [(.double (FP.i2d a))]))
    refine own_st (fun t k => XS.dload X23.here hx rfl (hb hby at_101) rfl k) ?_
    show own_Run p e below s _ _ _ (T23.setTop (mkF m 103 #[.val (.int i0), .val (.int i1), .val (.int i2), .val (.int a0_), .val (.int b0_), .val (.int a), .val (.int b), .val (.int (0 : Int32)), .val (.double sc), .second, .unset, .unset, .unset, .unset, .unset, .unset, .unset] [(.double sc), (.double (FP.i2d a))]))
    refine own_st (fun t k => XS.dmulS X23.here hx rfl (hb hby at_103) rfl (q1.nn) (v := (FP.dmul (FP.i2d a) sc)) (rfl) k) ?_
    show own_Run p e below s _ _ _ (T23.setTop (mkF m 104 #[.val (.int i0), .val (.int i1), .val (.int i2), .val (.int a0_), .val (.int b0_), .val (.int a), .val (.int b), .val (.int (0 : Int32)), .val (.double sc), .second, .unset, .unset, .unset, .unset, .unset, .unset, .unset] [(.double (FP.dmul (FP.i2d a) sc))]))
    refine own_st (fun t k => XS.dstore X23.here hx rfl (hb hby at_104) rfl (l' := #[.val (.int i0), .val (.int i1), .val (.int i2), .val (.int a0_), .val (.int b0_), .val (.int a), .val (.int b), .val (.int (0 : Int32)), .val (.double sc), .second, .val (.double (FP.dmul (FP.i2d a) sc)), .second, .unset, .unset, .unset, .unset, .unset]) rfl k) ?_
    show own_Run p e below s _ _ _ (T23.setTop (mkF m 106 #[.val (.int i0), .val (.int i1), .val (.int i2), .val (.int a0_), .val (.int b0_), .val (.int a), .val (.int b), .val (.int (0 : Int32)), .val (.double sc), .second, .val (.double (FP.dmul (FP.i2d a) sc)), .second, .unset, .unset, .unset, .unset, .unset] []))
    refine own_st (fun t k => XS.iload X23.here hx rfl (hb hby at_106) rfl k) ?_
    show own_Run p e below s _ _ _ (T23.setTop (mkF m 108 #[.val (.int i0), .val (.int i1), .val (.int i2), .val (.int a0_), .val (.int b0_), .val (.int a), .val (.int b), .val (.int (0 : Int32)), .val (.double sc), .second, .val (.double (FP.dmul (FP.i2d a) sc)), .second, .unset, .unset, .unset, .unset, .unset] [(.int b)]))
    refine own_st (fun t k => XS.i2dS X23.here hx rfl (hb hby at_108) rfl (v := (FP.i2d b)) (rfl) k) ?_
    show own_Run p e below s _ _ _ (T23.setTop (mkF m 109 #[.val (.int i0), .val (.int i1), .val (.int i2), .val (.int a0_), .val (.int b0_), .val (.int a), .val (.int b), .val (.int (0 : Int32)), .val (.double sc), .second, .val (.double (FP.dmul (FP.i2d a) sc)), .second, .unset, .unset, .unset, .unset, .unset] [(.double (FP.i2d b))]))
    refine own_st (fun t k => XS.dload X23.here hx rfl (hb hby at_109) rfl k) ?_
    show own_Run p e below s _ _ _ (T23.setTop (mkF m 111 #[.val (.int i0), .val (.int i1), .val (.int i2), .val (.int a0_), .val (.int b0_), .val (.int a), .val (.int b), .val (.int (0 : Int32)), .val (.double sc), .second, .val (.double (FP.dmul (FP.i2d a) sc)), .second, .unset, .unset, .unset, .unset, .unset] [(.double sc), (.double (FP.i2d b))]))
    refine own_st (fun t k => XS.dmulS X23.here hx rfl (hb hby at_111) rfl (q2.nn) (v := (FP.dmul (FP.i2d b) sc)) (rfl) k) ?_
    show own_Run p e below s _ _ _ (T23.setTop (mkF m 112 #[.val (.int i0), .val (.int i1), .val (.int i2), .val (.int a0_), .val (.int b0_), .val (.int a), .val (.int b), .val (.int (0 : Int32)), .val (.double sc), .second, .val (.double (FP.dmul (FP.i2d a) sc)), .second, .unset, .unset, .unset, .unset, .unset] [(.double (FP.dmul (FP.i2d b) sc))]))
    refine own_st (fun t k => XS.dstore X23.here hx rfl (hb hby at_112) rfl (l' := #[.val (.int i0), .val (.int i1), .val (.int i2), .val (.int a0_), .val (.int b0_), .val (.int a), .val (.int b), .val (.int (0 : Int32)), .val (.double sc), .second, .val (.double (FP.dmul (FP.i2d a) sc)), .second, .val (.double (FP.dmul (FP.i2d b) sc)), .second, .unset, .unset, .unset]) rfl k) ?_
    show own_Run p e below s _ _ _ (T23.setTop (mkF m 114 #[.val (.int i0), .val (.int i1), .val (.int i2), .val (.int a0_), .val (.int b0_), .val (.int a), .val (.int b), .val (.int (0 : Int32)), .val (.double sc), .second, .val (.double (FP.dmul (FP.i2d a) sc)), .second, .val (.double (FP.dmul (FP.i2d b) sc)), .second, .unset, .unset, .unset] []))
    obtain ⟨T24, h24, X24, e24, E24, A24, D24, -, st24⟩ := newO X23 hx hZ hown (hw _ (List.mem_of_getElem? (i := 12) rfl)) (hw _ (List.mem_of_getElem? (i := 13) rfl)) (hw _ (List.mem_of_getElem? (i := 14) rfl)) hh23 (g := (mkF m 114 #[.val (.int i0), .val (.int i1), .val (.int i2), .val (.int a0_), .val (.int b0_), .val (.int a), .val (.int b), .val (.int (0 : Int32)), .val (.double sc), .second, .val (.double (FP.dmul (FP.i2d a) sc)), .second, .val (.double (FP.dmul (FP.i2d b) sc)), .second, .unset, .unset, .unset] [])) rfl (hb hby at_114) (by decide) (by decide)
    obtain ⟨b24, g24⟩ : ∃ z, z = h0.size := ⟨_, rfl⟩
    rw [← g24] at A24 D24 st24
    have sz25 : h0.size ≤ b24 := Nat.le_trans K0.1 (Nat.le_of_eq g24.symm)
    have ge26 : n0 ≤ b24 := Nat.le_trans Z0 sz25
    refine own_st st24 ?_
    have K27 : Keep h0 h24 [] := K0.ext E24
    have O28 := O0.ext E24
    show own_Run p e below s _ _ _ (T24.setTop (mkF m 117 #[.val (.int i0), .val (.int i1), .val (.int i2), .val (.int a0_), .val (.int b0_), .val (.int a), .val (.int b), .val (.int (0 : Int32)), .val (.double sc), .second, .val (.double (FP.dmul (FP.i2d a) sc)), .second, .val (.double (FP.dmul (FP.i2d b) sc)), .second, .unset, .unset, .unset] [(.ref b24)]))
    refine own_st (fun t k => XS.dup X24.here hx rfl (hb hby at_117) rfl rfl k) ?_
    show own_Run p e below s _ _ _ (T24.setTop (mkF m 118 #[.val (.int i0), .val (.int i1), .val (.int i2), .val (.int a0_), .val (.int b0_), .val (.int a), .val (.int b), .val (.int (0 : Int32)), .val (.double sc), .second, .val (.double (FP.dmul (FP.i2d a) sc)), .second, .val (.double (FP.dmul (FP.i2d b) sc)), .second, .unset, .unset, .unset] [(.ref b24), (.ref b24)]))
    refine own_st (fun t k => XS.dload X24.here hx rfl (hb hby at_118) rfl k) ?_
    show own_Run p e below s _ _ _ (T24.setTop (mkF m 120 #[.val (.int i0), .val (.int i1), .val (.int i2), .val (.int a0_), .val (.int b0_), .val (.int a), .val (.int b), .val (.int (0 : Int32)), .val (.double sc), .second, .val (.double (FP.dmul (FP.i2d a) sc)), .second, .val (.double (FP.dmul (FP.i2d b) sc)), .second, .unset, .unset, .unset] [(.double (FP.dmul (FP.i2d a) sc)), (.ref b24), (.ref b24)]))
    refine own_st (fun t k => XS.dload X24.here hx rfl (hb hby at_120) rfl k) ?_
    show own_Run p e below s _ _ _ (T24.setTop (mkF m 122 #[.val (.int i0), .val (.int i1), .val (.int i2), .val (.int a0_), .val (.int b0_), .val (.int a), .val (.int b), .val (.int (0 : Int32)), .val (.double sc), .second, .val (.double (FP.dmul (FP.i2d a) sc)), .second, .val (.double (FP.dmul (FP.i2d b) sc)), .second, .unset, .unset, .unset] [(.double (FP.dmul (FP.i2d b) sc)), (.double (FP.dmul (FP.i2d a) sc)), (.ref b24), (.ref b24)]))
    refine own_callI X24 hx hZ (y := (⟨"com/example/intervallum/intervallum/robust/ValueBounds", "<init>", "(DD)V"⟩ : MethodName)) rfl hown (hw _ (List.mem_of_getElem? (i := 15) rfl)) (hw _ (List.mem_of_getElem? (i := 16) rfl)) (hw _ (List.mem_of_getElem? (i := 17) rfl)) (hw _ (List.mem_of_getElem? (i := 14) rfl)) (by decide) e24 (a := b24) (argsL := [(.double (FP.dmul (FP.i2d a) sc)), (.double (FP.dmul (FP.i2d b) sc))]) (rest := [(.ref b24)]) (W := 1) (own_rm4 l Z a0 hw [] b24 (FP.dmul (FP.i2d a) sc) (FP.dmul (FP.i2d b) sc) h24 n0 (Nat.le_trans Z0 K27.1) A24 D24 ge26) (by decide) (by decide) (by rw [hml]; rfl) (lenOf own_pd6 rfl) rfl (by exact Nat.le_of_eq rfl) (hb hby at_122) (by decide) (by decide) ?_
    intro T29 v29 L29 X29 hq29
    obtain ⟨rfl, N29q, K29q, Q30, Q31, Q32⟩ := hq29
    have K33 : Keep h0 T29.heap [] := K27.trans K29q (allS (Or.inr sz25) all0)
    have O34 := O28.keep K29q (allS ge26 all0)
    have N29 := Fr.app N23 N29q
    show own_Run p e below s _ _ _ (T29.setTop (mkF m 125 #[.val (.int i0), .val (.int i1), .val (.int i2), .val (.int a0_), .val (.int b0_), .val (.int a), .val (.int b), .val (.int (0 : Int32)), .val (.double sc), .second, .val (.double (FP.dmul (FP.i2d a) sc)), .second, .val (.double (FP.dmul (FP.i2d b) sc)), .second, .unset, .unset, .unset] [(.ref b24)]))
    refine own_st (fun t k => XS.astore X29.here hx rfl (hb hby at_125) rfl rfl (l' := #[.val (.int i0), .val (.int i1), .val (.int i2), .val (.int a0_), .val (.int b0_), .val (.int a), .val (.int b), .val (.int (0 : Int32)), .val (.double sc), .second, .val (.double (FP.dmul (FP.i2d a) sc)), .second, .val (.double (FP.dmul (FP.i2d b) sc)), .second, .val (.ref b24), .unset, .unset]) rfl k) ?_
    show own_Run p e below s _ _ _ (T29.setTop (mkF m 127 #[.val (.int i0), .val (.int i1), .val (.int i2), .val (.int a0_), .val (.int b0_), .val (.int a), .val (.int b), .val (.int (0 : Int32)), .val (.double sc), .second, .val (.double (FP.dmul (FP.i2d a) sc)), .second, .val (.double (FP.dmul (FP.i2d b) sc)), .second, .val (.ref b24), .unset, .unset] []))
    refine own_st (fun t k => XS.aload X29.here hx rfl (hb hby at_127) rfl rfl k) ?_
    show own_Run p e below s _ _ _ (T29.setTop (mkF m 129 #[.val (.int i0), .val (.int i1), .val (.int i2), .val (.int a0_), .val (.int b0_), .val (.int a), .val (.int b), .val (.int (0 : Int32)), .val (.double sc), .second, .val (.double (FP.dmul (FP.i2d a) sc)), .second, .val (.double (FP.dmul (FP.i2d b) sc)), .second, .val (.ref b24), .unset, .unset] [(.ref b24)]))
    refine own_callV X29 hx hZ (y := (⟨"com/example/intervallum/intervallum/robust/ValueBounds", "midpoint", "()D"⟩ : MethodName)) (C := "com/example/intervallum/intervallum/robust/ValueBounds") hown (hw _ (List.mem_of_getElem? (i := 30) rfl)) (hw _ (List.mem_of_getElem? (i := 31) rfl)) (hw _ (List.mem_of_getElem? (i := 33) rfl)) (hw _ (List.mem_of_getElem? (i := 32) rfl)) (hw _ (List.mem_of_getElem? (i := 34) rfl)) (hw _ (List.mem_of_getElem? (i := 14) rfl)) (by decide) rfl (a := b24) Q30 (argsL := []) (rest := []) (W := 0) (own_rm7 l Z a0 hw [] b24 (FP.dmul (FP.i2d a) sc) (FP.dmul (FP.i2d b) sc) T29.heap n0 (Nat.le_trans Z0 K33.1) Q31 Q32 (q3.1) (q3.2)) (by decide) (by decide) (by rw [hml]; rfl) (lenOf own_pd7 rfl) rfl (by exact Nat.le_of_eq rfl) (hb hby at_129) (by decide) (by decide) ?_
    intro T35 v35 L35 X35 hq35
    obtain ⟨rfl, N35q, hh35⟩ := hq35
    have N35 := Fr.app N29 N35q
    show own_Run p e below s _ _ _ (T35.setTop (mkF m 132 #[.val (.int i0), .val (.int i1), .val (.int i2), .val (.int a0_), .val (.int b0_), .val (.int a), .val (.int b), .val (.int (0 : Int32)), .val (.double sc), .second, .val (.double (FP.dmul (FP.i2d a) sc)), .second, .val (.double (FP.dmul (FP.i2d b) sc)), .second, .val (.ref b24), .unset, .unset] [(.double (if (cmpValue (FP.dcmp (FP.dmul (FP.i2d a) sc) (FP.dmul (FP.i2d b) sc)) .l) = (0 : Int32) then (FP.dmul (FP.i2d a) sc) else (FP.ddiv (FP.dadd (FP.dmul (FP.i2d a) sc) (FP.dmul (FP.i2d b) sc)) (4611686018427387904 : UInt64))))]))
    obtain ⟨mm, h_mm⟩ : ∃ z, ((if (cmpValue (FP.dcmp (FP.dmul (FP.i2d a) sc) (FP.dmul (FP.i2d b) sc)) .l) = (0 : Int32) then (FP.dmul (FP.i2d a) sc) else (FP.ddiv (FP.dadd (FP.dmul (FP.i2d a) sc) (FP.dmul (FP.i2d b) sc)) (4611686018427387904 : UInt64))) : UInt64) = z := ⟨_, rfl⟩
    refine own_topD h_mm ?_
    show own_Run p e below s _ _ _ (T35.setTop (mkF m 132 #[.val (.int i0), .val (.int i1), .val (.int i2), .val (.int a0_), .val (.int b0_), .val (.int a), .val (.int b), .val (.int (0 : Int32)), .val (.double sc), .second, .val (.double (FP.dmul (FP.i2d a) sc)), .second, .val (.double (FP.dmul (FP.i2d b) sc)), .second, .val (.ref b24), .unset, .unset] [(.double mm)]))
    have z_mm := q4 mm h_mm
    refine own_st (fun t k => XS.dstore X35.here hx rfl (hb hby at_132) rfl (l' := #[.val (.int i0), .val (.int i1), .val (.int i2), .val (.int a0_), .val (.int b0_), .val (.int a), .val (.int b), .val (.int (0 : Int32)), .val (.double sc), .second, .val (.double (FP.dmul (FP.i2d a) sc)), .second, .val (.double (FP.dmul (FP.i2d b) sc)), .second, .val (.ref b24), .val (.double mm), .second]) rfl k) ?_
    show own_Run p e below s _ _ _ (T35.setTop (mkF m 134 #[.val (.int i0), .val (.int i1), .val (.int i2), .val (.int a0_), .val (.int b0_), .val (.int a), .val (.int b), .val (.int (0 : Int32)), .val (.double sc), .second, .val (.double (FP.dmul (FP.i2d a) sc)), .second, .val (.double (FP.dmul (FP.i2d b) sc)), .second, .val (.ref b24), .val (.double mm), .second] []))
    refine own_st (fun t k => XS.dload X35.here hx rfl (hb hby at_134) rfl k) ?_
    show own_Run p e below s _ _ _ (T35.setTop (mkF m 136 #[.val (.int i0), .val (.int i1), .val (.int i2), .val (.int a0_), .val (.int b0_), .val (.int a), .val (.int b), .val (.int (0 : Int32)), .val (.double sc), .second, .val (.double (FP.dmul (FP.i2d a) sc)), .second, .val (.double (FP.dmul (FP.i2d b) sc)), .second, .val (.ref b24), .val (.double mm), .second] [(.double mm)]))
    refine own_st (fun t k => XS.dload X35.here hx rfl (hb hby at_136) rfl k) ?_
    show own_Run p e below s _ _ _ (T35.setTop (mkF m 138 #[.val (.int i0), .val (.int i1), .val (.int i2), .val (.int a0_), .val (.int b0_), .val (.int a), .val (.int b), .val (.int (0 : Int32)), .val (.double sc), .second, .val (.double (FP.dmul (FP.i2d a) sc)), .second, .val (.double (FP.dmul (FP.i2d b) sc)), .second, .val (.ref b24), .val (.double mm), .second] [(.double mm), (.double mm)]))
    refine own_st (fun t k => XS.daddS X35.here hx rfl (hb hby at_138) rfl ((own_mm z_mm k_sc r_a r_b).nn) (v := (FP.dadd mm mm)) (rfl) k) ?_
    show own_Run p e below s _ _ _ (T35.setTop (mkF m 139 #[.val (.int i0), .val (.int i1), .val (.int i2), .val (.int a0_), .val (.int b0_), .val (.int a), .val (.int b), .val (.int (0 : Int32)), .val (.double sc), .second, .val (.double (FP.dmul (FP.i2d a) sc)), .second, .val (.double (FP.dmul (FP.i2d b) sc)), .second, .val (.ref b24), .val (.double mm), .second] [(.double (FP.dadd mm mm))]))
    refine own_st (fun t k => XS.iload X35.here hx rfl (hb hby at_139) rfl k) ?_
    show own_Run p e below s _ _ _ (T35.setTop (mkF m 141 #[.val (.int i0), .val (.int i1), .val (.int i2), .val (.int a0_), .val (.int b0_), .val (.int a), .val (.int b), .val (.int (0 : Int32)), .val (.double sc), .second, .val (.double (FP.dmul (FP.i2d a) sc)), .second, .val (.double (FP.dmul (FP.i2d b) sc)), .second, .val (.ref b24), .val (.double mm), .second] [(.int a), (.double (FP.dadd mm mm))]))
    refine own_st (fun t k => XS.iload X35.here hx rfl (hb hby at_141) rfl k) ?_
    show own_Run p e below s _ _ _ (T35.setTop (mkF m 143 #[.val (.int i0), .val (.int i1), .val (.int i2), .val (.int a0_), .val (.int b0_), .val (.int a), .val (.int b), .val (.int (0 : Int32)), .val (.double sc), .second, .val (.double (FP.dmul (FP.i2d a) sc)), .second, .val (.double (FP.dmul (FP.i2d b) sc)), .second, .val (.ref b24), .val (.double mm), .second] [(.int b), (.int a), (.double (FP.dadd mm mm))]))
    refine own_st (fun t k => XS.iadd X35.here hx rfl (hb hby at_143) rfl k) ?_
    show own_Run p e below s _ _ _ (T35.setTop (mkF m 144 #[.val (.int i0), .val (.int i1), .val (.int i2), .val (.int a0_), .val (.int b0_), .val (.int a), .val (.int b), .val (.int (0 : Int32)), .val (.double sc), .second, .val (.double (FP.dmul (FP.i2d a) sc)), .second, .val (.double (FP.dmul (FP.i2d b) sc)), .second, .val (.ref b24), .val (.double mm), .second] [(.int (a + b)), (.double (FP.dadd mm mm))]))
    refine own_st (fun t k => XS.i2dS X35.here hx rfl (hb hby at_144) rfl (v := (FP.i2d (a + b))) (rfl) k) ?_
    show own_Run p e below s _ _ _ (T35.setTop (mkF m 145 #[.val (.int i0), .val (.int i1), .val (.int i2), .val (.int a0_), .val (.int b0_), .val (.int a), .val (.int b), .val (.int (0 : Int32)), .val (.double sc), .second, .val (.double (FP.dmul (FP.i2d a) sc)), .second, .val (.double (FP.dmul (FP.i2d b) sc)), .second, .val (.ref b24), .val (.double mm), .second] [(.double (FP.i2d (a + b))), (.double (FP.dadd mm mm))]))
    refine own_st (fun t k => XS.dload X35.here hx rfl (hb hby at_145) rfl k) ?_
    show own_Run p e below s _ _ _ (T35.setTop (mkF m 147 #[.val (.int i0), .val (.int i1), .val (.int i2), .val (.int a0_), .val (.int b0_), .val (.int a), .val (.int b), .val (.int (0 : Int32)), .val (.double sc), .second, .val (.double (FP.dmul (FP.i2d a) sc)), .second, .val (.double (FP.dmul (FP.i2d b) sc)), .second, .val (.ref b24), .val (.double mm), .second] [(.double sc), (.double (FP.i2d (a + b))), (.double (FP.dadd mm mm))]))
    refine own_st (fun t k => XS.dmulS X35.here hx rfl (hb hby at_147) rfl (q5.nn) (v := (FP.dmul (FP.i2d (a + b)) sc)) (rfl) k) ?_
    show own_Run p e below s _ _ _ (T35.setTop (mkF m 148 #[.val (.int i0), .val (.int i1), .val (.int i2), .val (.int a0_), .val (.int b0_), .val (.int a), .val (.int b), .val (.int (0 : Int32)), .val (.double sc), .second, .val (.double (FP.dmul (FP.i2d a) sc)), .second, .val (.double (FP.dmul (FP.i2d b) sc)), .second, .val (.ref b24), .val (.double mm), .second] [(.double (FP.dmul (FP.i2d (a + b)) sc)), (.double (FP.dadd mm mm))]))
    refine own_st (fun t k => XS.dcmpS X35.here hx rfl (hb hby at_148) rfl (v := (0 : Int32)) (own_mcmp z_mm q5 k_sc r_a r_b) k) ?_
    show own_Run p e below s _ _ _ (T35.setTop (mkF m 149 #[.val (.int i0), .val (.int i1), .val (.int i2), .val (.int a0_), .val (.int b0_), .val (.int a), .val (.int b), .val (.int (0 : Int32)), .val (.double sc), .second, .val (.double (FP.dmul (FP.i2d a) sc)), .second, .val (.double (FP.dmul (FP.i2d b) sc)), .second, .val (.ref b24), .val (.double mm), .second] [(.int (0 : Int32))]))
    refine own_st (fun t k => XS.ifNo X35.here hx rfl (hb hby at_149) rfl ((if0 _ _).trans (teq (by decide : (0 : Int32) = (0 : Int32))).2) k) ?_
    show own_Run p e below s _ _ _ (T35.setTop (mkF m 152 #[.val (.int i0), .val (.int i1), .val (.int i2), .val (.int a0_), .val (.int b0_), .val (.int a), .val (.int b), .val (.int (0 : Int32)), .val (.double sc), .second, .val (.double (FP.dmul (FP.i2d a) sc)), .second, .val (.double (FP.dmul (FP.i2d b) sc)), .second, .val (.ref b24), .val (.double mm), .second] []))
    refine own_st (fun t k => XS.iconst X35.here hx rfl (hb hby at_152) k) ?_
    show own_Run p e below s _ _ _ (T35.setTop (mkF m 153 #[.val (.int i0), .val (.int i1), .val (.int i2), .val (.int a0_), .val (.int b0_), .val (.int a), .val (.int b), .val (.int (0 : Int32)), .val (.double sc), .second, .val (.double (FP.dmul (FP.i2d a) sc)), .second, .val (.double (FP.dmul (FP.i2d b) sc)), .second, .val (.ref b24), .val (.double mm), .second] [(.int (1 : Int32))]))
    refine own_st (fun t k => XS.goto X35.here hx rfl (pc0 := 153) (pc' := 157) rfl (hb hby at_153) (by decide) (by decide) k) ?_
    show own_Run p e below s _ _ _ (T35.setTop (mkF m 157 #[.val (.int i0), .val (.int i1), .val (.int i2), .val (.int a0_), .val (.int b0_), .val (.int a), .val (.int b), .val (.int (0 : Int32)), .val (.double sc), .second, .val (.double (FP.dmul (FP.i2d a) sc)), .second, .val (.double (FP.dmul (FP.i2d b) sc)), .second, .val (.ref b24), .val (.double mm), .second] [(.int (1 : Int32))]))
    exact own_ret X35 hx hlk (t := .boolean) hret rfl (Or.inl ⟨rfl, by simp, _, rfl⟩) (hb hby at_157) (by decide) (by decide) ⟨rfl, N35⟩
  · skip
    refine own_st (fun t k => XS.ifNo X21.here hx rfl (hb hby at_36) rfl ((if0 _ _).trans (feq (hc22 : ¬ ((i2 &&& (4 : Int32)) = (0 : Int32)))).1) k) ?_
    show own_Run p e below s _ _ _ (T21.setTop (mkF m 39 #[.val (.int i0), .val (.int i1), .val (.int i2), .val (.int a0_), .val (.int b0_), .val (.int a), .val (.int b), .unset, .unset, .unset, .unset, .unset, .unset, .unset, .unset, .unset, .unset] []))
    refine own_st (fun t k => XS.iconst X21.here hx rfl (hb hby at_39) k) ?_
    show own_Run p e below s _ _ _ (T21.setTop (mkF m 40 #[.val (.int i0), .val (.int i1), .val (.int i2), .val (.int a0_), .val (.int b0_), .val (.int a), .val (.int b), .unset, .unset, .unset, .unset, .unset, .unset, .unset, .unset, .unset, .unset] [(.int (1 : Int32))]))
    refine own_st (fun t k => XS.goto X21.here hx rfl (pc0 := 40) (pc' := 44) rfl (hb hby at_40) (by decide) (by decide) k) ?_
    show own_Run p e below s _ _ _ (T21.setTop (mkF m 44 #[.val (.int i0), .val (.int i1), .val (.int i2), .val (.int a0_), .val (.int b0_), .val (.int a), .val (.int b), .unset, .unset, .unset, .unset, .unset, .unset, .unset, .unset, .unset, .unset] [(.int (1 : Int32))]))
    refine own_st (fun t k => XS.istore X21.here hx rfl (hb hby at_44) rfl (l' := #[.val (.int i0), .val (.int i1), .val (.int i2), .val (.int a0_), .val (.int b0_), .val (.int a), .val (.int b), .val (.int (1 : Int32)), .unset, .unset, .unset, .unset, .unset, .unset, .unset, .unset, .unset]) rfl k) ?_
    show own_Run p e below s _ _ _ (T21.setTop (mkF m 46 #[.val (.int i0), .val (.int i1), .val (.int i2), .val (.int a0_), .val (.int b0_), .val (.int a), .val (.int b), .val (.int (1 : Int32)), .unset, .unset, .unset, .unset, .unset, .unset, .unset, .unset, .unset] []))
    refine own_st (fun t k => XS.iloadN X21.here hx rfl (hb hby at_46) rfl k) ?_
    show own_Run p e below s _ _ _ (T21.setTop (mkF m 47 #[.val (.int i0), .val (.int i1), .val (.int i2), .val (.int a0_), .val (.int b0_), .val (.int a), .val (.int b), .val (.int (1 : Int32)), .unset, .unset, .unset, .unset, .unset, .unset, .unset, .unset, .unset] [(.int i2)]))
    refine own_st (fun t k => XS.iconst X21.here hx rfl (hb hby at_47) k) ?_
    show own_Run p e below s _ _ _ (T21.setTop (mkF m 48 #[.val (.int i0), .val (.int i1), .val (.int i2), .val (.int a0_), .val (.int b0_), .val (.int a), .val (.int b), .val (.int (1 : Int32)), .unset, .unset, .unset, .unset, .unset, .unset, .unset, .unset, .unset] [(.int (3 : Int32)), (.int i2)]))
    refine own_st (fun t k => XS.iand X21.here hx rfl (hb hby at_48) rfl k) ?_
    show own_Run p e below s _ _ _ (T21.setTop (mkF m 49 #[.val (.int i0), .val (.int i1), .val (.int i2), .val (.int a0_), .val (.int b0_), .val (.int a), .val (.int b), .val (.int (1 : Int32)), .unset, .unset, .unset, .unset, .unset, .unset, .unset, .unset, .unset] [(.int (i2 &&& (3 : Int32)))]))
    refine own_st (fun t k => XS.iload X21.here hx rfl (hb hby at_49) rfl k) ?_
    show own_Run p e below s _ _ _ (T21.setTop (mkF m 51 #[.val (.int i0), .val (.int i1), .val (.int i2), .val (.int a0_), .val (.int b0_), .val (.int a), .val (.int b), .val (.int (1 : Int32)), .unset, .unset, .unset, .unset, .unset, .unset, .unset, .unset, .unset] [(.int (1 : Int32)), (.int (i2 &&& (3 : Int32)))]))
    refine own_callS X21 hx hZ (y := (⟨"com/example/intervallum/intervallum/robust/ValueBoundsMidpointPinLaw", "pick", "(IZ)D"⟩ : MethodName)) hown (hw _ (List.mem_of_getElem? (i := 7) rfl)) (hw _ (List.mem_of_getElem? (i := 8) rfl)) (hw _ (List.mem_of_getElem? (i := 10) rfl)) (hw _ (List.mem_of_getElem? (i := 9) rfl)) (by decide) hh21 (argsL := [(.int (i2 &&& (3 : Int32))), (.int (1 : Int32))]) (rest := []) (W := 0) (own_rm3E l Z a0 hw [] (i2 &&& (3 : Int32)) h0 n0 (Nat.le_trans Z0 K0.1) ) (by decide) (by decide) (by rw [hml]; rfl) (lenOf own_pd5 rfl) rfl (by exact Nat.le_of_eq rfl) (hb hby at_51) (by decide) (by decide) ?_
    intro T36 v36 L36 X36 hq36
    obtain ⟨rfl, N36q, hh36⟩ := hq36
    have N36 := Fr.app N21 N36q
    show own_Run p e below s _ _ _ (T36.setTop (mkF m 54 #[.val (.int i0), .val (.int i1), .val (.int i2), .val (.int a0_), .val (.int b0_), .val (.int a), .val (.int b), .val (.int (1 : Int32)), .unset, .unset, .unset, .unset, .unset, .unset, .unset, .unset, .unset] [(.double (if (i2 &&& (3 : Int32)) = (0 : Int32) then (4607182418800017408 : UInt64) else if (i2 &&& (3 : Int32)) = (1 : Int32) then (4472074429978902528 : UInt64) else if (i2 &&& (3 : Int32)) = (2 : Int32) then (9133300044307365888 : UInt64) else (103582791429521408 : UInt64)))]))
    obtain ⟨sc, h_sc⟩ : ∃ z, ((if (i2 &&& (3 : Int32)) = (0 : Int32) then (4607182418800017408 : UInt64) else if (i2 &&& (3 : Int32)) = (1 : Int32) then (4472074429978902528 : UInt64) else if (i2 &&& (3 : Int32)) = (2 : Int32) then (9133300044307365888 : UInt64) else (103582791429521408 : UInt64)) : UInt64) = z := ⟨_, rfl⟩
    refine own_topD h_sc ?_
    show own_Run p e below s _ _ _ (T36.setTop (mkF m 54 #[.val (.int i0), .val (.int i1), .val (.int i2), .val (.int a0_), .val (.int b0_), .val (.int a), .val (.int b), .val (.int (1 : Int32)), .unset, .unset, .unset, .unset, .unset, .unset, .unset, .unset, .unset] [(.double sc)]))
    have f_sc := own_pkE h_sc
    refine own_st (fun t k => XS.dstore X36.here hx rfl (hb hby at_54) rfl (l' := #[.val (.int i0), .val (.int i1), .val (.int i2), .val (.int a0_), .val (.int b0_), .val (.int a), .val (.int b), .val (.int (1 : Int32)), .val (.double sc), .second, .unset, .unset, .unset, .unset, .unset, .unset, .unset]) rfl k) ?_
    show own_Run p e below s _ _ _ (T36.setTop (mkF m 56 #[.val (.int i0), .val (.int i1), .val (.int i2), .val (.int a0_), .val (.int b0_), .val (.int a), .val (.int b), .val (.int (1 : Int32)), .val (.double sc), .second, .unset, .unset, .unset, .unset, .unset, .unset, .unset] []))
    refine own_st (fun t k => XS.iload X36.here hx rfl (hb hby at_56) rfl k) ?_
    show own_Run p e below s _ _ _ (T36.setTop (mkF m 58 #[.val (.int i0), .val (.int i1), .val (.int i2), .val (.int a0_), .val (.int b0_), .val (.int a), .val (.int b), .val (.int (1 : Int32)), .val (.double sc), .second, .unset, .unset, .unset, .unset, .unset, .unset, .unset] [(.int (1 : Int32))]))
    refine own_st (fun t k => XS.ifNo X36.here hx rfl (hb hby at_58) rfl ((if0 _ _).trans (feq (by decide : ¬ ((1 : Int32) = (0 : Int32)))).1) k) ?_
    show own_Run p e below s _ _ _ (T36.setTop (mkF m 61 #[.val (.int i0), .val (.int i1), .val (.int i2), .val (.int a0_), .val (.int b0_), .val (.int a), .val (.int b), .val (.int (1 : Int32)), .val (.double sc), .second, .unset, .unset, .unset, .unset, .unset, .unset, .unset] []))
    refine own_st (fun t k => XS.iloadN X36.here hx rfl (hb hby at_61) rfl k) ?_
    show own_Run p e below s _ _ _ (T36.setTop (mkF m 62 #[.val (.int i0), .val (.int i1), .val (.int i2), .val (.int a0_), .val (.int b0_), .val (.int a), .val (.int b), .val (.int (1 : Int32)), .val (.double sc), .second, .unset, .unset, .unset, .unset, .unset, .unset, .unset] [(.int a0_)]))
    refine own_st (fun t k => XS.i2dS X36.here hx rfl (hb hby at_62) rfl (v := (FP.i2d a0_)) (rfl) k) ?_
    show own_Run p e below s _ _ _ (T36.setTop (mkF m 63 #[.val (.int i0), .val (.int i1), .val (.int i2), .val (.int a0_), .val (.int b0_), .val (.int a), .val (.int b), .val (.int (1 : Int32)), .val (.double sc), .second, .unset, .unset, .unset, .unset, .unset, .unset, .unset] [(.double (FP.i2d a0_))]))
    refine own_st (fun t k => XS.dload X36.here hx rfl (hb hby at_63) rfl k) ?_
    show own_Run p e below s _ _ _ (T36.setTop (mkF m 65 #[.val (.int i0), .val (.int i1), .val (.int i2), .val (.int a0_), .val (.int b0_), .val (.int a), .val (.int b), .val (.int (1 : Int32)), .val (.double sc), .second, .unset, .unset, .unset, .unset, .unset, .unset, .unset] [(.double sc), (.double (FP.i2d a0_))]))
    refine own_st (fun t k => XS.dmulS X36.here hx rfl (hb hby at_65) rfl (own_nnof (own_mulne (own_Z.i2d a0_).1 f_sc)) (v := (FP.dmul (FP.i2d a0_) sc)) (rfl) k) ?_
    show own_Run p e below s _ _ _ (T36.setTop (mkF m 66 #[.val (.int i0), .val (.int i1), .val (.int i2), .val (.int a0_), .val (.int b0_), .val (.int a), .val (.int b), .val (.int (1 : Int32)), .val (.double sc), .second, .unset, .unset, .unset, .unset, .unset, .unset, .unset] [(.double (FP.dmul (FP.i2d a0_) sc))]))
    obtain ⟨v, h_v⟩ : ∃ z, ((FP.dmul (FP.i2d a0_) sc) : UInt64) = z := ⟨_, rfl⟩
    refine own_topD h_v ?_
    show own_Run p e below s _ _ _ (T36.setTop (mkF m 66 #[.val (.int i0), .val (.int i1), .val (.int i2), .val (.int a0_), .val (.int b0_), .val (.int a), .val (.int b), .val (.int (1 : Int32)), .val (.double sc), .second, .unset, .unset, .unset, .unset, .unset, .unset, .unset] [(.double v)]))
    have n_v : Jvm.Free.Fl.NoNaN64 v := h_v ▸ own_nnof (own_mulne (own_Z.i2d a0_).1 f_sc)
    refine own_st (fun t k => XS.dstore X36.here hx rfl (hb hby at_66) rfl (l' := #[.val (.int i0), .val (.int i1), .val (.int i2), .val (.int a0_), .val (.int b0_), .val (.int a), .val (.int b), .val (.int (1 : Int32)), .val (.double sc), .second, .val (.double v), .second, .unset, .unset, .unset, .unset, .unset]) rfl k) ?_
    show own_Run p e below s _ _ _ (T36.setTop (mkF m 68 #[.val (.int i0), .val (.int i1), .val (.int i2), .val (.int a0_), .val (.int b0_), .val (.int a), .val (.int b), .val (.int (1 : Int32)), .val (.double sc), .second, .val (.double v), .second, .unset, .unset, .unset, .unset, .unset] []))
    obtain ⟨T37, h37, X37, e37, E37, A37, D37, -, st37⟩ := newO X36 hx hZ hown (hw _ (List.mem_of_getElem? (i := 12) rfl)) (hw _ (List.mem_of_getElem? (i := 13) rfl)) (hw _ (List.mem_of_getElem? (i := 14) rfl)) hh36 (g := (mkF m 68 #[.val (.int i0), .val (.int i1), .val (.int i2), .val (.int a0_), .val (.int b0_), .val (.int a), .val (.int b), .val (.int (1 : Int32)), .val (.double sc), .second, .val (.double v), .second, .unset, .unset, .unset, .unset, .unset] [])) rfl (hb hby at_68) (by decide) (by decide)
    obtain ⟨b37, g37⟩ : ∃ z, z = h0.size := ⟨_, rfl⟩
    rw [← g37] at A37 D37 st37
    have sz38 : h0.size ≤ b37 := Nat.le_trans K0.1 (Nat.le_of_eq g37.symm)
    have ge39 : n0 ≤ b37 := Nat.le_trans Z0 sz38
    refine own_st st37 ?_
    have K40 : Keep h0 h37 [] := K0.ext E37
    have O41 := O0.ext E37
    show own_Run p e below s _ _ _ (T37.setTop (mkF m 71 #[.val (.int i0), .val (.int i1), .val (.int i2), .val (.int a0_), .val (.int b0_), .val (.int a), .val (.int b), .val (.int (1 : Int32)), .val (.double sc), .second, .val (.double v), .second, .unset, .unset, .unset, .unset, .unset] [(.ref b37)]))
    refine own_st (fun t k => XS.dup X37.here hx rfl (hb hby at_71) rfl rfl k) ?_
    show own_Run p e below s _ _ _ (T37.setTop (mkF m 72 #[.val (.int i0), .val (.int i1), .val (.int i2), .val (.int a0_), .val (.int b0_), .val (.int a), .val (.int b), .val (.int (1 : Int32)), .val (.double sc), .second, .val (.double v), .second, .unset, .unset, .unset, .unset, .unset] [(.ref b37), (.ref b37)]))
    refine own_st (fun t k => XS.dload X37.here hx rfl (hb hby at_72) rfl k) ?_
    show own_Run p e below s _ _ _ (T37.setTop (mkF m 74 #[.val (.int i0), .val (.int i1), .val (.int i2), .val (.int a0_), .val (.int b0_), .val (.int a), .val (.int b), .val (.int (1 : Int32)), .val (.double sc), .second, .val (.double v), .second, .unset, .unset, .unset, .unset, .unset] [(.double v), (.ref b37), (.ref b37)]))
    refine own_st (fun t k => XS.dload X37.here hx rfl (hb hby at_74) rfl k) ?_
    show own_Run p e below s _ _ _ (T37.setTop (mkF m 76 #[.val (.int i0), .val (.int i1), .val (.int i2), .val (.int a0_), .val (.int b0_), .val (.int a), .val (.int b), .val (.int (1 : Int32)), .val (.double sc), .second, .val (.double v), .second, .unset, .unset, .unset, .unset, .unset] [(.double v), (.double v), (.ref b37), (.ref b37)]))
    refine own_callI X37 hx hZ (y := (⟨"com/example/intervallum/intervallum/robust/ValueBounds", "<init>", "(DD)V"⟩ : MethodName)) rfl hown (hw _ (List.mem_of_getElem? (i := 15) rfl)) (hw _ (List.mem_of_getElem? (i := 16) rfl)) (hw _ (List.mem_of_getElem? (i := 17) rfl)) (hw _ (List.mem_of_getElem? (i := 14) rfl)) (by decide) e37 (a := b37) (argsL := [(.double v), (.double v)]) (rest := [(.ref b37)]) (W := 1) (own_rm4 l Z a0 hw [] b37 v v h37 n0 (Nat.le_trans Z0 K40.1) A37 D37 ge39) (by decide) (by decide) (by rw [hml]; rfl) (lenOf own_pd6 rfl) rfl (by exact Nat.le_of_eq rfl) (hb hby at_76) (by decide) (by decide) ?_
    intro T42 v42 L42 X42 hq42
    obtain ⟨rfl, N42q, K42q, Q43, Q44, Q45⟩ := hq42
    have K46 : Keep h0 T42.heap [] := K40.trans K42q (allS (Or.inr sz38) all0)
    have O47 := O41.keep K42q (allS ge39 all0)
    have N42 := Fr.app N36 N42q
    show own_Run p e below s _ _ _ (T42.setTop (mkF m 79 #[.val (.int i0), .val (.int i1), .val (.int i2), .val (.int a0_), .val (.int b0_), .val (.int a), .val (.int b), .val (.int (1 : Int32)), .val (.double sc), .second, .val (.double v), .second, .unset, .unset, .unset, .unset, .unset] [(.ref b37)]))
    refine own_st (fun t k => XS.astore X42.here hx rfl (hb hby at_79) rfl rfl (l' := #[.val (.int i0), .val (.int i1), .val (.int i2), .val (.int a0_), .val (.int b0_), .val (.int a), .val (.int b), .val (.int (1 : Int32)), .val (.double sc), .second, .val (.double v), .second, .val (.ref b37), .unset, .unset, .unset, .unset]) rfl k) ?_
    show own_Run p e below s _ _ _ (T42.setTop (mkF m 81 #[.val (.int i0), .val (.int i1), .val (.int i2), .val (.int a0_), .val (.int b0_), .val (.int a), .val (.int b), .val (.int (1 : Int32)), .val (.double sc), .second, .val (.double v), .second, .val (.ref b37), .unset, .unset, .unset, .unset] []))
    refine own_st (fun t k => XS.aload X42.here hx rfl (hb hby at_81) rfl rfl k) ?_
    show own_Run p e below s _ _ _ (T42.setTop (mkF m 83 #[.val (.int i0), .val (.int i1), .val (.int i2), .val (.int a0_), .val (.int b0_), .val (.int a), .val (.int b), .val (.int (1 : Int32)), .val (.double sc), .second, .val (.double v), .second, .val (.ref b37), .unset, .unset, .unset, .unset] [(.ref b37)]))
    refine own_callV X42 hx hZ (y := (⟨"com/example/intervallum/intervallum/robust/ValueBounds", "midpoint", "()D"⟩ : MethodName)) (C := "com/example/intervallum/intervallum/robust/ValueBounds") hown (hw _ (List.mem_of_getElem? (i := 30) rfl)) (hw _ (List.mem_of_getElem? (i := 31) rfl)) (hw _ (List.mem_of_getElem? (i := 33) rfl)) (hw _ (List.mem_of_getElem? (i := 32) rfl)) (hw _ (List.mem_of_getElem? (i := 34) rfl)) (hw _ (List.mem_of_getElem? (i := 14) rfl)) (by decide) rfl (a := b37) Q43 (argsL := []) (rest := []) (W := 0) (own_rm7 l Z a0 hw [] b37 v v T42.heap n0 (Nat.le_trans Z0 K46.1) Q44 Q45 (fun z => absurd (dcmpV_self n_v _) z) (fun z => absurd (dcmpV_self n_v _) z)) (by decide) (by decide) (by rw [hml]; rfl) (lenOf own_pd7 rfl) rfl (by exact Nat.le_of_eq rfl) (hb hby at_83) (by decide) (by decide) ?_
    intro T48 v48 L48 X48 hq48
    obtain ⟨rfl, N48q, hh48⟩ := hq48
    have N48 := Fr.app N42 N48q
    show own_Run p e below s _ _ _ (T48.setTop (mkF m 86 #[.val (.int i0), .val (.int i1), .val (.int i2), .val (.int a0_), .val (.int b0_), .val (.int a), .val (.int b), .val (.int (1 : Int32)), .val (.double sc), .second, .val (.double v), .second, .val (.ref b37), .unset, .unset, .unset, .unset] [(.double (if (cmpValue (FP.dcmp v v) .l) = (0 : Int32) then v else (FP.ddiv (FP.dadd v v) (4611686018427387904 : UInt64))))]))
    refine own_topD (if_pos (dcmpV_self n_v _)) ?_
    show own_Run p e below s _ _ _ (T48.setTop (mkF m 86 #[.val (.int i0), .val (.int i1), .val (.int i2), .val (.int a0_), .val (.int b0_), .val (.int a), .val (.int b), .val (.int (1 : Int32)), .val (.double sc), .second, .val (.double v), .second, .val (.ref b37), .unset, .unset, .unset, .unset] [(.double v)]))
    refine own_st (fun t k => XS.dload X48.here hx rfl (hb hby at_86) rfl k) ?_
    show own_Run p e below s _ _ _ (T48.setTop (mkF m 88 #[.val (.int i0), .val (.int i1), .val (.int i2), .val (.int a0_), .val (.int b0_), .val (.int a), .val (.int b), .val (.int (1 : Int32)), .val (.double sc), .second, .val (.double v), .second, .val (.ref b37), .unset, .unset, .unset, .unset] [(.double v), (.double v)]))
    refine own_st (fun t k => XS.dcmpS X48.here hx rfl (hb hby at_88) rfl (v := (0 : Int32)) (dcmpV_self n_v _) k) ?_
    show own_Run p e below s _ _ _ (T48.setTop (mkF m 89 #[.val (.int i0), .val (.int i1), .val (.int i2), .val (.int a0_), .val (.int b0_), .val (.int a), .val (.int b), .val (.int (1 : Int32)), .val (.double sc), .second, .val (.double v), .second, .val (.ref b37), .unset, .unset, .unset, .unset] [(.int (0 : Int32))]))
    refine own_st (fun t k => XS.ifNo X48.here hx rfl (hb hby at_89) rfl ((if0 _ _).trans (teq (by decide : (0 : Int32) = (0 : Int32))).2) k) ?_
    show own_Run p e below s _ _ _ (T48.setTop (mkF m 92 #[.val (.int i0), .val (.int i1), .val (.int i2), .val (.int a0_), .val (.int b0_), .val (.int a), .val (.int b), .val (.int (1 : Int32)), .val (.double sc), .second, .val (.double v), .second, .val (.ref b37), .unset, .unset, .unset, .unset] []))
    refine own_st (fun t k => XS.iconst X48.here hx rfl (hb hby at_92) k) ?_
    show own_Run p e below s _ _ _ (T48.setTop (mkF m 93 #[.val (.int i0), .val (.int i1), .val (.int i2), .val (.int a0_), .val (.int b0_), .val (.int a), .val (.int b), .val (.int (1 : Int32)), .val (.double sc), .second, .val (.double v), .second, .val (.ref b37), .unset, .unset, .unset, .unset] [(.int (1 : Int32))]))
    refine own_st (fun t k => XS.goto X48.here hx rfl (pc0 := 93) (pc' := 97) rfl (hb hby at_93) (by decide) (by decide) k) ?_
    show own_Run p e below s _ _ _ (T48.setTop (mkF m 97 #[.val (.int i0), .val (.int i1), .val (.int i2), .val (.int a0_), .val (.int b0_), .val (.int a), .val (.int b), .val (.int (1 : Int32)), .val (.double sc), .second, .val (.double v), .second, .val (.ref b37), .unset, .unset, .unset, .unset] [(.int (1 : Int32))]))
    exact own_ret X48 hx hlk (t := .boolean) hret rfl (Or.inl ⟨rfl, by simp, _, rfl⟩) (hb hby at_97) (by decide) (by decide) ⟨rfl, N48⟩
set_option maxRecDepth 65536 in
set_option maxHeartbeats 40000000 in
theorem own_comes_1 {Post : Tables → Env → Array Value → State → Outcome → State → Prop} (hpost : ∀ tb e args s v u, (limb_1_1.after args s (.returned v) u = true ∧ limb_1_2.after args s (.returned v) u = true ∧ True) → FrameEnd s (.returned v) u (Jvm.fieldLocs frame_1_writes args s ++ Jvm.arrayLocs frame_1_arrays args s ++ Jvm.staticLocs frame_1_statics s) 16 128 → Post tb e args s (.returned v) u) :
    ArmFor flags0 classFile x code maxLocals ret World_1 tables_1 room_1 Calls_1 rest_1 Pre_1 Post := by
  intro l hfl _ _ p e ha hc hk s m args below hf hA hF happ hP
  obtain ⟨hcalls, hrest, hpre⟩ := hP
  obtain ⟨-, -, -, hnamed, -, -, -, hat⟩ := (Spec.applies_iff hf).mp happ
  obtain ⟨hg, hn⟩ := and_e (Cond.before_iff.mp (show (Jvm.Cond.and given_1 narrow_1).before args s = true from hpre))
  obtain ⟨gv1, gv2⟩ := and_e hg
  obtain ⟨gv3, gv4⟩ := and_e gv2
  obtain ⟨gv5, gv6⟩ := and_e gv4
  obtain ⟨w0, w1, w2, rfl⟩ : ∃ w0 w1 w2 : Value, args = #[w0, w1, w2] := by
    have hs : args.size = 3 := by simpa [Cond.value, given_1] using gv1
    obtain ⟨L⟩ := args
    match L, hs with
    | [w0, w1, w2], _ => exact ⟨w0, w1, w2, rfl⟩
  have hw := fun d (hd : d ∈ tables_1) => atoms_spec (ws := Jvm.Cond.code x code maxLocals ret :: tables_1) hat d (List.mem_cons_of_mem _ hd)
  have hfit : Fit s := fun {y c} hc i hi => by
    obtain ⟨ha, rfl⟩ := Array.getElem?_eq_some_iff.mp hc
    have q := List.all_eq_true.mp ((Array.all_eq_true_iff_forall_mem.mp hF) _ (Array.getElem_mem ha)) i (List.mem_range.mpr hi)
    simpa [Array.getElem?_eq_getElem hi] using q
  obtain ⟨i0, ei0⟩ := is_v gv3
  obtain rfl : w0 = (.int i0) := Option.some.inj ei0
  obtain ⟨i1, ei1⟩ := is_v gv5
  obtain rfl : w1 = (.int i1) := Option.some.inj ei1
  obtain ⟨i2, ei2⟩ := is_v gv6
  obtain rfl : w2 = (.int i2) := Option.some.inj ei2
  obtain ⟨n, o, h1, h2, h3, _, L, rfl, ⟨rfl, N⟩, hq⟩ := own_rm0 l s _ hw tables_1 i0 i1 i2 s.heap s.heap.size (Nat.le_refl _) (Old.start s)  p e ha hc hk s m _ below hf ((Spec.applies_iff_loose hf).mp happ).1 ⟨rfl, State.Warmed39.refl s, rfl⟩ trivial
  refine ⟨n, _, h1, h2, h3, hpost _ _ _ _ _ _ ⟨Cond.after_iff.mpr rfl, Cond.after_iff.mpr (eq_i res_at (Term.int_eval (1)) rfl), trivial⟩ ⟨hq.1, hq.2.1, (hq.2.2.sift fun y hy => Or.inr (N y hy)).mono (by decide) (by decide)⟩⟩
theorem main_1_1 : Claimed_1_1 := own_comes_1 fun _ _ _ _ _ _ h hF => ⟨h.1, hF⟩
theorem main_1_2 : Claimed_1_2 := own_comes_1 fun _ _ _ _ _ _ h hF => ⟨h.2.1, hF⟩
end Jvm.Pilot.@@N@@
namespace Jvm.Pilot.@@N@@
open Jvm Jvm.ClassFile Sem Op Lib Jvm.Free Jvm.Stand Jvm.Pilot.@@N@@.Jvm.D
/-! MADE BY PROGRAM (witnessworld.py) out of the Statement's table words and the real class files: 11 classes; the members and pool entries that the words name. The judged class is class 1, her method 2. -/
namespace start1
open Jvm.ClassFile
def u (s : String) : CpInfo := .utf8 (stringToUtf16 s)
/-- a pool by its gaps: so many unusable entries, then the entry; so many at the end -/
def gap : Nat → List CpInfo → List CpInfo
  | 0, r => r
  | n + 1, r => .unusable :: gap n r
def poolList (es : List (Nat × CpInfo)) (last : Nat) : List CpInfo := es.foldr (fun e r => gap e.1 (e.2 :: r)) (gap last [])
def pool (es : List (Nat × CpInfo)) (last : Nat) : Array CpInfo := ⟨poolList es last⟩
def fileOf (pool : Array CpInfo) (this : Nat) (attrs : Array Attribute := #[]) (ms : Array MethodInfo := #[]) (fl : Nat := 33) (sup : Nat := 0) (ifs : Array Nat := #[]) (fds : Array FieldInfo := #[]) : ClassFile where
  minorVersion := 0
  majorVersion := 65
  constantPool := pool
  accessFlags := fl
  thisClass := this
  superClass := sup
  interfaces := ifs
  fields := fds
  methods := ms
  attributes := attrs
def plain (name : String) (sup : Option ClassId) : Class where
  name := name
  kind := .ordinary
  loader := none
  accessFlags := 33
  super := sup
  interfaces := #[]
  cf := none
  fields := #[]
  methods := #[]
  instanceTypes := #[]
  staticTypes := #[]
  resolved := #[]
  callSites := []
  init := .initialized
  statics := none
  mirror := none

def pool0 : Array CpInfo := pool [(5, u "<init>"), (0, u "()V"), (1, .class_ 10), (1, u "java/lang/Object")] 113

def k0c0 : Code := { maxStack := 0, maxLocals := 1, code := object_method_1_code, exceptionTable := #[], attributes := #[] }
def k0m0 : Method := { name := "<init>", desc := "()V", sig := { parameters := [], returnType := none }, accessFlags := 1, code := some k0c0 }
/-- java/lang/Object -/
def k0 : Class := { plain "java/lang/Object" none with
  accessFlags := 33
  interfaces := #[]
  cf := some (fileOf pool0 8 #[] #[{ accessFlags := 1, nameIndex := 5, descriptorIndex := 6, attributes := #[] }] 33 0 #[] #[])
  fields := #[]
  methods := #[k0m0]
  instanceTypes := #[]
  staticTypes := #[]
  resolved := Array.replicate 124 none
  statics := none }

def pool1 : Array CpInfo := pool [(2, .class_ 4), (1, u "java/lang/Object"), (0, u "<init>"), (0, u "()V"), (0, .double 4472074429978902528), (1, .double 9133300044307365888), (1, .double 8660422083433463808), (1, .double 103582791429521408), (1, .methodref 16 17), (0, .class_ 18), (0, .nameAndType 19 20), (0, u "java/lang/Math"), (0, u "min"), (0, u "(II)I"), (0, .methodref 16 22), (0, .nameAndType 23 20), (0, u "max"), (0, .methodref 25 26), (0, .class_ 27), (0, .nameAndType 28 29), (0, u "com/example/intervallum/intervallum/robust/ValueBoundsMidpointPinLaw"), (0, u "pick"), (0, u "(IZ)D"), (0, .class_ 31), (0, u "com/example/intervallum/intervallum/robust/ValueBounds"), (0, .methodref 30 33), (0, .nameAndType 5 34), (0, u "(DD)V"), (0, .methodref 30 36), (0, .nameAndType 37 38), (0, u "midpoint"), (0, u "()D"), (3, u "law"), (0, u "(III)Z")] 2

def k1m0 : Method := { name := "<init>", desc := "()V", sig := { parameters := [], returnType := none }, accessFlags := 1, code := none }
def k1c1 : Code := { maxStack := 2, maxLocals := 2, code := method_2_code, exceptionTable := #[], attributes := #[] }
def k1m1 : Method := { name := "pick", desc := "(IZ)D", sig := { parameters := [.int, .boolean], returnType := some .double }, accessFlags := 10, code := some k1c1 }
def k1c2 : Code := { maxStack := 6, maxLocals := 17, code := code, exceptionTable := #[], attributes := #[] }
def k1m2 : Method := { name := "law", desc := "(III)Z", sig := { parameters := [.int, .int, .int], returnType := some .boolean }, accessFlags := 9, code := some k1c2 }
/-- com/example/intervallum/intervallum/robust/ValueBoundsMidpointPinLaw -/
def k1 : Class := { plain "com/example/intervallum/intervallum/robust/ValueBoundsMidpointPinLaw" (some 0) with
  accessFlags := 49
  interfaces := #[]
  cf := some (fileOf pool1 25 #[] #[{ accessFlags := 1, nameIndex := 5, descriptorIndex := 6, attributes := #[] }, { accessFlags := 10, nameIndex := 28, descriptorIndex := 29, attributes := #[] }, { accessFlags := 9, nameIndex := 42, descriptorIndex := 43, attributes := #[] }] 49 2 #[] #[])
  fields := #[]
  methods := #[k1m0, k1m1, k1m2]
  instanceTypes := #[]
  staticTypes := #[]
  resolved := Array.replicate 46 none
  statics := none }

def pool2 : Array CpInfo := pool [(1, .class_ 2), (0, u "java/lang/Math"), (1, .class_ 6), (1, u "java/lang/Object"), (0, u "<init>"), (0, u "()V"), (89, .class_ 100), (1, u "java/lang/Math$RandomNumberGeneratorHolder"), (71, u "negativeZeroFloatBits"), (0, u "J"), (2, u "negativeZeroDoubleBits"), (21, u "max"), (2, u "min"), (43, u "$assertionsDisabled"), (0, u "Z"), (88, u "(II)I"), (2, u "twoToTheDoubleScaleDown"), (0, u "D"), (4, u "twoToTheDoubleScaleUp"), (9, u "E"), (3, u "PI"), (2, u "TAU"), (2, u "DEGREES_TO_RADIANS"), (0, u "RADIANS_TO_DEGREES")] 94

def k2m0 : Method := { name := "<init>", desc := "()V", sig := { parameters := [], returnType := none }, accessFlags := 2, code := none }
def k2c1 : Code := { maxStack := 2, maxLocals := 2, code := jdk_29_method_65_code, exceptionTable := #[], attributes := #[] }
def k2m1 : Method := { name := "max", desc := "(II)I", sig := { parameters := [.int, .int], returnType := some .int }, accessFlags := 9, code := some k2c1 }
def k2c2 : Code := { maxStack := 2, maxLocals := 2, code := jdk_29_method_69_code, exceptionTable := #[], attributes := #[] }
def k2m2 : Method := { name := "min", desc := "(II)I", sig := { parameters := [.int, .int], returnType := some .int }, accessFlags := 9, code := some k2c2 }
/-- java/lang/Math -/
def k2 : Class := { plain "java/lang/Math" (some 0) with
  accessFlags := 49
  interfaces := #[]
  cf := some (fileOf pool2 1 #[.nestMembers #[98]] #[{ accessFlags := 2, nameIndex := 7, descriptorIndex := 8, attributes := #[] }, { accessFlags := 9, nameIndex := 198, descriptorIndex := 335, attributes := #[] }, { accessFlags := 9, nameIndex := 201, descriptorIndex := 335, attributes := #[] }] 49 4 #[] #[{ accessFlags := 25, nameIndex := 354, descriptorIndex := 339, attributes := #[] }, { accessFlags := 25, nameIndex := 358, descriptorIndex := 339, attributes := #[] }, { accessFlags := 25, nameIndex := 361, descriptorIndex := 339, attributes := #[] }, { accessFlags := 26, nameIndex := 364, descriptorIndex := 339, attributes := #[] }, { accessFlags := 26, nameIndex := 365, descriptorIndex := 339, attributes := #[] }, { accessFlags := 26, nameIndex := 172, descriptorIndex := 173, attributes := #[] }, { accessFlags := 26, nameIndex := 176, descriptorIndex := 173, attributes := #[] }, { accessFlags := 8, nameIndex := 344, descriptorIndex := 339, attributes := #[] }, { accessFlags := 8, nameIndex := 338, descriptorIndex := 339, attributes := #[] }, { accessFlags := 4120, nameIndex := 245, descriptorIndex := 246, attributes := #[] }])
  fields := #[{ name := "E", type := .double, accessFlags := 25, slot := 0, constantValue := 0 }, { name := "PI", type := .double, accessFlags := 25, slot := 1, constantValue := 0 }, { name := "TAU", type := .double, accessFlags := 25, slot := 2, constantValue := 0 }, { name := "DEGREES_TO_RADIANS", type := .double, accessFlags := 26, slot := 3, constantValue := 0 }, { name := "RADIANS_TO_DEGREES", type := .double, accessFlags := 26, slot := 4, constantValue := 0 }, { name := "negativeZeroFloatBits", type := .long, accessFlags := 26, slot := 5, constantValue := 0 }, { name := "negativeZeroDoubleBits", type := .long, accessFlags := 26, slot := 6, constantValue := 0 }, { name := "twoToTheDoubleScaleUp", type := .double, accessFlags := 8, slot := 7, constantValue := 0 }, { name := "twoToTheDoubleScaleDown", type := .double, accessFlags := 8, slot := 8, constantValue := 0 }, { name := "$assertionsDisabled", type := .boolean, accessFlags := 4120, slot := 9, constantValue := 0 }]
  methods := #[k2m0, k2m1, k2m2]
  instanceTypes := #[]
  staticTypes := #[.double, .double, .double, .double, .double, .long, .long, .double, .double, .boolean]
  resolved := Array.replicate 460 none
  statics := none }

def pool3 : Array CpInfo := pool [(1, .methodref 2 3), (0, .class_ 4), (0, .nameAndType 5 6), (0, u "java/lang/Object"), (0, u "<init>"), (0, u "()V"), (0, .class_ 8), (0, u "java/lang/Record")] 13

def k3c0 : Code := { maxStack := 1, maxLocals := 1, code := jdk_30_method_1_code, exceptionTable := #[], attributes := #[] }
def k3m0 : Method := { name := "<init>", desc := "()V", sig := { parameters := [], returnType := none }, accessFlags := 4, code := some k3c0 }
/-- java/lang/Record -/
def k3 : Class := { plain "java/lang/Record" (some 0) with
  accessFlags := 1057
  interfaces := #[]
  cf := some (fileOf pool3 7 #[] #[{ accessFlags := 4, nameIndex := 5, descriptorIndex := 6, attributes := #[] }] 1057 2 #[] #[])
  fields := #[]
  methods := #[k3m0]
  instanceTypes := #[]
  staticTypes := #[]
  resolved := Array.replicate 22 none
  statics := none }

def pool4 : Array CpInfo := pool [(1, .methodref 2 3), (0, .class_ 4), (0, .nameAndType 5 6), (0, u "java/lang/Record"), (0, u "<init>"), (0, u "()V"), (0, .fieldref 8 9), (0, .class_ 10), (0, .nameAndType 11 12), (0, u "com/example/intervallum/intervallum/robust/ValueBounds"), (0, u "lower"), (0, u "D"), (0, .fieldref 8 14), (0, .nameAndType 15 12), (0, u "upper"), (0, .double 4611686018427387904), (19, u "(DD)V"), (3, u "midpoint"), (0, u "()D")] 27

def k4c0 : Code := { maxStack := 3, maxLocals := 5, code := prog_55_method_1_code, exceptionTable := #[], attributes := #[] }
def k4m0 : Method := { name := "<init>", desc := "(DD)V", sig := { parameters := [.double, .double], returnType := none }, accessFlags := 0, code := some k4c0 }
def k4c1 : Code := { maxStack := 4, maxLocals := 1, code := prog_55_method_2_code, exceptionTable := #[], attributes := #[] }
def k4m1 : Method := { name := "midpoint", desc := "()D", sig := { parameters := [], returnType := some .double }, accessFlags := 0, code := some k4c1 }
/-- com/example/intervallum/intervallum/robust/ValueBounds -/
def k4 : Class := { plain "com/example/intervallum/intervallum/robust/ValueBounds" (some 3) with
  accessFlags := 48
  interfaces := #[]
  cf := some (fileOf pool4 8 #[] #[{ accessFlags := 0, nameIndex := 5, descriptorIndex := 36, attributes := #[] }, { accessFlags := 0, nameIndex := 40, descriptorIndex := 41, attributes := #[] }] 48 2 #[] #[{ accessFlags := 18, nameIndex := 11, descriptorIndex := 12, attributes := #[] }, { accessFlags := 18, nameIndex := 15, descriptorIndex := 12, attributes := #[] }])
  fields := #[{ name := "lower", type := .double, accessFlags := 18, slot := 0, constantValue := 0 }, { name := "upper", type := .double, accessFlags := 18, slot := 1, constantValue := 0 }]
  methods := #[k4m0, k4m1]
  instanceTypes := #[.double, .double]
  staticTypes := #[]
  resolved := Array.replicate 69 none
  statics := none }

def pool5 : Array CpInfo := pool [(1, u "java/lang/Cloneable"), (0, .class_ 1), (0, u "java/lang/Object"), (0, .class_ 3)] 3

/-- java/lang/Cloneable -/
def k5 : Class := { plain "java/lang/Cloneable" (some 0) with
  accessFlags := 1537
  interfaces := #[]
  cf := some (fileOf pool5 2 #[] #[] 1537 4 #[] #[])
  fields := #[]
  methods := #[]
  instanceTypes := #[]
  staticTypes := #[]
  resolved := Array.replicate 8 none
  statics := none }

def pool6 : Array CpInfo := pool [(1, u "java/io/Serializable"), (0, .class_ 1), (0, u "java/lang/Object"), (0, .class_ 3)] 3

/-- java/io/Serializable -/
def k6 : Class := { plain "java/io/Serializable" (some 0) with
  accessFlags := 1537
  interfaces := #[]
  cf := some (fileOf pool6 2 #[] #[] 1537 4 #[] #[])
  fields := #[]
  methods := #[]
  instanceTypes := #[]
  staticTypes := #[]
  resolved := Array.replicate 8 none
  statics := none }

/-- the primitive byte -/
def k7 : Class := { plain "byte" none with kind := .primitive 'B', accessFlags := 0x411 }
/-- [B -/
def k8 : Class := { plain "[B" (some 0) with kind := .array 7 .byte, interfaces := #[5, 6], accessFlags := 1041 }

/-- the primitive int -/
def k9 : Class := { plain "int" none with kind := .primitive 'I', accessFlags := 0x411 }
/-- [I -/
def k10 : Class := { plain "[I" (some 0) with kind := .array 9 .int, interfaces := #[5, 6], accessFlags := 1041 }

def heap : Heap := #[]
def classes : Array Class := #[k0, k1, k2, k3, k4, k5, k6, k7, k8, k9, k10]
def interned : List (Array UInt16 × Addr) := []
def slotsUsed : Nat := 0
def theMethod : MethodId := ⟨1, 2⟩
def args0 : Array Value := #[.int 3, .int 5, .int 1]
def aboutOver (below : List Frame) : State where
  vm := { classes := classes, interned := interned.toArray }
  heap := heap
  slotsUsed := slotsUsed
  threads := #[{ frames := .invoking theMethod args0 :: below }]
def below0 : List Frame := [.native { method := ⟨0, 0⟩, args := #[] }]
def about1 : State := aboutOver below0
def p0 : Program := .bare "" "" ""
def e0 : Env := launch0.env 0 0 0
theorem w_frames : about1.frames = Frame.invoking theMethod args0 :: below0 := rfl
set_option maxRecDepth 65536 in
theorem w_args : argsFit about1.vm theMethod args0 = true := by decide +kernel
set_option maxRecDepth 65536 in
theorem w_heap : heapFits about1 = true := by decide +kernel
set_option maxRecDepth 65536 in
theorem w_runnable : about1.curStatus? = some .runnable := by decide +kernel
set_option maxRecDepth 65536 in
theorem w_alone : about1.alone = true := by decide +kernel
set_option maxRecDepth 65536 in
theorem w_named : about1.methodNamed? x = some theMethod := by decide +kernel
set_option maxRecDepth 65536 in
theorem w_hears : about1.hears theMethod below0 = true := by decide +kernel
set_option maxRecDepth 65536 in
theorem w_ripe : about1.ripe theMethod args0 below0 = true := by decide +kernel
theorem w_running : about1.status = .running := rfl
set_option maxRecDepth 65536 in
theorem w_room : about1.hasRoom e0.platform room_1 = true :=
  launch0.hasRoom_least _ room_1 (by decide +kernel) (by decide +kernel) (by decide +kernel) (by decide +kernel) (by decide +kernel) (by decide +kernel)
theorem allAtoms_all (ts : List Jvm.Cond) (a : Array Jvm.Value) (st : Jvm.State) : (allAtoms ts).before a st = ts.all (fun c => c.before a st) := by
  induction ts with
  | nil => rfl
  | cons c t ih =>
    show (Jvm.Cond.and c (allAtoms t)).before a st = _
    rw [Jvm.Cond.before_and, ih, List.all_cons]
def words1 : List Jvm.Cond := Jvm.Cond.code x code maxLocals ret :: tables_1
/-- a 'code' word, met by the world's own term for the bytes: nothing is compared byte by byte -/
theorem code_word {y : MethodName} {bytes : ByteArray} {mx : Nat} {rt : Option FieldType} {a : Array Value} {s : State} {m : MethodId} {meth : Method} {c : Code} (h1 : s.methodNamed? y = some m) (h2 : s.vm.method? m = some meth) (h3 : meth.code = some c) (h4 : c.code = bytes)
    (h5 : (c.maxLocals == mx && c.exceptionTable.isEmpty && decide (c.maxStack ≤ mostOperands) && decide (meth.sig.returnType = rt) && !meth.locks && decide (parseMethodDescriptor y.desc = some meth.sig)) = true) : (Jvm.Cond.code y bytes mx rt).before a s = true := by
  simp only [Bool.and_eq_true, beq_iff_eq, Bool.not_eq_true', decide_eq_true_eq] at h5
  obtain ⟨⟨⟨⟨⟨g1, g2⟩, g3⟩, g4⟩, g5⟩, g6⟩ := h5
  simp [Cond.before, Cond.holds, Cond.value, h1, h2, h3, h4, g1, g2, g3, g4, g5, g6]
def isCode : Jvm.Cond → Bool
  | .code _ _ _ _ => true
  | _ => false
theorem all_split {L : List Jvm.Cond} {P : Jvm.Cond → Bool} (h1 : L.all (fun c => isCode c || P c) = true) (h2 : ∀ c ∈ L.filter isCode, P c = true) : L.all P = true := by
  refine List.all_eq_true.mpr fun c hc => ?_
  have h := List.all_eq_true.mp h1 c hc
  rcases Bool.eq_false_or_eq_true (isCode c) with hi | hi
  · exact h2 c (List.mem_filter.mpr ⟨hc, hi⟩)
  · simpa [hi] using h
set_option maxRecDepth 65536 in
theorem w_c0 : (Jvm.Cond.code x code maxLocals ret).before args0 about1 = true := code_word (m := ⟨1, 2⟩) (meth := k1m2) (c := k1c2) (by decide +kernel) rfl rfl rfl (by decide +kernel)
set_option maxRecDepth 65536 in
theorem w_c1 : (Jvm.Cond.code ({ cls := "java/lang/Math", name := "min", desc := "(II)I" } : Jvm.MethodName) jdk_29_method_69_code (2 : Nat) (Option.some Jvm.ClassFile.FieldType.int)).before args0 about1 = true := code_word (m := ⟨2, 2⟩) (meth := k2m2) (c := k2c2) (by decide +kernel) rfl rfl rfl (by decide +kernel)
set_option maxRecDepth 65536 in
theorem w_c2 : (Jvm.Cond.code ({ cls := "java/lang/Math", name := "max", desc := "(II)I" } : Jvm.MethodName) jdk_29_method_65_code (2 : Nat) (Option.some Jvm.ClassFile.FieldType.int)).before args0 about1 = true := code_word (m := ⟨2, 1⟩) (meth := k2m1) (c := k2c1) (by decide +kernel) rfl rfl rfl (by decide +kernel)
set_option maxRecDepth 65536 in
theorem w_c3 : (Jvm.Cond.code ({ cls := "com/example/intervallum/intervallum/robust/ValueBoundsMidpointPinLaw", name := "pick", desc := "(IZ)D" } : Jvm.MethodName) method_2_code (2 : Nat) (Option.some Jvm.ClassFile.FieldType.double)).before args0 about1 = true := code_word (m := ⟨1, 1⟩) (meth := k1m1) (c := k1c1) (by decide +kernel) rfl rfl rfl (by decide +kernel)
set_option maxRecDepth 65536 in
theorem w_c4 : (Jvm.Cond.code ({ cls := "com/example/intervallum/intervallum/robust/ValueBounds", name := "<init>", desc := "(DD)V" } : Jvm.MethodName) prog_55_method_1_code (5 : Nat) (Option.none : Option Jvm.ClassFile.FieldType)).before args0 about1 = true := code_word (m := ⟨4, 0⟩) (meth := k4m0) (c := k4c0) (by decide +kernel) rfl rfl rfl (by decide +kernel)
set_option maxRecDepth 65536 in
theorem w_c5 : (Jvm.Cond.code ({ cls := "java/lang/Record", name := "<init>", desc := "()V" } : Jvm.MethodName) jdk_30_method_1_code (1 : Nat) (Option.none : Option Jvm.ClassFile.FieldType)).before args0 about1 = true := code_word (m := ⟨3, 0⟩) (meth := k3m0) (c := k3c0) (by decide +kernel) rfl rfl rfl (by decide +kernel)
set_option maxRecDepth 65536 in
theorem w_c6 : (Jvm.Cond.code ({ cls := "java/lang/Object", name := "<init>", desc := "()V" } : Jvm.MethodName) object_method_1_code (1 : Nat) (Option.none : Option Jvm.ClassFile.FieldType)).before args0 about1 = true := code_word (m := ⟨0, 0⟩) (meth := k0m0) (c := k0c0) (by decide +kernel) rfl rfl rfl (by decide +kernel)
set_option maxRecDepth 65536 in
theorem w_c7 : (Jvm.Cond.code ({ cls := "com/example/intervallum/intervallum/robust/ValueBounds", name := "midpoint", desc := "()D" } : Jvm.MethodName) prog_55_method_2_code (1 : Nat) (Option.some Jvm.ClassFile.FieldType.double)).before args0 about1 = true := code_word (m := ⟨4, 1⟩) (meth := k4m1) (c := k4c1) (by decide +kernel) rfl rfl rfl (by decide +kernel)
def codes1 : List Jvm.Cond := [Jvm.Cond.code x code maxLocals ret, Jvm.Cond.code ({ cls := "java/lang/Math", name := "min", desc := "(II)I" } : Jvm.MethodName) jdk_29_method_69_code (2 : Nat) (Option.some Jvm.ClassFile.FieldType.int), Jvm.Cond.code ({ cls := "java/lang/Math", name := "max", desc := "(II)I" } : Jvm.MethodName) jdk_29_method_65_code (2 : Nat) (Option.some Jvm.ClassFile.FieldType.int), Jvm.Cond.code ({ cls := "com/example/intervallum/intervallum/robust/ValueBoundsMidpointPinLaw", name := "pick", desc := "(IZ)D" } : Jvm.MethodName) method_2_code (2 : Nat) (Option.some Jvm.ClassFile.FieldType.double), Jvm.Cond.code ({ cls := "com/example/intervallum/intervallum/robust/ValueBounds", name := "<init>", desc := "(DD)V" } : Jvm.MethodName) prog_55_method_1_code (5 : Nat) (Option.none : Option Jvm.ClassFile.FieldType), Jvm.Cond.code ({ cls := "java/lang/Record", name := "<init>", desc := "()V" } : Jvm.MethodName) jdk_30_method_1_code (1 : Nat) (Option.none : Option Jvm.ClassFile.FieldType), Jvm.Cond.code ({ cls := "java/lang/Object", name := "<init>", desc := "()V" } : Jvm.MethodName) object_method_1_code (1 : Nat) (Option.none : Option Jvm.ClassFile.FieldType), Jvm.Cond.code ({ cls := "com/example/intervallum/intervallum/robust/ValueBounds", name := "midpoint", desc := "()D" } : Jvm.MethodName) prog_55_method_2_code (1 : Nat) (Option.some Jvm.ClassFile.FieldType.double)]
set_option maxRecDepth 65536 in
theorem codes_eq : words1.filter isCode = codes1 := rfl
theorem w_codes : ∀ c ∈ words1.filter isCode, c.before args0 about1 = true := by
  rw [codes_eq]
  intro c hc
  simp only [codes1, List.mem_cons, List.not_mem_nil, or_false] at hc
  rcases hc with rfl | rfl | rfl | rfl | rfl | rfl | rfl | rfl
  · exact w_c0
  · exact w_c1
  · exact w_c2
  · exact w_c3
  · exact w_c4
  · exact w_c5
  · exact w_c6
  · exact w_c7
set_option maxRecDepth 65536 in
theorem w_t1 : (words1.take 24).all (fun c => isCode c || c.before args0 about1) = true := by decide +kernel
set_option maxRecDepth 65536 in
theorem w_t2 : (words1.drop 24).all (fun c => isCode c || c.before args0 about1) = true := by decide +kernel
theorem w_tables : (allAtoms (Jvm.Cond.code x code maxLocals ret :: tables_1)).before args0 about1 = true := by
  rw [allAtoms_all]
  show words1.all (fun c => c.before args0 about1) = true
  refine all_split ?_ w_codes
  rw [← List.take_append_drop 24 words1, List.all_append, w_t1, w_t2]
  rfl
set_option maxRecDepth 65536 in
theorem w_case : (Jvm.Cond.and given_1 narrow_1).before args0 about1 = true := by decide +kernel
theorem w_applies : (headSpec (Jvm.Cond.code x code maxLocals ret :: tables_1) room_1).applies x e0.platform about1 = true :=
  (Spec.applies_iff w_frames).mpr ⟨w_running, w_runnable, w_alone, w_named, w_hears, w_ripe, w_room, w_tables⟩
theorem atStart : AtStart classFile x code maxLocals ret World_1 tables_1 room_1 Calls_1 rest_1 Pre_1 launch0 p0 e0 about1 theMethod args0 below0 :=
  ⟨lists_1, trivial, launch0.admits_env _ _ _, launch0.least_env, fairChoices_fair.cas, fairChoices_fair.clock, w_frames, w_args, w_heap, w_applies, trivial, trivial, w_case⟩
end start1
theorem witness_1 : WitnessClaimed_1 := ⟨start1.p0, start1.e0, start1.about1, start1.theMethod, start1.args0, start1.below0, start1.atStart⟩
end Jvm.Pilot.@@N@@
