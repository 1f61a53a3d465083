import JvmDerived
import JvmDerived.Pilot.@@N@@Statement
import JvmDerived.Pilot.@@N@@Code
set_option linter.unusedVariables false
set_option linter.unusedSimpArgs false
namespace Jvm.Pilot.@@N@@
open Jvm Jvm.ClassFile Sem Op Lib Jvm.Free Jvm.Stand Jvm.LawKit Jvm.RoadKit Bundle Jvm.Pilot.@@N@@.Jvm.D
def own_Run (p : Program) (e : Env) (below : List Frame) (s : State) (Q : Option Value → Heap → List Loc → Prop) (ck sk : Nat) (U : State) : Prop :=
  ∃ s₂ o, Steps p.tables e below U s₂ ∧ s₂.status = .running ∧ Ended s₂ below o ∧ ∃ v L, o = .returned v ∧ Q v s₂.heap L ∧ FrameEnd s o s₂ L ck sk
section OwnLayer
variable {p : Program} {l : Launch} {e : Env} {R : Room} {s : State} {m : MethodId} {args : Array Value} {below : List Frame} {meth : Method} {c : Code} {T : State} {locs : List Loc} {cells slots : Nat} {Z : State} {a0 : Array Value} {h : Heap} {Q : Option Value → Heap → List Loc → Prop} {ck sk : Nat}
theorem own_st {U U' : State} (hh : ∀ t, Steps p.tables e below U' t → Steps p.tables e below U t) (K : own_Run p e below s Q ck sk U') : own_Run p e below s Q ck sk U := by
  obtain ⟨s2, o, h1, r⟩ := K
  exact ⟨s2, o, hh _ h1, r⟩
theorem own_topI {pc : Nat} {Ls : Array Slot} {st : List Value} {v v' : Int32} (hv : v = v') (K : own_Run p e below s Q ck sk (T.setTop (mkF m pc Ls (.int v' :: st)))) : own_Run p e below s Q ck sk (T.setTop (mkF m pc Ls (.int v :: st))) := hv ▸ K
theorem own_topJ {pc : Nat} {Ls : Array Slot} {st : List Value} {v v' : Int64} (hv : v = v') (K : own_Run p e below s Q ck sk (T.setTop (mkF m pc Ls (.long v' :: st)))) : own_Run p e below s Q ck sk (T.setTop (mkF m pc Ls (.long v :: st))) := hv ▸ K
theorem own_topD {pc : Nat} {Ls : Array Slot} {st : List Value} {v v' : UInt64} (hv : v = v') (K : own_Run p e below s Q ck sk (T.setTop (mkF m pc Ls (.double v' :: st)))) : own_Run p e below s Q ck sk (T.setTop (mkF m pc Ls (.double v :: st))) := hv ▸ K
theorem own_ret (X : Stand p l e R s m args below meth c T locs cells slots) (hx : p.tables.exec = Jvm.exec) (hlk : meth.locks = false) {pc : Nat} {Ls : Array Slot} {w : Value} {t : FieldType} {i : Instr} {rest : List Value} (hret : meth.sig.returnType = some t) (hn : narrow t w = w)
    (hi : (i = .ireturn ∧ (t = .int ∨ t = .boolean ∨ t = .byte ∨ t = .char ∨ t = .short) ∧ ∃ z, w = .int z) ∨ (i = .lreturn ∧ t = .long ∧ ∃ z, w = .long z) ∨ (i = .dreturn ∧ t = .double ∧ ∃ z, w = .double z) ∨ (i = .freturn ∧ t = .float ∧ ∃ z, w = .float z) ∨ (i = .areturn ∧ t.isReference = true ∧ w.isRef = true))
    (hd : decode c.code pc = .ok (i, 1)) (hc : cells ≤ ck) (hs : slots ≤ sk) (hq : Q (some w) T.heap locs) : own_Run p e below s Q ck sk (T.setTop (mkF m pc Ls (w :: rest))) := by
  obtain ⟨fs, hr, hrun, hended, hW, hsame⟩ := X.leave (v := some w) (fun q => by rw [hret] at q; cases q) hlk
  exact ⟨_, _, retOut X hx hret hn hi hd hr, hrun, hended, _, _, rfl, hq, ⟨_, rfl⟩, hW, hsame.mono hc hs⟩
theorem own_retV (X : Stand p l e R s m args below meth c T locs cells slots) (hx : p.tables.exec = Jvm.exec) (hlk : meth.locks = false) {pc : Nat} {Ls : Array Slot} (hret : meth.sig.returnType = none)
    (hd : decode c.code pc = .ok (.return_, 1)) (hc : cells ≤ ck) (hs : slots ≤ sk) (hq : Q none T.heap locs) : own_Run p e below s Q ck sk (T.setTop (mkF m pc Ls [])) := by
  obtain ⟨fs, hr, hrun, hended, hW, hsame⟩ := X.leave (v := none) (fun _ => rfl) hlk
  exact ⟨_, _, X.returnOut hx hret hd hr, hrun, hended, _, _, rfl, hq, ⟨_, rfl⟩, hW, hsame.mono hc hs⟩
theorem own_body {y : MethodName} {bytes : ByteArray} {maxL : Nat} {ret : Option FieldType} {ws : List Jvm.Cond} {rm : Room} {as' : Array Value} {h0 : Heap} (hpl : plainFor y = true)
    (hbody : ∀ (p : Program) (e : Env) (s : State) (m : MethodId) (below : List Frame) (meth : Method) (c : Code) (s₁ : State), p.tables.exec = Jvm.exec → c.code = bytes → c.maxLocals = maxL → Z.Warmed39 s.vm → s.vm.findClass y.cls = some m.cls → meth.name = y.name → meth.sig.returnType = ret → meth.locks = false → Stand p l e rm s m as' below meth c s₁ [] 0 0 → s₁.heap = h0 → own_Run p e below s Q rm.cells rm.slots (s₁.setTop (entryFrame m as' maxL))) :
    MetFree l y (head1 (Jvm.Cond.code y bytes maxL ret :: ws) rm) (fun a U => a = as' ∧ Z.Warmed39 U.vm ∧ U.heap = h0) (fun _ _ _ _ _ => True) (fun _ U o U' => ∃ v L, o = .returned v ∧ Q v U'.heap L ∧ FrameEnd U o U' L rm.cells rm.slots) := by
  refine MetFree.of_bodySF hpl hisR ?_
  intro p e s m args below meth c s₁ Bd hml0 hP hK
  obtain ⟨rfl, hZ, hh⟩ := hP
  exact hbody p e s m below meth c s₁ Bd.exec Bd.bytes hml0 hZ (findClass_of_methodNamed Bd.named) (name_of_methodNamed Bd.named Bd.method).1 Bd.returns Bd.notSynchronized (Stand.of_body Bd) (by rw [← hh, Bd.state]; rfl)
theorem own_callI (X : Stand p l e R s m args below meth c T locs cells slots) (hx : p.tables.exec = Jvm.exec) (hZ : Z.Warmed39 s.vm) {own : String} {idx : Nat} {y : MethodName} (hy1 : y.name = "<init>") (hown : s.vm.findClass own = some m.cls) (w1 : (Jvm.Cond.methodLink own idx y).before a0 Z = true) (w2 : (Jvm.Cond.instanceMethod y).before a0 Z = true)
    {bytes : ByteArray} {maxL : Nat} (w3 : (Jvm.Cond.code y bytes maxL none).before a0 Z = true) (wz : (Jvm.Cond.initialized y.cls).before a0 Z = true) (hy : y.cls ≠ "java/lang/invoke/MethodHandle" ∧ y.cls ≠ "java/lang/invoke/VarHandle") (eT : T.heap = h) {rm : Room} {Qc : Option Value → Heap → List Loc → Prop} {a : Addr} {argsL rest : List Value}
    (hM : MetFree l y (head1 [Jvm.Cond.code y bytes maxL none] rm) (fun b U => b = (Value.ref a :: argsL).toArray ∧ Z.Warmed39 U.vm ∧ U.heap = h) (fun _ _ _ _ _ => True) (fun _ U o U' => ∃ v L, o = .returned v ∧ Qc v U'.heap L ∧ FrameEnd U o U' L rm.cells rm.slots))
    {W : Nat} (hf : rm.frames + 1 ≤ R.frames) (hl : W + (maxL + 11) + rm.locals ≤ R.locals) {pc : Nat} {Ls : Array Slot} {st : List Value} (hsize : Ls.size = c.maxLocals) (hlen : ∀ sig, parseMethodDescriptor y.desc = some sig → argsL.length = sig.parameters.length) (hst : st = argsL.reverse ++ .ref a :: rest) (hW : (rest.map fun v => v.category).sum ≤ W) (hd : decode c.code pc = .ok (.invokespecial idx, 3)) (hc : cells + rm.cells ≤ R.cells) (hs : slots + rm.slots ≤ R.slots)
    (K : ∀ (T' : State) (v : Option Value) (L : List Loc), Stand p l e R s m args below meth c T' (locs ++ L) (cells + rm.cells) (slots + rm.slots) → Qc v T'.heap L → own_Run p e below s Q ck sk (T'.setTop (mkF m (pc + 3) Ls (v.toList ++ rest)))) :
    own_Run p e below s Q ck sk (T.setTop (mkF m pc Ls st)) := by
  obtain ⟨v, _, ⟨T', L', k', n'⟩, -, X', ⟨Lc, hQ, hl', hk', hn'⟩, st'⟩ := X.specialBack hx (y := y) hy1 hown (mvT hZ w1) (mvT hZ w2) (mvT hZ w3) hy (backOf (W := W) hM hZ w3 wz hf hl) (g := mkF m pc Ls st) rfl hsize (Steps.refl _) (a := a) (argsL := argsL) (rest := rest) hlen hst (by show 2 * 0 + _ ≤ _; omega) hd (fun _ _ => ⟨rfl, eT, hc, hs⟩)
  dsimp only [Pt.U, Pt.locs, Pt.cells, Pt.slots] at X' hl' hk' hn' st' hQ
  subst hl' hk' hn'
  exact own_st (fun t k => st'.trans k) (K T' v Lc X' hQ)
theorem own_callV (X : Stand p l e R s m args below meth c T locs cells slots) (hx : p.tables.exec = Jvm.exec) (hZ : Z.Warmed39 s.vm) {own C : String} {idx : Nat} {y : MethodName} (hown : s.vm.findClass own = some m.cls) (w1 : (Jvm.Cond.methodLink own idx y).before a0 Z = true) (w2 : (Jvm.Cond.declares y).before a0 Z = true) (w3 : (Jvm.Cond.selects C y y).before a0 Z = true) (w4 : (Jvm.Cond.instanceMethod y).before a0 Z = true)
    {bytes : ByteArray} {maxL : Nat} {ret : Option FieldType} (w5 : (Jvm.Cond.code y bytes maxL ret).before a0 Z = true) (wz : (Jvm.Cond.initialized y.cls).before a0 Z = true) (hy : y.cls ≠ "java/lang/invoke/MethodHandle" ∧ y.cls ≠ "java/lang/invoke/VarHandle") (eT : T.heap = h) {a : Addr} (E : Exa Z h a C) {rm : Room} {Qc : Option Value → Heap → List Loc → Prop} {argsL rest : List Value}
    (hM : MetFree l y (head1 [Jvm.Cond.code y bytes maxL ret] rm) (fun b U => b = (Value.ref a :: argsL).toArray ∧ Z.Warmed39 U.vm ∧ U.heap = h) (fun _ _ _ _ _ => True) (fun _ U o U' => ∃ v L, o = .returned v ∧ Qc v U'.heap L ∧ FrameEnd U o U' L rm.cells rm.slots))
    {W : Nat} (hf : rm.frames + 1 ≤ R.frames) (hl : W + (maxL + 11) + rm.locals ≤ R.locals) {pc : Nat} {Ls : Array Slot} {st : List Value} (hsize : Ls.size = c.maxLocals) (hlen : ∀ sig, parseMethodDescriptor y.desc = some sig → argsL.length = sig.parameters.length) (hst : st = argsL.reverse ++ .ref a :: rest) (hW : (rest.map fun v => v.category).sum ≤ W) (hd : decode c.code pc = .ok (.invokevirtual idx, 3)) (hc : cells + rm.cells ≤ R.cells) (hs : slots + rm.slots ≤ R.slots)
    (K : ∀ (T' : State) (v : Option Value) (L : List Loc), Stand p l e R s m args below meth c T' (locs ++ L) (cells + rm.cells) (slots + rm.slots) → Qc v T'.heap L → own_Run p e below s Q ck sk (T'.setTop (mkF m (pc + 3) Ls (v.toList ++ rest)))) :
    own_Run p e below s Q ck sk (T.setTop (mkF m pc Ls st)) := by
  obtain ⟨cq, kq, qa, qb, qc⟩ := isOf hZ eT E
  obtain ⟨v, _, ⟨T', L', k', n'⟩, -, X', ⟨Lc, hQ, hl', hk', hn'⟩, st'⟩ := X.virtualBack hx (y := y) (z := y) hown (mvT hZ w1) (mvT hZ w2) (notFace_of_selects (args := #[]) (mvT hZ w3)) (mvT hZ w3) (mvT hZ w4) hy (backOf (W := W) hM hZ w5 wz hf hl) qa qc (g := mkF m pc Ls st) rfl hsize (Steps.refl _) (argsL := argsL) (rest := rest) hlen hst (by show 2 * 0 + _ ≤ _; omega) hd (fun _ _ => ⟨rfl, eT, hc, hs⟩)
  dsimp only [Pt.U, Pt.locs, Pt.cells, Pt.slots] at X' hl' hk' hn' st' hQ
  subst hl' hk' hn'
  exact own_st (fun t k => st'.trans k) (K T' v Lc X' hQ)
theorem own_callS (X : Stand p l e R s m args below meth c T locs cells slots) (hx : p.tables.exec = Jvm.exec) (hZ : Z.Warmed39 s.vm) {own : String} {idx : Nat} {y : MethodName} (hown : s.vm.findClass own = some m.cls) (w1 : (Jvm.Cond.methodLink own idx y).before a0 Z = true) (w2 : (Jvm.Cond.static y).before a0 Z = true)
    {bytes : ByteArray} {maxL : Nat} {ret : Option FieldType} (w5 : (Jvm.Cond.code y bytes maxL ret).before a0 Z = true) (wz : (Jvm.Cond.initialized y.cls).before a0 Z = true) (hy : y.cls ≠ "java/lang/invoke/MethodHandle" ∧ y.cls ≠ "java/lang/invoke/VarHandle") (eT : T.heap = h) {rm : Room} {Qc : Option Value → Heap → List Loc → Prop} {argsL rest : List Value}
    (hM : MetFree l y (head1 [Jvm.Cond.code y bytes maxL ret] rm) (fun b U => b = argsL.toArray ∧ Z.Warmed39 U.vm ∧ U.heap = h) (fun _ _ _ _ _ => True) (fun _ U o U' => ∃ v L, o = .returned v ∧ Qc v U'.heap L ∧ FrameEnd U o U' L rm.cells rm.slots))
    {W : Nat} (hf : rm.frames + 1 ≤ R.frames) (hl : W + (maxL + 11) + rm.locals ≤ R.locals) {pc : Nat} {Ls : Array Slot} {st : List Value} (hsize : Ls.size = c.maxLocals) (hlen : ∀ sig, parseMethodDescriptor y.desc = some sig → argsL.length = sig.parameters.length) (hst : st = argsL.reverse ++ rest) (hW : (rest.map fun v => v.category).sum ≤ W) (hd : decode c.code pc = .ok (.invokestatic idx, 3)) (hc : cells + rm.cells ≤ R.cells) (hs : slots + rm.slots ≤ R.slots)
    (K : ∀ (T' : State) (v : Option Value) (L : List Loc), Stand p l e R s m args below meth c T' (locs ++ L) (cells + rm.cells) (slots + rm.slots) → Qc v T'.heap L → own_Run p e below s Q ck sk (T'.setTop (mkF m (pc + 3) Ls (v.toList ++ rest)))) :
    own_Run p e below s Q ck sk (T.setTop (mkF m pc Ls st)) := by
  obtain ⟨v, _, ⟨T', L', k', n'⟩, -, X', ⟨Lc, hQ, hl', hk', hn'⟩, st'⟩ := Jvm.LawKit.callS X hx (y := y) hown (mvT hZ w1) (mvT hZ w2) (mvT hZ wz) (mvT hZ w5) hy (backOf (W := W) hM hZ w5 wz hf hl) (g := mkF m pc Ls st) rfl hsize (argsL := argsL) (rest := rest) hlen hst (by show 2 * 0 + _ ≤ _; omega) hd (fun _ _ => ⟨rfl, eT, hc, hs⟩)
  dsimp only [Pt.U, Pt.locs, Pt.cells, Pt.slots] at X' hl' hk' hn' st' hQ
  subst hl' hk' hn'
  exact own_st st' (K T' v Lc X' hQ)
end OwnLayer
section OwnNums
open Jvm.FP Jvm.Free.Fl
theorem own_b53 (x : Int32) : B53 x.toInt64 := by
  have := x.le_toInt; have := x.toInt_lt
  unfold B53; rw [Int32.toInt_toInt64]; omega
theorem own_i64lt (x y : Int32) : x.toInt64 < y.toInt64 ↔ x < y := by
  rw [Int64.lt_iff_toInt_lt, Int32.lt_iff_toInt_lt, Int32.toInt_toInt64, Int32.toInt_toInt64]
theorem own_i64eq (x y : Int32) : x.toInt64 = y.toInt64 ↔ x = y := by
  rw [← Int64.toInt_inj, ← Int32.toInt_inj, Int32.toInt_toInt64, Int32.toInt_toInt64]
theorem own_dcmp_lt (x y : Int32) (o : CmpOp) : cmpValue (FP.dcmp (FP.i2d x) (FP.i2d y)) o < 0 ↔ x < y := by
  rw [i2d_w, i2d_w, dcmpV_w (own_b53 x) (own_b53 y), lw_lt, own_i64lt]
theorem own_dcmp_gt (x y : Int32) (o : CmpOp) : 0 < cmpValue (FP.dcmp (FP.i2d x) (FP.i2d y)) o ↔ y < x := by
  rw [i2d_w, i2d_w, dcmpV_w (own_b53 x) (own_b53 y), lw_gt, own_i64lt]
theorem own_dcmp_eq (x y : Int32) (o : CmpOp) : cmpValue (FP.dcmp (FP.i2d x) (FP.i2d y)) o = 0 ↔ x = y := by
  rw [i2d_w, i2d_w, dcmpV_w (own_b53 x) (own_b53 y), lw_eq, own_i64eq]
theorem own_sub_lt (x y : Int32) : lcmpW (x.toInt64 - y.toInt64) 0 < 0 ↔ x < y := by
  have h := sub64 (own_b53 x) (own_b53 y)
  rw [lw_lt, Int64.lt_iff_toInt_lt, Int32.lt_iff_toInt_lt, h, Int32.toInt_toInt64, Int32.toInt_toInt64]
  have : (0 : Int64).toInt = 0 := rfl
  omega
end OwnNums
section OwnWords
theorem own_eqint {args : Array Value} {first s : State} {o : Option Outcome} {idx : List Nat} {t : Term} {k : Int32} (h : (Jvm.Cond.eq t (.int k)).value args first o s idx = some true) : t.eval args first o idx s = some (.int k) := by
  simp only [Cond.value, Term.eval] at h
  cases ht : t.eval args first o idx s with
  | none => simp [ht] at h
  | some x => cases x <;> simp [ht] at h ⊢; exact h
end OwnWords
section OwnInts
theorem own_prod {a b : Int} {A B : Nat} (ha : a.natAbs ≤ A) (hb : b.natAbs ≤ B) : (a * b).natAbs ≤ A * B := by
  rw [Int.natAbs_mul]; exact Nat.mul_le_mul ha hb
theorem own_shr (x : Int32) : (x >>> ((11 : Int32) &&& 31)).toInt.natAbs ≤ 1048576 := by
  rw [c_ishr x 11 11 (by decide)]
  have := x.le_toInt; have := x.toInt_lt
  show (x.toInt / (2048 : Nat)).natAbs ≤ _
  omega
end OwnInts
section OwnFl
open Jvm.FP Jvm.Free.Fl
abbrev own_zv (a : UInt64) : Int := Core.zval Core.b64 (Core.val64 a)
abbrev own_zm (a : UInt64) : Nat := Core.zmag Core.b64 (Core.val64 a)
theorem own_one : (Core.one64 : Nat) = 2 ^ 1074 := rfl
theorem own_finnn {a : UInt64} (h : Core.DFin a) : NoNaN64 a := (fin64_core.mpr h).noNaN
theorem own_finne {a : UInt64} (h : Core.DFin a) : Core.val64 a ≠ .nan := h.ne_nan
theorem own_addle {a b V : UInt64} (ha : Core.DFin a) (hb : Core.DFin b) (hV : Core.val64 V ≠ .nan) (h : own_zv a + own_zv b ≤ own_zv V) : own_zv (FP.dadd a b) ≤ own_zv V := by
  show Core.zval Core.b64 (Core.val64 (Core.dadd a b)) ≤ _
  rw [Core.val64_dadd]
  exact Core.sum_le Core.good_b64 ha hb (Core.val64_fits a) (Core.val64_fits b) (Core.val64_fits V) hV h
theorem own_addge {a b V : UInt64} (ha : Core.DFin a) (hb : Core.DFin b) (hV : Core.val64 V ≠ .nan) (h : own_zv V ≤ own_zv a + own_zv b) : own_zv V ≤ own_zv (FP.dadd a b) := by
  show _ ≤ Core.zval Core.b64 (Core.val64 (Core.dadd a b))
  rw [Core.val64_dadd]
  exact Core.sum_ge Core.good_b64 ha hb (Core.val64_fits a) (Core.val64_fits b) (Core.val64_fits V) hV h
theorem own_negfin {b : UInt64} (hb : Core.DFin b) : ∃ s c q, Core.negate (Core.val64 b) = .fin s c q := by
  obtain ⟨s, c, q, h⟩ := hb
  exact ⟨!s, c, q, by rw [h]; rfl⟩
theorem own_suble {a b V : UInt64} (ha : Core.DFin a) (hb : Core.DFin b) (hV : Core.val64 V ≠ .nan) (h : own_zv a - own_zv b ≤ own_zv V) : own_zv (FP.dsub a b) ≤ own_zv V := by
  show Core.zval Core.b64 (Core.val64 (Core.dsub a b)) ≤ _
  rw [Core.val64_dsub]
  exact Core.sum_le Core.good_b64 ha (own_negfin hb) (Core.val64_fits a) (Core.negate_fits (Core.val64_fits b)) (Core.val64_fits V) hV (by rw [Core.zval_negate]; exact h)
theorem own_subge {a b V : UInt64} (ha : Core.DFin a) (hb : Core.DFin b) (hV : Core.val64 V ≠ .nan) (h : own_zv V ≤ own_zv a - own_zv b) : own_zv V ≤ own_zv (FP.dsub a b) := by
  show _ ≤ Core.zval Core.b64 (Core.val64 (Core.dsub a b))
  rw [Core.val64_dsub]
  exact Core.sum_ge Core.good_b64 ha (own_negfin hb) (Core.val64_fits a) (Core.negate_fits (Core.val64_fits b)) (Core.val64_fits V) hV (by rw [Core.zval_negate]; exact h)
theorem own_pow2q : (2 ^ (Core.b64.qmin - 2 * Core.b64.qmin).toNat : Nat) = Core.one64 := by
  rw [show Core.b64.qmin - 2 * Core.b64.qmin = -Core.b64.qmin by omega]; exact Core.pow_qmin64
theorem own_mulle {a b V : UInt64} (ha : Core.DFin a) (hb : Core.DFin b) (hV : Core.val64 V ≠ .nan) (h : own_zv a * own_zv b ≤ own_zv V * (Core.one64 : Int)) : own_zv (FP.dmul a b) ≤ own_zv V := by
  obtain ⟨s, c, q, ea⟩ := ha
  obtain ⟨t, d, r, eb⟩ := hb
  have fa := Core.val64_fits a
  have fb := Core.val64_fits b
  rw [ea] at fa; rw [eb] at fb
  obtain ⟨h1, h2, h3⟩ := Core.product_units fa fb
  show Core.zval Core.b64 (Core.val64 (Core.dmul a b)) ≤ _
  rw [Core.val64_dmul, ea, eb, h1]
  refine Core.zval_round_le Core.good_b64 (Core.val64_fits V) hV (e0 := 2 * Core.b64.qmin) (by decide) h2 ?_
  rw [h3, Core.signed_xor, own_pow2q]
  simp only [own_zv, ea, eb] at h
  exact h
theorem own_mulge {a b V : UInt64} (ha : Core.DFin a) (hb : Core.DFin b) (hV : Core.val64 V ≠ .nan) (h : own_zv V * (Core.one64 : Int) ≤ own_zv a * own_zv b) : own_zv V ≤ own_zv (FP.dmul a b) := by
  obtain ⟨s, c, q, ea⟩ := ha
  obtain ⟨t, d, r, eb⟩ := hb
  have fa := Core.val64_fits a
  have fb := Core.val64_fits b
  rw [ea] at fa; rw [eb] at fb
  obtain ⟨h1, h2, h3⟩ := Core.product_units fa fb
  show _ ≤ Core.zval Core.b64 (Core.val64 (Core.dmul a b))
  rw [Core.val64_dmul, ea, eb, h1]
  refine Core.zval_round_ge Core.good_b64 (Core.val64_fits V) hV (e0 := 2 * Core.b64.qmin) (by decide) h2 ?_
  rw [h3, Core.signed_xor, own_pow2q]
  simp only [own_zv, ea, eb] at h
  exact h
theorem own_divdat {a b : UInt64} (ha : Core.DFin a) (hb : Core.DFin b) (hz : own_zm b ≠ 0) : ∃ (s t : Bool) (c d : Nat) (q r : Int), Core.val64 a = .fin s c q ∧ Core.val64 b = .fin t d r ∧ 0 < d ∧ Core.b64.qmin ≤ q ∧ Core.b64.qmin ≤ r ∧ Core.val64 (FP.ddiv a b) = Core.roundRatio Core.b64 (s != t) c d (q - r) := by
  obtain ⟨s, c, q, ea⟩ := ha
  obtain ⟨t, d, r, eb⟩ := hb
  have fa := Core.val64_fits a
  have fb := Core.val64_fits b
  rw [ea] at fa; rw [eb] at fb
  have hd : d ≠ 0 := fun q => hz (by unfold own_zm; rw [eb, q]; show Core.inUnits 0 _ _ = 0; unfold Core.inUnits; exact Nat.zero_mul _)
  refine ⟨s, t, c, d, q, r, ea, eb, Nat.pos_of_ne_zero hd, fa.2.1, fb.2.1, ?_⟩
  show Core.val64 (Core.ddiv a b) = _
  rw [Core.val64_ddiv, ea, eb]
  show (if d = 0 then _ else _) = _
  rw [if_neg hd]
theorem own_divunits {c d : Nat} {q r : Int} (hq : Core.b64.qmin ≤ q) (hr : Core.b64.qmin ≤ r) : 2 * Core.b64.qmin - r ≤ Core.b64.qmin ∧ 2 * Core.b64.qmin - r ≤ q - r ∧ Core.inUnits c (q - r) (2 * Core.b64.qmin - r) = Core.inUnits c q Core.b64.qmin * Core.one64 ∧ ∀ m : Nat, m * 2 ^ (Core.b64.qmin - (2 * Core.b64.qmin - r)).toNat * d = m * Core.inUnits d r Core.b64.qmin := by
  have hqm : Core.b64.qmin = -1074 := Core.qmin_b64
  refine ⟨by omega, by omega, ?_, fun m => ?_⟩
  · unfold Core.inUnits
    rw [show (q - r - (2 * Core.b64.qmin - r)).toNat = (q - Core.b64.qmin).toNat + (-Core.b64.qmin).toNat by omega, Nat.pow_add, Core.pow_qmin64, Nat.mul_assoc]
  · unfold Core.inUnits
    rw [show (Core.b64.qmin - (2 * Core.b64.qmin - r)).toNat = (r - Core.b64.qmin).toNat by omega, Nat.mul_assoc, Nat.mul_comm d]
theorem own_divle {a b V : UInt64} (ha : Core.DFin a) (hb : Core.DFin b) (hz : own_zm b ≠ 0) (hV : Core.val64 V ≠ .nan) (h : own_zm a * Core.one64 ≤ own_zm V * own_zm b) : own_zm (FP.ddiv a b) ≤ own_zm V := by
  obtain ⟨s, t, c, d, q, r, ea, eb, hd, hq, hr, e⟩ := own_divdat ha hb hz
  obtain ⟨u1, u2, u3, u4⟩ := own_divunits (c := c) (d := d) hq hr
  unfold own_zm
  rw [e]
  refine Core.zmag_roundRatio_le Core.good_b64 hd (Core.val64_fits V) hV u1 u2 ?_
  rw [u3, u4]
  simp only [own_zm, ea, eb] at h
  exact h
theorem own_divge {a b V : UInt64} (ha : Core.DFin a) (hb : Core.DFin b) (hz : own_zm b ≠ 0) (h : own_zm V * own_zm b ≤ own_zm a * Core.one64) : own_zm V ≤ own_zm (FP.ddiv a b) := by
  obtain ⟨s, t, c, d, q, r, ea, eb, hd, hq, hr, e⟩ := own_divdat ha hb hz
  obtain ⟨u1, u2, u3, u4⟩ := own_divunits (c := c) (d := d) hq hr
  unfold own_zm
  rw [e]
  refine Core.zmag_roundRatio_ge Core.good_b64 hd (Core.val64_fits V) u1 u2 ?_
  rw [u3, u4]
  simp only [own_zm, ea, eb] at h
  exact h
theorem own_divsgn {a b : UInt64} (ha : Core.DFin a) (hb : Core.DFin b) (hz : own_zm b ≠ 0) : Core.sgn (Core.val64 (FP.ddiv a b)) = (Core.sgn (Core.val64 a) != Core.sgn (Core.val64 b)) ∧ Core.val64 (FP.ddiv a b) ≠ .nan := by
  obtain ⟨s, t, c, d, q, r, ea, eb, hd, hq, hr, e⟩ := own_divdat ha hb hz
  rw [e, ea, eb]
  exact ⟨Core.sgn_roundRatio _ _ _ _ _, Core.roundRatio_ne_nan _ _ _ _ _⟩
theorem own_fintop {a : UInt64} (hn : Core.val64 a ≠ .nan) (h : own_zm a < Core.b64.tails * 2 ^ (Core.b64.exps - 2)) : Core.DFin a := by
  cases e : Core.val64 a with
  | nan => exact absurd e hn
  | inf s => rw [own_zm, e] at h; exact absurd h (Nat.lt_irrefl _)
  | fin s c q => exact ⟨s, c, q, e⟩
theorem own_finle {a V : UInt64} (hn : Core.val64 a ≠ .nan) (hV : Core.DFin V) (h : own_zm a ≤ own_zm V) : Core.DFin a := own_fintop hn (Nat.lt_of_le_of_lt h hV.zval_lt)
theorem own_zmabs (a : UInt64) : (own_zv a).natAbs = own_zm a := Core.natAbs_signed _ _
theorem own_addne {a b : UInt64} (ha : Core.DFin a) (hb : Core.DFin b) : Core.val64 (FP.dadd a b) ≠ .nan := (Core.notNaN_iff _).mp (Core.dadd_out ha.notNaN hb)
theorem own_subne {a b : UInt64} (ha : Core.DFin a) (hb : Core.DFin b) : Core.val64 (FP.dsub a b) ≠ .nan := (Core.notNaN_iff _).mp (Core.dsub_out ha.notNaN hb)
theorem own_mulne {a b : UInt64} (ha : Core.DFin a) (hb : Core.DFin b) : Core.val64 (FP.dmul a b) ≠ .nan := (Core.notNaN_iff _).mp (Core.dmul_out ha hb)
theorem own_nnof {a : UInt64} (h : Core.val64 a ≠ .nan) : NoNaN64 a := val64_no.mpr h
/-- the double a is i times two to the power (j - 1074) -/
def own_Z (j : Nat) (i : Int) (a : UInt64) : Prop := Core.DFin a ∧ own_zv a = i * ((2 ^ j : Nat) : Int)
theorem own_rep (n : Int) (j : Nat) (hn : n.natAbs < 2 ^ 53) (hj : j ≤ 2045) : ∃ V, own_Z j n V := by
  have hqm : Core.b64.qmin = -1074 := Core.qmin_b64
  have hqx : Core.b64.qmax = 971 := by decide
  obtain ⟨c', q', h1, h2⟩ := Core.round_exact Core.good_b64 (decide (n < 0)) (c := n.natAbs) (q := Core.b64.qmin + j) hn (by omega) (by omega)
  have hv : Core.val64 (Core.of64 (Core.round Core.b64 (.fin (decide (n < 0)) n.natAbs (Core.b64.qmin + j)))) = .fin (decide (n < 0)) c' q' := by
    rw [Core.val64_of64 (Core.round_fits Core.good_b64 _), h1]
  refine ⟨_, ⟨_, _, _, hv⟩, ?_⟩
  unfold own_zv
  rw [hv]
  show Core.signed (decide (n < 0)) (Core.inUnits c' q' Core.b64.qmin) = _
  rw [h2]
  unfold Core.inUnits
  rw [show (Core.b64.qmin + (j : Int) - Core.b64.qmin).toNat = j by omega, Core.signed_mul]
  congr 1
  unfold Core.signed
  by_cases h : n < 0 <;> simp [h] <;> omega
theorem own_Z.nn {j : Nat} {i : Int} {a : UInt64} (h : own_Z j i a) : NoNaN64 a := own_finnn h.1
theorem own_Z.eqv {j : Nat} {i : Int} {a V : UInt64} (hV : own_Z j i V) (hn : Core.val64 a ≠ .nan) (h1 : own_zv a ≤ own_zv V) (h2 : own_zv V ≤ own_zv a) : own_Z j i a := by
  have e : own_zv a = own_zv V := Int.le_antisymm h1 h2
  refine ⟨own_finle hn hV.1 ?_, e.trans hV.2⟩
  rw [← own_zmabs, ← own_zmabs, e]; exact Nat.le_refl _
theorem own_Z.add {j : Nat} {i k : Int} {a b : UInt64} (ha : own_Z j i a) (hb : own_Z j k b) (hn : (i + k).natAbs < 2 ^ 53) (hj : j ≤ 2045 := by decide) : own_Z j (i + k) (FP.dadd a b) := by
  obtain ⟨V, hV⟩ := own_rep (i + k) j hn hj
  have e : own_zv a + own_zv b = own_zv V := by rw [ha.2, hb.2, hV.2, Int.add_mul]
  exact hV.eqv (own_addne ha.1 hb.1) (own_addle ha.1 hb.1 (own_finne hV.1) (Int.le_of_eq e)) (own_addge ha.1 hb.1 (own_finne hV.1) (Int.le_of_eq e.symm))
theorem own_Z.sub {j : Nat} {i k : Int} {a b : UInt64} (ha : own_Z j i a) (hb : own_Z j k b) (hn : (i - k).natAbs < 2 ^ 53) (hj : j ≤ 2045 := by decide) : own_Z j (i - k) (FP.dsub a b) := by
  obtain ⟨V, hV⟩ := own_rep (i - k) j hn hj
  have e : own_zv a - own_zv b = own_zv V := by rw [ha.2, hb.2, hV.2, Int.sub_mul]
  exact hV.eqv (own_subne ha.1 hb.1) (own_suble ha.1 hb.1 (own_finne hV.1) (Int.le_of_eq e)) (own_subge ha.1 hb.1 (own_finne hV.1) (Int.le_of_eq e.symm))
theorem own_Z.mul {j j' J : Nat} {i k : Int} {a b : UInt64} (ha : own_Z j i a) (hb : own_Z j' k b) (hn : (i * k).natAbs < 2 ^ 53) (hJ : J + 1074 = j + j' := by decide) (hj : J ≤ 2045 := by decide) : own_Z J (i * k) (FP.dmul a b) := by
  obtain ⟨V, hV⟩ := own_rep (i * k) J hn hj
  have e : own_zv a * own_zv b = own_zv V * (Core.one64 : Int) := by
    rw [ha.2, hb.2, hV.2, own_one, Int.mul_assoc (i * k), ← Int.natCast_mul, ← Nat.pow_add, hJ, Nat.pow_add, Int.natCast_mul]
    simp only [Int.mul_assoc, Int.mul_left_comm, Int.mul_comm]
  exact hV.eqv (own_mulne ha.1 hb.1) (own_mulle ha.1 hb.1 (own_finne hV.1) (Int.le_of_eq e)) (own_mulge ha.1 hb.1 (own_finne hV.1) (Int.le_of_eq e.symm))
theorem own_zmZ {j : Nat} {i : Int} {a : UInt64} (h : own_Z j i a) : own_zm a = i.natAbs * 2 ^ j := by
  rw [← own_zmabs, h.2, Int.natAbs_mul, Int.natAbs_natCast]
theorem own_Z.div {j j' J : Nat} {i m : Int} {a b : UInt64} (ha : own_Z j (i * m) a) (hb : own_Z j' m b) (hm : m ≠ 0) (hn : i.natAbs < 2 ^ 53) (hJ : J + j' = j + 1074 := by decide) (hj : J ≤ 2045 := by decide) : own_Z J i (FP.ddiv a b) := by
  obtain ⟨V, hV⟩ := own_rep i J hn hj
  have hb0 : own_zm b ≠ 0 := by
    rw [own_zmZ hb]
    exact Nat.mul_ne_zero (by omega) (Nat.ne_of_gt (Nat.two_pow_pos _))
  have e : own_zm a * Core.one64 = own_zm V * own_zm b := by
    rw [own_zmZ ha, own_zmZ hb, own_zmZ hV, own_one, Int.natAbs_mul, Nat.mul_assoc, ← Nat.pow_add, ← hJ, Nat.pow_add]
    simp only [Nat.mul_assoc, Nat.mul_left_comm, Nat.mul_comm]
  obtain ⟨hs, hne⟩ := own_divsgn ha.1 hb.1 hb0
  have em : own_zm (FP.ddiv a b) = own_zm V := Nat.le_antisymm (own_divle ha.1 hb.1 hb0 (own_finne hV.1) (Nat.le_of_eq e)) (own_divge ha.1 hb.1 hb0 (Nat.le_of_eq e.symm))
  refine ⟨own_finle hne hV.1 (Nat.le_of_eq em), ?_⟩
  have ev : own_zv (FP.ddiv a b) * own_zv b = own_zv a * (Core.one64 : Int) := by
    show Core.signed _ _ * Core.signed _ _ = Core.signed _ _ * _
    rw [← Core.signed_xor, hs, ← Core.signed_mul]
    have e2 : Core.zmag Core.b64 (Core.val64 (FP.ddiv a b)) * Core.zmag Core.b64 (Core.val64 b) = Core.zmag Core.b64 (Core.val64 a) * Core.one64 := by
      rw [show Core.zmag Core.b64 (Core.val64 (FP.ddiv a b)) = own_zm V from em]; exact e.symm
    rw [e2]
    cases Core.sgn (Core.val64 a) <;> cases Core.sgn (Core.val64 b) <;> rfl
  rw [ha.2, hb.2, own_one] at ev
  have hp : ((2 ^ j' : Nat) : Int) ≠ 0 := by have := Nat.two_pow_pos j'; omega
  refine Int.eq_of_mul_eq_mul_right (Int.mul_ne_zero hm hp) (ev.trans ?_)
  rw [Int.mul_assoc (i * m), ← Int.natCast_mul, ← Nat.pow_add, ← hJ, Nat.pow_add, Int.natCast_mul]
  simp only [Int.mul_assoc, Int.mul_left_comm, Int.mul_comm]
theorem own_Z.neg {j : Nat} {i : Int} {a : UInt64} (h : own_Z j i a) : own_Z j (-i) (FP.dneg a) := by
  refine ⟨?_, ?_⟩
  · obtain ⟨s, c, q, e⟩ := own_negfin h.1
    exact ⟨s, c, q, by rw [FP.val64_dneg]; exact e⟩
  · unfold own_zv
    rw [FP.val64_dneg, Core.zval_negate]
    have := h.2; unfold own_zv at this; rw [this, Int.neg_mul]
theorem own_Z.of_int {i : Int} {a : UInt64} (h : Core.DInt i a) : own_Z 1074 i a := by
  refine ⟨?_, Core.DInt_zval h⟩
  unfold Core.DInt at h
  cases e : Core.val64 a with
  | nan => rw [e] at h; exact h.elim
  | inf s => rw [e] at h; exact h.elim
  | fin s c q => exact ⟨s, c, q, e⟩
theorem own_Z.i2d (x : Int32) : own_Z 1074 x.toInt (FP.i2d x) := own_Z.of_int (Core.i2d_int x)
theorem own_Z.l2d {x : Int64} (h : x.toInt.natAbs ≤ 2 ^ 53) : own_Z 1074 x.toInt (FP.l2d x) := own_Z.of_int (Core.l2d_int h)
theorem own_Z.shift {j k : Nat} {i : Int} {a : UInt64} (h : own_Z (j + k) i a) : own_Z j (i * ((2 ^ k : Nat) : Int)) a := by
  refine ⟨h.1, h.2.trans ?_⟩
  rw [Nat.add_comm, Nat.pow_add, Int.natCast_mul, Int.mul_assoc]
theorem own_Z.cmp {j : Nat} {i k : Int} {a b : UInt64} (ha : own_Z j i a) (hb : own_Z j k b) : FP.dcmp a b = some (compare i k) := by
  have h := Core.dcmp_zval (own_finne ha.1) (own_finne hb.1)
  have h1 := ha.2; have h2 := hb.2
  unfold own_zv at h1 h2
  rw [h1, h2, Core.compare_mul_pos _ _ _ (by have := Nat.two_pow_pos j; omega)] at h
  exact h
theorem own_Z.cmpE {j : Nat} {i k : Int} {a b : UInt64} (ha : own_Z j i a) (hb : own_Z j k b) (h : i = k) (o : CmpOp) : cmpValue (FP.dcmp a b) o = 0 := by
  rw [ha.cmp hb, (Core.compare_eq_iff _ _).mpr h]; cases o <;> rfl
theorem own_Z.cmpL {j : Nat} {i k : Int} {a b : UInt64} (ha : own_Z j i a) (hb : own_Z j k b) (h : i < k) (o : CmpOp) : cmpValue (FP.dcmp a b) o = -1 := by
  rw [ha.cmp hb, (Core.compare_lt_iff _ _).mpr h]; cases o <;> rfl
theorem own_Z.cmpG {j : Nat} {i k : Int} {a b : UInt64} (ha : own_Z j i a) (hb : own_Z j k b) (h : k < i) (o : CmpOp) : cmpValue (FP.dcmp a b) o = 1 := by
  rw [ha.cmp hb, (Core.compare_gt_iff _ _).mpr h]; cases o <;> rfl
theorem own_Z.eq {j : Nat} {i k : Int} {a : UInt64} (ha : own_Z j i a) (h : i = k) : own_Z j k a := h ▸ ha
theorem own_mulb {a b : Int} {A B : Nat} (ha : a.natAbs ≤ A) (hb : b.natAbs ≤ B) : (a * b).natAbs ≤ A * B := by
  rw [Int.natAbs_mul]; exact Nat.mul_le_mul ha hb
theorem own_Z0 : own_Z 1074 0 0 := by
  refine ⟨⟨false, 0, Core.b64.qmin, by decide +kernel⟩, by decide +kernel⟩
theorem own_Z1 : own_Z 1074 1 4607182418800017408 := own_Z.of_int Core.dint_one
end OwnFl
section OwnWithin
open Jvm.FP Jvm.Free.Fl Jvm.Native.java_lang_Math.nans
theorem own_s12 (x : Int32) : (x >>> ((12 : Int32) &&& 31)).toInt.natAbs ≤ 524288 := by
  rw [c_ishr x 12 12 (by decide)]
  have := x.le_toInt; have := x.toInt_lt
  show (x.toInt / (4096 : Nat)).natAbs ≤ _
  omega
theorem own_sc {lo : Int32} {sc : Int64} (r1 : lo.toInt.natAbs ≤ 524288) (h : (if (1 : Int64) < lo.toInt64 then lo.toInt64 else (1 : Int64)) = sc) : 1 ≤ sc.toInt ∧ sc.toInt ≤ 524288 := by
  rw [← h]
  split
  · rename_i q; rw [Int64.lt_iff_toInt_lt, Int32.toInt_toInt64, show (1 : Int64).toInt = 1 from rfl] at q; rw [Int32.toInt_toInt64]; omega
  · exact ⟨by decide, by decide⟩
theorem own_bd {pr : Int32} {sc bd : Int64} (r2 : pr.toInt.natAbs ≤ 524288) (r3 : 1 ≤ sc.toInt ∧ sc.toInt ≤ 524288) (h : pr.toInt64 * sc = bd) : bd.toInt = pr.toInt * sc.toInt ∧ bd.toInt.natAbs ≤ 524288 * 524288 := by
  have w := Int32.toInt_toInt64 pr
  have p : (pr.toInt * sc.toInt).natAbs ≤ 524288 * 524288 := own_prod r2 (by omega)
  have f : (pr.toInt64 * sc).toInt = pr.toInt * sc.toInt := by rw [Core.int64_mul (by rw [w]; omega) (by rw [w]; omega), w]
  rw [← h, f]; exact ⟨rfl, p⟩
theorem own_up {lo pr y : Int32} {sc bd up : Int64} (r1 : lo.toInt.natAbs ≤ 524288) (r2 : pr.toInt.natAbs ≤ 524288) (h1 : (if (1 : Int64) < lo.toInt64 then lo.toInt64 else (1 : Int64)) = sc) (h2 : pr.toInt64 * sc = bd) (h3 : (lo.toInt64 + bd) + y.toInt64 = up) : up.toInt.natAbs ≤ 1099511627776 := by
  obtain ⟨e, p⟩ := own_bd r2 (own_sc r1 h1) h2
  have w1 := Int32.toInt_toInt64 lo; have w2 := Int32.toInt_toInt64 y; have b := rng32 y
  have f : (lo.toInt64 + bd).toInt = lo.toInt + bd.toInt := by rw [Core.int64_add (by rw [w1]; omega) (by rw [w1]; omega), w1]
  rw [← h3, Core.int64_add (by rw [f, w2]; omega) (by rw [f, w2]; omega), f, w2]
  omega
theorem own_within {lo pr : Int32} {sc bd up : Int64} (r1 : lo.toInt.natAbs ≤ 524288) (r2 : pr.toInt.natAbs ≤ 524288) (h1 : (if (1 : Int64) < lo.toInt64 then lo.toInt64 else (1 : Int64)) = sc) (h2 : pr.toInt64 * sc = bd) (r3 : up.toInt.natAbs ≤ 1099511627776) :
    NoNaN64 (FP.dsub (FP.l2d up) (FP.i2d lo)) ∧ NoNaN64 (FP.i2d lo) ∧ pick64 true 4607182418800017408 (FP.i2d lo) = FP.l2d sc ∧ NoNaN64 (FP.dmul (FP.i2d pr) (FP.l2d sc)) ∧
    ((0 : Int32) < cmpValue (FP.dcmp (FP.dsub (FP.l2d up) (FP.i2d lo)) (FP.dmul (FP.i2d pr) (FP.l2d sc))) .g ↔ bd < up - lo.toInt64) := by
  have s := own_sc r1 h1
  obtain ⟨e, p⟩ := own_bd r2 s h2
  have w1 := Int32.toInt_toInt64 lo
  have A := (own_Z.l2d (x := up) (by omega)).sub (own_Z.i2d lo) (by omega)
  have S := own_Z.l2d (x := sc) (by omega)
  have M := (own_Z.i2d pr).mul S (J := 1074) (by rw [← e]; omega)
  have f : (up - lo.toInt64).toInt = up.toInt - lo.toInt := by rw [Core.int64_sub (by rw [w1]; omega) (by rw [w1]; omega), w1]
  refine ⟨A.nn, (own_Z.i2d lo).nn, ?_, M.nn, ?_⟩
  · rw [show (4607182418800017408 : UInt64) = FP.l2d 1 by decide +kernel, i2d_w]
    have b1 : B53 1 := ⟨by decide, by decide⟩
    by_cases q : (1 : Int64) < lo.toInt64
    · rw [max_l b1 (own_b53 lo) q, ← h1, if_pos q]
    · rw [max_g b1 (own_b53 lo) q, ← h1, if_neg q]
  · rw [A.cmp M, Int64.lt_iff_toInt_lt, f, e]
    rcases Int.lt_trichotomy (up.toInt - lo.toInt) (pr.toInt * sc.toInt) with q | q | q
    · rw [(Core.compare_lt_iff _ _).mpr q]
      exact ⟨fun z => absurd z (by decide), fun z => by omega⟩
    · rw [(Core.compare_eq_iff _ _).mpr q]
      exact ⟨fun z => absurd z (by decide), fun z => by omega⟩
    · rw [(Core.compare_gt_iff _ _).mpr q]
      exact ⟨fun _ => q, fun _ => by decide⟩
end OwnWithin
theorem own_d1_0 : decode jdk_29_method_66_code 0 = .ok (.lload_n 0, 1) := by decide +kernel
theorem own_d1_1 : decode jdk_29_method_66_code 1 = .ok (.lload_n 2, 1) := by decide +kernel
theorem own_d1_2 : decode jdk_29_method_66_code 2 = .ok (.lcmp, 1) := by decide +kernel
theorem own_d1_3 : decode jdk_29_method_66_code 3 = .ok (.ifCond .lt 7, 3) := by decide +kernel
theorem own_d1_10 : decode jdk_29_method_66_code 10 = .ok (.lload_n 2, 1) := by decide +kernel
theorem own_d1_11 : decode jdk_29_method_66_code 11 = .ok (.lreturn, 1) := by decide +kernel
theorem own_d1_6 : decode jdk_29_method_66_code 6 = .ok (.lload_n 0, 1) := by decide +kernel
theorem own_d1_7 : decode jdk_29_method_66_code 7 = .ok (.goto 4, 3) := by decide +kernel
set_option maxHeartbeats 4000000 in
theorem own_ef1 (m : MethodId) (x0 : Int64) (x1 : Int64) : entryFrame m #[(.long x0), (.long x1)] 4 = mkF m 0 #[.val (.long x0), .second, .val (.long x1), .second] [] := by first | (simp [entryFrame, mkF, argsToLocals, Value.category]; done) | rfl
def own_Q1 (Z : State) (a0 : Array Value) (j0 : Int64) (j1 : Int64) (h0 : Heap) (n0 : Nat) (v : Option Value) (h : Heap) (L : List Loc) : Prop := v = some (.long (if j0 < j1 then j1 else j0)) ∧ Fr n0 L ∧ h = h0
set_option maxRecDepth 65536 in
set_option maxHeartbeats 40000000 in
theorem own_rm1 (l : Launch) (Z : State) (a0 : Array Value) (hw : ∀ d ∈ tables_1, d.before a0 Z = true) (ws : List Jvm.Cond) (j0 : Int64) (j1 : Int64) (h0 : Heap) (n0 : Nat) (Z0 : n0 ≤ h0.size) :
    MetFree l (⟨"java/lang/Math", "max", "(JJ)J"⟩ : MethodName) (head1 (Jvm.Cond.code (⟨"java/lang/Math", "max", "(JJ)J"⟩ : MethodName) jdk_29_method_66_code 4 (some .long) :: ws) ({ frames := 0, cells := 0, slots := 0, locals := 0 } : Room)) (fun a U => a = #[(.long j0), (.long j1)] ∧ Z.Warmed39 U.vm ∧ U.heap = h0) (fun _ _ _ _ _ => True) (fun _ U o U' => ∃ v L, o = .returned v ∧ own_Q1 Z a0 j0 j1 h0 n0 v U'.heap L ∧ FrameEnd U o U' L ({ frames := 0, cells := 0, slots := 0, locals := 0 } : Room).cells ({ frames := 0, cells := 0, slots := 0, locals := 0 } : Room).slots) := by
  refine own_body (Q := fun v h L => own_Q1 Z a0 j0 j1 h0 n0 v h L) (Jvm.Free.JP.mathPlain rfl (by decide +kernel)) ?_
  intro p e s m below meth c s₁ hx hby hml hZ hown hnm hret hlk X0 e0
  replace hml : c.maxLocals = 4 := hml
  have N0 := Fr.nil n0
  have K0 : Keep h0 h0 [] := Keep.refl _ _
  refine own_st (fun t k => castTop (own_ef1 m j0 j1) k) ?_
  show own_Run p e below s _ _ _ (s₁.setTop (mkF m 0 #[.val (.long j0), .second, .val (.long j1), .second] []))
  refine own_st (fun t k => XS.lloadN X0.here hx rfl (hb hby own_d1_0) rfl k) ?_
  show own_Run p e below s _ _ _ (s₁.setTop (mkF m 1 #[.val (.long j0), .second, .val (.long j1), .second] [(.long j0)]))
  refine own_st (fun t k => XS.lloadN X0.here hx rfl (hb hby own_d1_1) rfl k) ?_
  show own_Run p e below s _ _ _ (s₁.setTop (mkF m 2 #[.val (.long j0), .second, .val (.long j1), .second] [(.long j1), (.long j0)]))
  refine own_st (fun t k => XS.lcmp X0.here hx rfl (hb hby own_d1_2) rfl k) ?_
  show own_Run p e below s _ _ _ (s₁.setTop (mkF m 3 #[.val (.long j0), .second, .val (.long j1), .second] [(.int (lcmpW j0 j1))]))
  by_cases hA : j0 < j1
  · skip
    refine own_st (fun t k => XS.ifYes X0.here hx rfl (pc0 := 3) (pc' := 10) rfl (hb hby own_d1_3) rfl ((if0 _ _).trans (tlt ((lw_lt _ _).mpr hA : (lcmpW j0 j1) < (0 : Int32))).1) (by decide) (by decide) k) ?_
    show own_Run p e below s _ _ _ (s₁.setTop (mkF m 10 #[.val (.long j0), .second, .val (.long j1), .second] []))
    refine own_st (fun t k => XS.lloadN X0.here hx rfl (hb hby own_d1_10) rfl k) ?_
    show own_Run p e below s _ _ _ (s₁.setTop (mkF m 11 #[.val (.long j0), .second, .val (.long j1), .second] [(.long j1)]))
    exact own_ret X0 hx hlk (t := .long) hret rfl (Or.inr (Or.inl ⟨rfl, rfl, _, rfl⟩)) (hb hby own_d1_11) (by decide) (by decide) ⟨by simp [hA], N0, e0⟩
  · skip
    refine own_st (fun t k => XS.ifNo X0.here hx rfl (hb hby own_d1_3) rfl ((if0 _ _).trans (flt (fun q => hA ((lw_lt _ _).mp q) : ¬ ((lcmpW j0 j1) < (0 : Int32)))).1) k) ?_
    show own_Run p e below s _ _ _ (s₁.setTop (mkF m 6 #[.val (.long j0), .second, .val (.long j1), .second] []))
    refine own_st (fun t k => XS.lloadN X0.here hx rfl (hb hby own_d1_6) rfl k) ?_
    show own_Run p e below s _ _ _ (s₁.setTop (mkF m 7 #[.val (.long j0), .second, .val (.long j1), .second] [(.long j0)]))
    refine own_st (fun t k => XS.goto X0.here hx rfl (pc0 := 7) (pc' := 11) rfl (hb hby own_d1_7) (by decide) (by decide) k) ?_
    show own_Run p e below s _ _ _ (s₁.setTop (mkF m 11 #[.val (.long j0), .second, .val (.long j1), .second] [(.long j0)]))
    exact own_ret X0 hx hlk (t := .long) hret rfl (Or.inr (Or.inl ⟨rfl, rfl, _, rfl⟩)) (hb hby own_d1_11) (by decide) (by decide) ⟨by simp [hA], N0, e0⟩
theorem own_d3_0 : decode jdk_30_method_1_code 0 = .ok (.aload_n 0, 1) := by decide +kernel
theorem own_d3_1 : decode jdk_30_method_1_code 1 = .ok (.invokespecial 1, 3) := by decide +kernel
theorem own_d3_4 : decode jdk_30_method_1_code 4 = .ok (.return_, 1) := by decide +kernel
set_option maxHeartbeats 4000000 in
theorem own_ef3 (m : MethodId) (x0 : Addr) : entryFrame m #[(.ref x0)] 1 = mkF m 0 #[.val (.ref x0)] [] := by first | (simp [entryFrame, mkF, argsToLocals, Value.category]; done) | rfl
theorem own_pn0 : plainName "java/lang/Record" = true := by first | (simp [plainName, overriddenIn]; done) | decide +kernel
def own_Q3 (Z : State) (a0 : Array Value) (o0 : Addr) (h0 : Heap) (n0 : Nat) (v : Option Value) (h : Heap) (L : List Loc) : Prop := v = none ∧ Fr n0 L ∧ h = h0
set_option maxRecDepth 65536 in
set_option maxHeartbeats 40000000 in
theorem own_rm3 (l : Launch) (Z : State) (a0 : Array Value) (hw : ∀ d ∈ tables_1, d.before a0 Z = true) (ws : List Jvm.Cond) (o0 : Addr) (h0 : Heap) (n0 : Nat) (Z0 : n0 ≤ h0.size) :
    MetFree l (⟨"java/lang/Record", "<init>", "()V"⟩ : MethodName) (head1 (Jvm.Cond.code (⟨"java/lang/Record", "<init>", "()V"⟩ : MethodName) jdk_30_method_1_code 1 none :: ws) ({ frames := 1, cells := 0, slots := 0, locals := 12 } : Room)) (fun a U => a = #[(.ref o0)] ∧ Z.Warmed39 U.vm ∧ U.heap = h0) (fun _ _ _ _ _ => True) (fun _ U o U' => ∃ v L, o = .returned v ∧ own_Q3 Z a0 o0 h0 n0 v U'.heap L ∧ FrameEnd U o U' L ({ frames := 1, cells := 0, slots := 0, locals := 12 } : Room).cells ({ frames := 1, cells := 0, slots := 0, locals := 12 } : Room).slots) := by
  refine own_body (Q := fun v h L => own_Q3 Z a0 o0 h0 n0 v h L) (plainFor_of_name own_pn0) ?_
  intro p e s m below meth c s₁ hx hby hml hZ hown hnm hret hlk X0 e0
  replace hml : c.maxLocals = 1 := hml
  have N0 := Fr.nil n0
  have K0 : Keep h0 h0 [] := Keep.refl _ _
  refine own_st (fun t k => castTop (own_ef3 m o0) k) ?_
  show own_Run p e below s _ _ _ (s₁.setTop (mkF m 0 #[.val (.ref o0)] []))
  refine own_st (fun t k => XS.aloadN X0.here hx rfl (hb hby own_d3_0) rfl rfl k) ?_
  show own_Run p e below s _ _ _ (s₁.setTop (mkF m 1 #[.val (.ref o0)] [(.ref o0)]))
  obtain ⟨T1, X1, e1, st1⟩ := initO X0 hx hZ hown (hw _ (List.mem_of_getElem? (i := 15) rfl)) (hw _ (List.mem_of_getElem? (i := 16) rfl)) (hw _ (List.mem_of_getElem? (i := 17) rfl)) e0 (g := (mkF m 1 #[.val (.ref o0)] [(.ref o0)])) rfl (by rw [hml]; rfl) rfl (hb hby own_d3_1) (by decide) (W := 0) (by show 2 * 0 + _ ≤ _; exact Nat.le_of_eq rfl) (by decide)
  refine own_st st1 ?_
  show own_Run p e below s _ _ _ (T1.setTop (mkF m 4 #[.val (.ref o0)] []))
  exact own_retV X1 hx hlk hret (hb hby own_d3_4) (by decide) (by decide) ⟨rfl, N0, e1⟩
theorem own_d2_0 : decode prog_55_method_1_code 0 = .ok (.aload_n 0, 1) := by decide +kernel
theorem own_d2_1 : decode prog_55_method_1_code 1 = .ok (.invokespecial 1, 3) := by decide +kernel
theorem own_pd1 : parseMethodDescriptor "()V" = some ⟨[], none⟩ := by decide +kernel
theorem own_d2_4 : decode prog_55_method_1_code 4 = .ok (.aload_n 0, 1) := by decide +kernel
theorem own_d2_5 : decode prog_55_method_1_code 5 = .ok (.dload_n 1, 1) := by decide +kernel
theorem own_d2_6 : decode prog_55_method_1_code 6 = .ok (.putfield 7, 3) := by decide +kernel
theorem own_d2_9 : decode prog_55_method_1_code 9 = .ok (.aload_n 0, 1) := by decide +kernel
theorem own_d2_10 : decode prog_55_method_1_code 10 = .ok (.dload_n 3, 1) := by decide +kernel
theorem own_d2_11 : decode prog_55_method_1_code 11 = .ok (.putfield 13, 3) := by decide +kernel
theorem own_d2_14 : decode prog_55_method_1_code 14 = .ok (.return_, 1) := by decide +kernel
set_option maxHeartbeats 4000000 in
theorem own_ef2 (m : MethodId) (x0 : Addr) (x1 : UInt64) (x2 : UInt64) : entryFrame m #[(.ref x0), (.double x1), (.double x2)] 5 = mkF m 0 #[.val (.ref x0), .val (.double x1), .second, .val (.double x2), .second] [] := by first | (simp [entryFrame, mkF, argsToLocals, Value.category]; done) | rfl
theorem own_pn2 : plainName "com/example/intervallum/intervallum/robust/ValueBounds" = true := by first | (simp [plainName, overriddenIn]; done) | decide +kernel
def own_Q2 (Z : State) (a0 : Array Value) (a0_ : Addr) (d1 : UInt64) (d2 : UInt64) (h0 : Heap) (n0 : Nat) (v : Option Value) (h : Heap) (L : List Loc) : Prop := v = none ∧ Fr n0 L ∧ Keep h0 h [a0_] ∧ Exa Z h a0_ "com/example/intervallum/intervallum/robust/ValueBounds" ∧ Fld Z h a0_ "com/example/intervallum/intervallum/robust/ValueBounds" "lower" "D" (.double d1) ∧ Fld Z h a0_ "com/example/intervallum/intervallum/robust/ValueBounds" "upper" "D" (.double d2)
set_option maxRecDepth 65536 in
set_option maxHeartbeats 40000000 in
theorem own_rm2 (l : Launch) (Z : State) (a0 : Array Value) (hw : ∀ d ∈ tables_1, d.before a0 Z = true) (ws : List Jvm.Cond) (a0_ : Addr) (d1 : UInt64) (d2 : UInt64) (h0 : Heap) (n0 : Nat) (Z0 : n0 ≤ h0.size) (E0 : Exa Z h0 a0_ "com/example/intervallum/intervallum/robust/ValueBounds") (D0 : ∀ {O nm d : String} {ty : FieldType}, Laid Z a0 "com/example/intervallum/intervallum/robust/ValueBounds" O nm d → parseFieldDescriptor d = some ty → Fld Z h0 a0_ O nm d (defaultValue ty)) (G0 : n0 ≤ a0_) :
    MetFree l (⟨"com/example/intervallum/intervallum/robust/ValueBounds", "<init>", "(DD)V"⟩ : MethodName) (head1 (Jvm.Cond.code (⟨"com/example/intervallum/intervallum/robust/ValueBounds", "<init>", "(DD)V"⟩ : MethodName) prog_55_method_1_code 5 none :: ws) ({ frames := 2, cells := 0, slots := 0, locals := 24 } : Room)) (fun a U => a = #[(.ref a0_), (.double d1), (.double d2)] ∧ Z.Warmed39 U.vm ∧ U.heap = h0) (fun _ _ _ _ _ => True) (fun _ U o U' => ∃ v L, o = .returned v ∧ own_Q2 Z a0 a0_ d1 d2 h0 n0 v U'.heap L ∧ FrameEnd U o U' L ({ frames := 2, cells := 0, slots := 0, locals := 24 } : Room).cells ({ frames := 2, cells := 0, slots := 0, locals := 24 } : Room).slots) := by
  refine own_body (Q := fun v h L => own_Q2 Z a0 a0_ d1 d2 h0 n0 v h L) (plainFor_of_name own_pn2) ?_
  intro p e s m below meth c s₁ hx hby hml hZ hown hnm hret hlk X0 e0
  replace hml : c.maxLocals = 5 := hml
  have N0 := Fr.nil n0
  have K0 : Keep h0 h0 [a0_] := Keep.refl _ _
  refine own_st (fun t k => castTop (own_ef2 m a0_ d1 d2) k) ?_
  show own_Run p e below s _ _ _ (s₁.setTop (mkF m 0 #[.val (.ref a0_), .val (.double d1), .second, .val (.double d2), .second] []))
  refine own_st (fun t k => XS.aloadN X0.here hx rfl (hb hby own_d2_0) rfl rfl k) ?_
  show own_Run p e below s _ _ _ (s₁.setTop (mkF m 1 #[.val (.ref a0_), .val (.double d1), .second, .val (.double d2), .second] [(.ref a0_)]))
  refine own_callI X0 hx hZ (y := (⟨"java/lang/Record", "<init>", "()V"⟩ : MethodName)) rfl hown (hw _ (List.mem_of_getElem? (i := 10) rfl)) (hw _ (List.mem_of_getElem? (i := 11) rfl)) (hw _ (List.mem_of_getElem? (i := 14) rfl)) (hw _ (List.mem_of_getElem? (i := 13) rfl)) (by decide) e0 (a := a0_) (argsL := []) (rest := []) (W := 0) (own_rm3 l Z a0 hw [] a0_ h0 n0 (Nat.le_trans Z0 K0.1) ) (by decide) (by decide) (by rw [hml]; rfl) (lenOf own_pd1 rfl) rfl (by exact Nat.le_of_eq rfl) (hb hby own_d2_1) (by decide) (by decide) ?_
  intro T2 v2 L2 X2 hq2
  obtain ⟨rfl, N2q, hh2⟩ := hq2
  have N2 := Fr.app N0 N2q
  show own_Run p e below s _ _ _ (T2.setTop (mkF m 4 #[.val (.ref a0_), .val (.double d1), .second, .val (.double d2), .second] []))
  refine own_st (fun t k => XS.aloadN X2.here hx rfl (hb hby own_d2_4) rfl rfl k) ?_
  show own_Run p e below s _ _ _ (T2.setTop (mkF m 5 #[.val (.ref a0_), .val (.double d1), .second, .val (.double d2), .second] [(.ref a0_)]))
  refine own_st (fun t k => XS.dloadN X2.here hx rfl (hb hby own_d2_5) rfl k) ?_
  show own_Run p e below s _ _ _ (T2.setTop (mkF m 6 #[.val (.ref a0_), .val (.double d1), .second, .val (.double d2), .second] [(.double d1), (.ref a0_)]))
  have F3 : Fld Z _ a0_ "com/example/intervallum/intervallum/robust/ValueBounds" "lower" "D" (.double (0 : UInt64)) := D0 (Or.inr (hw _ (List.mem_of_getElem? (i := 19) rfl))) (ty := .double) (by decide)
  obtain ⟨T4, h4, X4, e4, W4, st4⟩ := putF X2 hx hZ hown (host := "") (Or.inl (hw _ (List.mem_of_getElem? (i := 18) rfl))) Via.refl hh2 F3 E0 (Or.inr ⟨(hw _ (List.mem_of_getElem? (i := 19) rfl)), rfl, hnm⟩) (hw _ (List.mem_of_getElem? (i := 5) rfl)) (ty := .double) (by decide) rfl rfl (g := (mkF m 6 #[.val (.ref a0_), .val (.double d1), .second, .val (.double d2), .second] [(.double d1), (.ref a0_)])) rfl rfl (hb hby own_d2_6)
  refine own_st st4 ?_
  have Fw4 := F3.same W4
  have N4 := Fr.snoc X4 N2 G0
  have K5 : Keep h0 h4 [a0_] := K0.wr W4 (Or.inl (List.mem_of_getElem? (i := 0) rfl))
  show own_Run p e below s _ _ _ (T4.setTop (mkF m 9 #[.val (.ref a0_), .val (.double d1), .second, .val (.double d2), .second] []))
  refine own_st (fun t k => XS.aloadN X4.here hx rfl (hb hby own_d2_9) rfl rfl k) ?_
  show own_Run p e below s _ _ _ (T4.setTop (mkF m 10 #[.val (.ref a0_), .val (.double d1), .second, .val (.double d2), .second] [(.ref a0_)]))
  refine own_st (fun t k => XS.dloadN X4.here hx rfl (hb hby own_d2_10) rfl k) ?_
  show own_Run p e below s _ _ _ (T4.setTop (mkF m 11 #[.val (.ref a0_), .val (.double d1), .second, .val (.double d2), .second] [(.double d2), (.ref a0_)]))
  have E7 := (E0.wr W4)
  have F8 : Fld Z _ a0_ "com/example/intervallum/intervallum/robust/ValueBounds" "upper" "D" (.double (0 : UInt64)) := D0 (Or.inr (hw _ (List.mem_of_getElem? (i := 21) rfl))) (ty := .double) (by decide)
  have F9 := (F8.other W4 (Or.inr (slot_ne (Or.inr (hw _ (List.mem_of_getElem? (i := 21) rfl))) (Or.inr (hw _ (List.mem_of_getElem? (i := 19) rfl))) (by decide) (t := .double) (t' := .double) (by decide) (by decide))))
  obtain ⟨T10, h10, X10, e10, W10, st10⟩ := putF X4 hx hZ hown (host := "") (Or.inl (hw _ (List.mem_of_getElem? (i := 20) rfl))) Via.refl e4 F9 E7 (Or.inr ⟨(hw _ (List.mem_of_getElem? (i := 21) rfl)), rfl, hnm⟩) (hw _ (List.mem_of_getElem? (i := 5) rfl)) (ty := .double) (by decide) rfl rfl (g := (mkF m 11 #[.val (.ref a0_), .val (.double d1), .second, .val (.double d2), .second] [(.double d2), (.ref a0_)])) rfl rfl (hb hby own_d2_11)
  refine own_st st10 ?_
  have Fw10 := F9.same W10
  have N10 := Fr.snoc X10 N4 G0
  have K11 : Keep h0 h10 [a0_] := K5.wr W10 (Or.inl (List.mem_of_getElem? (i := 0) rfl))
  show own_Run p e below s _ _ _ (T10.setTop (mkF m 14 #[.val (.ref a0_), .val (.double d1), .second, .val (.double d2), .second] []))
  have hQe := e10
  subst hQe
  have E13 := (E7.wr W10)
  have F14 := (Fw4.other W10 (Or.inr (slot_ne (Or.inr (hw _ (List.mem_of_getElem? (i := 19) rfl))) (Or.inr (hw _ (List.mem_of_getElem? (i := 21) rfl))) (by decide) (t := .double) (t' := .double) (by decide) (by decide))))
  exact own_retV X10 hx hlk hret (hb hby own_d2_14) (by decide) (by decide) ⟨rfl, N10, K11, E13, F14, Fw10⟩
theorem own_d5_0 : decode prog_55_method_3_code 0 = .ok (.aload_n 0, 1) := by decide +kernel
theorem own_d5_1 : decode prog_55_method_3_code 1 = .ok (.getfield 13, 3) := by decide +kernel
theorem own_d5_4 : decode prog_55_method_3_code 4 = .ok (.aload_n 0, 1) := by decide +kernel
theorem own_d5_5 : decode prog_55_method_3_code 5 = .ok (.getfield 7, 3) := by decide +kernel
theorem own_d5_8 : decode prog_55_method_3_code 8 = .ok (.dsub, 1) := by decide +kernel
theorem own_d5_9 : decode prog_55_method_3_code 9 = .ok (.dload_n 1, 1) := by decide +kernel
theorem own_d5_10 : decode prog_55_method_3_code 10 = .ok (.dconst 1, 1) := by decide +kernel
theorem own_d5_11 : decode prog_55_method_3_code 11 = .ok (.aload_n 0, 1) := by decide +kernel
theorem own_d5_12 : decode prog_55_method_3_code 12 = .ok (.getfield 7, 3) := by decide +kernel
theorem own_d5_15 : decode prog_55_method_3_code 15 = .ok (.invokestatic 18, 3) := by decide +kernel
theorem own_pd3 : parseMethodDescriptor "(DD)D" = some ⟨[.double, .double], some .double⟩ := by decide +kernel
theorem own_d5_18 : decode prog_55_method_3_code 18 = .ok (.dmul, 1) := by decide +kernel
theorem own_d5_19 : decode prog_55_method_3_code 19 = .ok (.dcmp .g, 1) := by decide +kernel
theorem own_d5_20 : decode prog_55_method_3_code 20 = .ok (.ifCond .gt 7, 3) := by decide +kernel
theorem own_d5_27 : decode prog_55_method_3_code 27 = .ok (.iconst 0, 1) := by decide +kernel
theorem own_d5_28 : decode prog_55_method_3_code 28 = .ok (.ireturn, 1) := by decide +kernel
theorem own_d5_23 : decode prog_55_method_3_code 23 = .ok (.iconst 1, 1) := by decide +kernel
theorem own_d5_24 : decode prog_55_method_3_code 24 = .ok (.goto 4, 3) := by decide +kernel
set_option maxHeartbeats 4000000 in
theorem own_ef5 (m : MethodId) (x0 : Addr) (x1 : UInt64) : entryFrame m #[(.ref x0), (.double x1)] 3 = mkF m 0 #[.val (.ref x0), .val (.double x1), .second] [] := by first | (simp [entryFrame, mkF, argsToLocals, Value.category]; done) | rfl
def own_Q5 (Z : State) (a0 : Array Value) (o0 : Addr) (d1 : UInt64) (lw_ : UInt64) (up_ : UInt64) (r : UInt64) (h0 : Heap) (n0 : Nat) (v : Option Value) (h : Heap) (L : List Loc) : Prop := v = some (.int (if (0 : Int32) < (cmpValue (FP.dcmp (FP.dsub up_ lw_) (FP.dmul d1 r)) .g) then 0 else 1 : Int32)) ∧ Fr n0 L ∧ h = h0
set_option maxRecDepth 65536 in
set_option maxHeartbeats 40000000 in
theorem own_rm5 (l : Launch) (Z : State) (a0 : Array Value) (hw : ∀ d ∈ tables_1, d.before a0 Z = true) (ws : List Jvm.Cond) (o0 : Addr) (d1 : UInt64) (lw_ : UInt64) (up_ : UInt64) (r : UInt64) (h0 : Heap) (n0 : Nat) (Z0 : n0 ≤ h0.size) (F_l : Fld Z h0 o0 "com/example/intervallum/intervallum/robust/ValueBounds" "lower" "D" (.double lw_)) (F_u : Fld Z h0 o0 "com/example/intervallum/intervallum/robust/ValueBounds" "upper" "D" (.double up_)) (pn0 : Jvm.Free.Fl.NoNaN64 (FP.dsub up_ lw_)) (pn1 : Jvm.Free.Fl.NoNaN64 lw_) (hr : Jvm.Native.java_lang_Math.nans.pick64 true 4607182418800017408 lw_ = r) (pn2 : Jvm.Free.Fl.NoNaN64 (FP.dmul d1 r)) :
    MetFree l (⟨"com/example/intervallum/intervallum/robust/ValueBounds", "within", "(D)Z"⟩ : MethodName) (head1 (Jvm.Cond.code (⟨"com/example/intervallum/intervallum/robust/ValueBounds", "within", "(D)Z"⟩ : MethodName) prog_55_method_3_code 3 (some .boolean) :: ws) ({ frames := 1, cells := 0, slots := 0, locals := 19 } : Room)) (fun a U => a = #[(.ref o0), (.double d1)] ∧ Z.Warmed39 U.vm ∧ U.heap = h0) (fun _ _ _ _ _ => True) (fun _ U o U' => ∃ v L, o = .returned v ∧ own_Q5 Z a0 o0 d1 lw_ up_ r h0 n0 v U'.heap L ∧ FrameEnd U o U' L ({ frames := 1, cells := 0, slots := 0, locals := 19 } : Room).cells ({ frames := 1, cells := 0, slots := 0, locals := 19 } : Room).slots) := by
  refine own_body (Q := fun v h L => own_Q5 Z a0 o0 d1 lw_ up_ r h0 n0 v h L) (plainFor_of_name own_pn2) ?_
  intro p e s m below meth c s₁ hx hby hml hZ hown hnm hret hlk X0 e0
  replace hml : c.maxLocals = 3 := hml
  have N0 := Fr.nil n0
  have K0 : Keep h0 h0 [] := Keep.refl _ _
  refine own_st (fun t k => castTop (own_ef5 m o0 d1) k) ?_
  show own_Run p e below s _ _ _ (s₁.setTop (mkF m 0 #[.val (.ref o0), .val (.double d1), .second] []))
  refine own_st (fun t k => XS.aloadN X0.here hx rfl (hb hby own_d5_0) rfl rfl k) ?_
  show own_Run p e below s _ _ _ (s₁.setTop (mkF m 1 #[.val (.ref o0), .val (.double d1), .second] [(.ref o0)]))
  obtain ⟨T15, X15, e15, st15⟩ := getF X0 hx hZ hown (host := "") (Or.inl (hw _ (List.mem_of_getElem? (i := 20) rfl))) Via.refl e0 F_u (g := (mkF m 1 #[.val (.ref o0), .val (.double d1), .second] [(.ref o0)])) rfl rfl (hb hby own_d5_1)
  refine own_st st15 ?_
  show own_Run p e below s _ _ _ (T15.setTop (mkF m 4 #[.val (.ref o0), .val (.double d1), .second] [(.double up_)]))
  refine own_st (fun t k => XS.aloadN X15.here hx rfl (hb hby own_d5_4) rfl rfl k) ?_
  show own_Run p e below s _ _ _ (T15.setTop (mkF m 5 #[.val (.ref o0), .val (.double d1), .second] [(.ref o0), (.double up_)]))
  obtain ⟨T16, X16, e16, st16⟩ := getF X15 hx hZ hown (host := "") (Or.inl (hw _ (List.mem_of_getElem? (i := 18) rfl))) Via.refl e15 F_l (g := (mkF m 5 #[.val (.ref o0), .val (.double d1), .second] [(.ref o0), (.double up_)])) rfl rfl (hb hby own_d5_5)
  refine own_st st16 ?_
  show own_Run p e below s _ _ _ (T16.setTop (mkF m 8 #[.val (.ref o0), .val (.double d1), .second] [(.double lw_), (.double up_)]))
  refine own_st (fun t k => XS.dsubS X16.here hx rfl (hb hby own_d5_8) rfl (pn0) (v := (FP.dsub up_ lw_)) (rfl) k) ?_
  show own_Run p e below s _ _ _ (T16.setTop (mkF m 9 #[.val (.ref o0), .val (.double d1), .second] [(.double (FP.dsub up_ lw_))]))
  refine own_st (fun t k => XS.dloadN X16.here hx rfl (hb hby own_d5_9) rfl k) ?_
  show own_Run p e below s _ _ _ (T16.setTop (mkF m 10 #[.val (.ref o0), .val (.double d1), .second] [(.double d1), (.double (FP.dsub up_ lw_))]))
  refine own_st (fun t k => XS.dconst1 X16.here hx rfl (hb hby own_d5_10) (v := 4607182418800017408) rfl k) ?_
  show own_Run p e below s _ _ _ (T16.setTop (mkF m 11 #[.val (.ref o0), .val (.double d1), .second] [(.double (4607182418800017408 : UInt64)), (.double d1), (.double (FP.dsub up_ lw_))]))
  refine own_st (fun t k => XS.aloadN X16.here hx rfl (hb hby own_d5_11) rfl rfl k) ?_
  show own_Run p e below s _ _ _ (T16.setTop (mkF m 12 #[.val (.ref o0), .val (.double d1), .second] [(.ref o0), (.double (4607182418800017408 : UInt64)), (.double d1), (.double (FP.dsub up_ lw_))]))
  obtain ⟨T17, X17, e17, st17⟩ := getF X16 hx hZ hown (host := "") (Or.inl (hw _ (List.mem_of_getElem? (i := 18) rfl))) Via.refl e16 F_l (g := (mkF m 12 #[.val (.ref o0), .val (.double d1), .second] [(.ref o0), (.double (4607182418800017408 : UInt64)), (.double d1), (.double (FP.dsub up_ lw_))])) rfl rfl (hb hby own_d5_12)
  refine own_st st17 ?_
  show own_Run p e below s _ _ _ (T17.setTop (mkF m 15 #[.val (.ref o0), .val (.double d1), .second] [(.double lw_), (.double (4607182418800017408 : UInt64)), (.double d1), (.double (FP.dsub up_ lw_))]))
  obtain ⟨T18, X18, e18, st18⟩ := natS X17 hx hZ (y := (⟨"java/lang/Math", "max", "(DD)D"⟩ : MethodName)) hown (hw _ (List.mem_of_getElem? (i := 27) rfl)) (hw _ (List.mem_of_getElem? (i := 28) rfl)) (hw _ (List.mem_of_getElem? (i := 2) rfl)) (by0 := jdk_29_method_68_code) (ml := 4) (rt := some .double) (hw _ (List.mem_of_getElem? (i := 29) rfl)) (by decide) e17 (W := 4) (F := fun a' => a' = #[(.double (4607182418800017408 : UInt64)), (.double lw_)] ∧ Jvm.Free.Fl.NoNaN64 (4607182418800017408 : UInt64) ∧ Jvm.Free.Fl.NoNaN64 lw_) (val := .double (Jvm.Native.java_lang_Math.nans.pick64 true (4607182418800017408 : UInt64) lw_)) (val' := .double r) (fun hc => Jvm.Free.Fl.Abs.maxD_pays (4607182418800017408 : UInt64) lw_ hc (by decide) (by decide)) (g := (mkF m 15 #[.val (.ref o0), .val (.double d1), .second] [(.double lw_), (.double (4607182418800017408 : UInt64)), (.double d1), (.double (FP.dsub up_ lw_))])) rfl (by rw [hml]; rfl) (argsL := [(.double (4607182418800017408 : UInt64)), (.double lw_)]) (rest := [(.double d1), (.double (FP.dsub up_ lw_))]) (lenOf own_pd3 rfl) rfl (by show 2 * 0 + _ ≤ _; exact Nat.le_of_eq rfl) (hb hby own_d5_15) (by decide) (by decide) ⟨rfl, by unfold Jvm.Free.Fl.NoNaN64; decide +kernel, pn1⟩ (congrArg Value.double (hr))
  refine own_st st18 ?_
  show own_Run p e below s _ _ _ (T18.setTop (mkF m 18 #[.val (.ref o0), .val (.double d1), .second] [(.double r), (.double d1), (.double (FP.dsub up_ lw_))]))
  refine own_st (fun t k => XS.dmulS X18.here hx rfl (hb hby own_d5_18) rfl (pn2) (v := (FP.dmul d1 r)) (rfl) k) ?_
  show own_Run p e below s _ _ _ (T18.setTop (mkF m 19 #[.val (.ref o0), .val (.double d1), .second] [(.double (FP.dmul d1 r)), (.double (FP.dsub up_ lw_))]))
  refine own_st (fun t k => XS.dcmpS X18.here hx rfl (hb hby own_d5_19) rfl (v := (cmpValue (FP.dcmp (FP.dsub up_ lw_) (FP.dmul d1 r)) .g)) (rfl) k) ?_
  show own_Run p e below s _ _ _ (T18.setTop (mkF m 20 #[.val (.ref o0), .val (.double d1), .second] [(.int (cmpValue (FP.dcmp (FP.dsub up_ lw_) (FP.dmul d1 r)) .g))]))
  by_cases hA : (0 : Int32) < (cmpValue (FP.dcmp (FP.dsub up_ lw_) (FP.dmul d1 r)) .g)
  · skip
    refine own_st (fun t k => XS.ifYes X18.here hx rfl (pc0 := 20) (pc' := 27) rfl (hb hby own_d5_20) rfl ((if0 _ _).trans (tlt (hA : (0 : Int32) < (cmpValue (FP.dcmp (FP.dsub up_ lw_) (FP.dmul d1 r)) .g))).2.2.1) (by decide) (by decide) k) ?_
    show own_Run p e below s _ _ _ (T18.setTop (mkF m 27 #[.val (.ref o0), .val (.double d1), .second] []))
    refine own_st (fun t k => XS.iconst X18.here hx rfl (hb hby own_d5_27) k) ?_
    show own_Run p e below s _ _ _ (T18.setTop (mkF m 28 #[.val (.ref o0), .val (.double d1), .second] [(.int (0 : Int32))]))
    exact own_ret X18 hx hlk (t := .boolean) hret rfl (Or.inl ⟨rfl, by simp, _, rfl⟩) (hb hby own_d5_28) (by decide) (by decide) ⟨by simp [hA], N0, e18⟩
  · skip
    refine own_st (fun t k => XS.ifNo X18.here hx rfl (hb hby own_d5_20) rfl ((if0 _ _).trans (flt (hA : ¬ ((0 : Int32) < (cmpValue (FP.dcmp (FP.dsub up_ lw_) (FP.dmul d1 r)) .g)))).2.2.1) k) ?_
    show own_Run p e below s _ _ _ (T18.setTop (mkF m 23 #[.val (.ref o0), .val (.double d1), .second] []))
    refine own_st (fun t k => XS.iconst X18.here hx rfl (hb hby own_d5_23) k) ?_
    show own_Run p e below s _ _ _ (T18.setTop (mkF m 24 #[.val (.ref o0), .val (.double d1), .second] [(.int (1 : Int32))]))
    refine own_st (fun t k => XS.goto X18.here hx rfl (pc0 := 24) (pc' := 28) rfl (hb hby own_d5_24) (by decide) (by decide) k) ?_
    show own_Run p e below s _ _ _ (T18.setTop (mkF m 28 #[.val (.ref o0), .val (.double d1), .second] [(.int (1 : Int32))]))
    exact own_ret X18 hx hlk (t := .boolean) hret rfl (Or.inl ⟨rfl, by simp, _, rfl⟩) (hb hby own_d5_28) (by decide) (by decide) ⟨by simp [hA], N0, e18⟩
theorem own_pd4 : parseMethodDescriptor "(JJ)J" = some ⟨[.long, .long], some .long⟩ := by decide +kernel
theorem own_pd5 : parseMethodDescriptor "(DD)V" = some ⟨[.double, .double], none⟩ := by decide +kernel
theorem own_pd6 : parseMethodDescriptor "(D)Z" = some ⟨[.double], some .boolean⟩ := by decide +kernel
set_option maxHeartbeats 4000000 in
theorem own_ef0 (m : MethodId) (x0 : Int32) (x1 : Int32) (x2 : Int32) : entryFrame m #[(.int x0), (.int x1), (.int x2)] maxLocals = mkF m 0 #[.val (.int x0), .val (.int x1), .val (.int x2), .unset, .unset, .unset, .unset, .unset, .unset, .unset, .unset, .unset, .unset] [] := by first | (simp [entryFrame, mkF, argsToLocals, Value.category, maxLocals]; done) | rfl
theorem own_pn7 : plainName "com/example/intervallum/intervallum/robust/ValueBoundsWithinPinLaw" = true := by first | (simp [plainName, overriddenIn]; done) | decide +kernel
def own_Q0 (Z : State) (a0 : Array Value) (i0 : Int32) (i1 : Int32) (i2 : Int32) (h0 : Heap) (n0 : Nat) (v : Option Value) (h : Heap) (L : List Loc) : Prop := v = some (.int 1) ∧ Fr n0 L
set_option maxRecDepth 65536 in
set_option maxHeartbeats 40000000 in
theorem own_rm0 (l : Launch) (Z : State) (a0 : Array Value) (hw : ∀ d ∈ tables_1, d.before a0 Z = true) (ws : List Jvm.Cond) (i0 : Int32) (i1 : Int32) (i2 : Int32) (h0 : Heap) (n0 : Nat) (Z0 : n0 ≤ h0.size) (O0 : Old Z n0 h0) :
    MetFree l x (head1 (Jvm.Cond.code x code maxLocals ret :: ws) room_1) (fun a U => a = #[(.int i0), (.int i1), (.int i2)] ∧ Z.Warmed39 U.vm ∧ U.heap = h0) (fun _ _ _ _ _ => True) (fun _ U o U' => ∃ v L, o = .returned v ∧ own_Q0 Z a0 i0 i1 i2 h0 n0 v U'.heap L ∧ FrameEnd U o U' L room_1.cells room_1.slots) := by
  refine own_body (Q := fun v h L => own_Q0 Z a0 i0 i1 i2 h0 n0 v h L) (plainFor_of_name own_pn7) ?_
  intro p e s m below meth c s₁ hx hby hml hZ hown hnm hret hlk X0 e0
  replace hml : c.maxLocals = 13 := hml
  replace hown : s.vm.findClass "com/example/intervallum/intervallum/robust/ValueBoundsWithinPinLaw" = some m.cls := hown
  have N0 := Fr.nil n0
  have K0 : Keep h0 h0 [] := Keep.refl _ _
  refine own_st (fun t k => castTop (own_ef0 m i0 i1 i2) k) ?_
  show own_Run p e below s _ _ _ (s₁.setTop (mkF m 0 #[.val (.int i0), .val (.int i1), .val (.int i2), .unset, .unset, .unset, .unset, .unset, .unset, .unset, .unset, .unset, .unset] []))
  refine own_st (fun t k => XS.iloadN X0.here hx rfl (hb hby at_0) rfl k) ?_
  show own_Run p e below s _ _ _ (s₁.setTop (mkF m 1 #[.val (.int i0), .val (.int i1), .val (.int i2), .unset, .unset, .unset, .unset, .unset, .unset, .unset, .unset, .unset, .unset] [(.int i0)]))
  refine own_st (fun t k => XS.bipush X0.here hx rfl (hb hby at_1) k) ?_
  show own_Run p e below s _ _ _ (s₁.setTop (mkF m 3 #[.val (.int i0), .val (.int i1), .val (.int i2), .unset, .unset, .unset, .unset, .unset, .unset, .unset, .unset, .unset, .unset] [(.int (12 : Int32)), (.int i0)]))
  refine own_st (fun t k => XS.ishl X0.here hx rfl (hb hby at_3) rfl k) ?_
  show own_Run p e below s _ _ _ (s₁.setTop (mkF m 4 #[.val (.int i0), .val (.int i1), .val (.int i2), .unset, .unset, .unset, .unset, .unset, .unset, .unset, .unset, .unset, .unset] [(.int (i0 <<< ((12 : Int32) &&& 31)))]))
  refine own_st (fun t k => XS.bipush X0.here hx rfl (hb hby at_4) k) ?_
  show own_Run p e below s _ _ _ (s₁.setTop (mkF m 6 #[.val (.int i0), .val (.int i1), .val (.int i2), .unset, .unset, .unset, .unset, .unset, .unset, .unset, .unset, .unset, .unset] [(.int (12 : Int32)), (.int (i0 <<< ((12 : Int32) &&& 31)))]))
  refine own_st (fun t k => XS.ishr X0.here hx rfl (hb hby at_6) rfl k) ?_
  show own_Run p e below s _ _ _ (s₁.setTop (mkF m 7 #[.val (.int i0), .val (.int i1), .val (.int i2), .unset, .unset, .unset, .unset, .unset, .unset, .unset, .unset, .unset, .unset] [(.int ((i0 <<< ((12 : Int32) &&& 31)) >>> ((12 : Int32) &&& 31)))]))
  obtain ⟨lo, h_lo⟩ : ∃ z, (((i0 <<< ((12 : Int32) &&& 31)) >>> ((12 : Int32) &&& 31)) : Int32) = z := ⟨_, rfl⟩
  refine own_topI h_lo ?_
  show own_Run p e below s _ _ _ (s₁.setTop (mkF m 7 #[.val (.int i0), .val (.int i1), .val (.int i2), .unset, .unset, .unset, .unset, .unset, .unset, .unset, .unset, .unset, .unset] [(.int lo)]))
  have r_lo : lo.toInt.natAbs ≤ 524288 := h_lo ▸ own_s12 _
  refine own_st (fun t k => XS.istoreN X0.here hx rfl (hb hby at_7) rfl (l' := #[.val (.int i0), .val (.int i1), .val (.int i2), .val (.int lo), .unset, .unset, .unset, .unset, .unset, .unset, .unset, .unset, .unset]) rfl k) ?_
  show own_Run p e below s _ _ _ (s₁.setTop (mkF m 8 #[.val (.int i0), .val (.int i1), .val (.int i2), .val (.int lo), .unset, .unset, .unset, .unset, .unset, .unset, .unset, .unset, .unset] []))
  refine own_st (fun t k => XS.iloadN X0.here hx rfl (hb hby at_8) rfl k) ?_
  show own_Run p e below s _ _ _ (s₁.setTop (mkF m 9 #[.val (.int i0), .val (.int i1), .val (.int i2), .val (.int lo), .unset, .unset, .unset, .unset, .unset, .unset, .unset, .unset, .unset] [(.int i2)]))
  refine own_st (fun t k => XS.bipush X0.here hx rfl (hb hby at_9) k) ?_
  show own_Run p e below s _ _ _ (s₁.setTop (mkF m 11 #[.val (.int i0), .val (.int i1), .val (.int i2), .val (.int lo), .unset, .unset, .unset, .unset, .unset, .unset, .unset, .unset, .unset] [(.int (12 : Int32)), (.int i2)]))
  refine own_st (fun t k => XS.ishl X0.here hx rfl (hb hby at_11) rfl k) ?_
  show own_Run p e below s _ _ _ (s₁.setTop (mkF m 12 #[.val (.int i0), .val (.int i1), .val (.int i2), .val (.int lo), .unset, .unset, .unset, .unset, .unset, .unset, .unset, .unset, .unset] [(.int (i2 <<< ((12 : Int32) &&& 31)))]))
  refine own_st (fun t k => XS.bipush X0.here hx rfl (hb hby at_12) k) ?_
  show own_Run p e below s _ _ _ (s₁.setTop (mkF m 14 #[.val (.int i0), .val (.int i1), .val (.int i2), .val (.int lo), .unset, .unset, .unset, .unset, .unset, .unset, .unset, .unset, .unset] [(.int (12 : Int32)), (.int (i2 <<< ((12 : Int32) &&& 31)))]))
  refine own_st (fun t k => XS.ishr X0.here hx rfl (hb hby at_14) rfl k) ?_
  show own_Run p e below s _ _ _ (s₁.setTop (mkF m 15 #[.val (.int i0), .val (.int i1), .val (.int i2), .val (.int lo), .unset, .unset, .unset, .unset, .unset, .unset, .unset, .unset, .unset] [(.int ((i2 <<< ((12 : Int32) &&& 31)) >>> ((12 : Int32) &&& 31)))]))
  obtain ⟨pr, h_pr⟩ : ∃ z, (((i2 <<< ((12 : Int32) &&& 31)) >>> ((12 : Int32) &&& 31)) : Int32) = z := ⟨_, rfl⟩
  refine own_topI h_pr ?_
  show own_Run p e below s _ _ _ (s₁.setTop (mkF m 15 #[.val (.int i0), .val (.int i1), .val (.int i2), .val (.int lo), .unset, .unset, .unset, .unset, .unset, .unset, .unset, .unset, .unset] [(.int pr)]))
  have r_pr : pr.toInt.natAbs ≤ 524288 := h_pr ▸ own_s12 _
  refine own_st (fun t k => XS.istore X0.here hx rfl (hb hby at_15) rfl (l' := #[.val (.int i0), .val (.int i1), .val (.int i2), .val (.int lo), .val (.int pr), .unset, .unset, .unset, .unset, .unset, .unset, .unset, .unset]) rfl k) ?_
  show own_Run p e below s _ _ _ (s₁.setTop (mkF m 17 #[.val (.int i0), .val (.int i1), .val (.int i2), .val (.int lo), .val (.int pr), .unset, .unset, .unset, .unset, .unset, .unset, .unset, .unset] []))
  refine own_st (fun t k => XS.lconst X0.here hx rfl (hb hby at_17) k) ?_
  show own_Run p e below s _ _ _ (s₁.setTop (mkF m 18 #[.val (.int i0), .val (.int i1), .val (.int i2), .val (.int lo), .val (.int pr), .unset, .unset, .unset, .unset, .unset, .unset, .unset, .unset] [(.long (1 : Int64))]))
  refine own_st (fun t k => XS.iloadN X0.here hx rfl (hb hby at_18) rfl k) ?_
  show own_Run p e below s _ _ _ (s₁.setTop (mkF m 19 #[.val (.int i0), .val (.int i1), .val (.int i2), .val (.int lo), .val (.int pr), .unset, .unset, .unset, .unset, .unset, .unset, .unset, .unset] [(.int lo), (.long (1 : Int64))]))
  refine own_st (fun t k => XS.i2l X0.here hx rfl (hb hby at_19) rfl k) ?_
  show own_Run p e below s _ _ _ (s₁.setTop (mkF m 20 #[.val (.int i0), .val (.int i1), .val (.int i2), .val (.int lo), .val (.int pr), .unset, .unset, .unset, .unset, .unset, .unset, .unset, .unset] [(.long (lo.toInt64)), (.long (1 : Int64))]))
  refine own_callS X0 hx hZ (y := (⟨"java/lang/Math", "max", "(JJ)J"⟩ : MethodName)) hown (hw _ (List.mem_of_getElem? (i := 0) rfl)) (hw _ (List.mem_of_getElem? (i := 1) rfl)) (hw _ (List.mem_of_getElem? (i := 3) rfl)) (hw _ (List.mem_of_getElem? (i := 2) rfl)) (by decide) e0 (argsL := [(.long (1 : Int64)), (.long (lo.toInt64))]) (rest := []) (W := 0) (own_rm1 l Z a0 hw [] (1 : Int64) (lo.toInt64) h0 n0 (Nat.le_trans Z0 K0.1) ) (by decide) (by decide) (by rw [hml]; rfl) (lenOf own_pd4 rfl) rfl (by exact Nat.le_of_eq rfl) (hb hby at_20) (by decide) (by decide) ?_
  intro T19 v19 L19 X19 hq19
  obtain ⟨rfl, N19q, hh19⟩ := hq19
  have N19 := Fr.app N0 N19q
  show own_Run p e below s _ _ _ (T19.setTop (mkF m 23 #[.val (.int i0), .val (.int i1), .val (.int i2), .val (.int lo), .val (.int pr), .unset, .unset, .unset, .unset, .unset, .unset, .unset, .unset] [(.long (if (1 : Int64) < (lo.toInt64) then (lo.toInt64) else (1 : Int64)))]))
  obtain ⟨sc, h_sc⟩ : ∃ z, ((if (1 : Int64) < (lo.toInt64) then (lo.toInt64) else (1 : Int64)) : Int64) = z := ⟨_, rfl⟩
  refine own_topJ h_sc ?_
  show own_Run p e below s _ _ _ (T19.setTop (mkF m 23 #[.val (.int i0), .val (.int i1), .val (.int i2), .val (.int lo), .val (.int pr), .unset, .unset, .unset, .unset, .unset, .unset, .unset, .unset] [(.long sc)]))
  refine own_st (fun t k => XS.lstore X19.here hx rfl (hb hby at_23) rfl (l' := #[.val (.int i0), .val (.int i1), .val (.int i2), .val (.int lo), .val (.int pr), .val (.long sc), .second, .unset, .unset, .unset, .unset, .unset, .unset]) rfl k) ?_
  show own_Run p e below s _ _ _ (T19.setTop (mkF m 25 #[.val (.int i0), .val (.int i1), .val (.int i2), .val (.int lo), .val (.int pr), .val (.long sc), .second, .unset, .unset, .unset, .unset, .unset, .unset] []))
  refine own_st (fun t k => XS.iload X19.here hx rfl (hb hby at_25) rfl k) ?_
  show own_Run p e below s _ _ _ (T19.setTop (mkF m 27 #[.val (.int i0), .val (.int i1), .val (.int i2), .val (.int lo), .val (.int pr), .val (.long sc), .second, .unset, .unset, .unset, .unset, .unset, .unset] [(.int pr)]))
  refine own_st (fun t k => XS.i2l X19.here hx rfl (hb hby at_27) rfl k) ?_
  show own_Run p e below s _ _ _ (T19.setTop (mkF m 28 #[.val (.int i0), .val (.int i1), .val (.int i2), .val (.int lo), .val (.int pr), .val (.long sc), .second, .unset, .unset, .unset, .unset, .unset, .unset] [(.long (pr.toInt64))]))
  refine own_st (fun t k => XS.lload X19.here hx rfl (hb hby at_28) rfl k) ?_
  show own_Run p e below s _ _ _ (T19.setTop (mkF m 30 #[.val (.int i0), .val (.int i1), .val (.int i2), .val (.int lo), .val (.int pr), .val (.long sc), .second, .unset, .unset, .unset, .unset, .unset, .unset] [(.long sc), (.long (pr.toInt64))]))
  refine own_st (fun t k => XS.lmul X19.here hx rfl (hb hby at_30) rfl k) ?_
  show own_Run p e below s _ _ _ (T19.setTop (mkF m 31 #[.val (.int i0), .val (.int i1), .val (.int i2), .val (.int lo), .val (.int pr), .val (.long sc), .second, .unset, .unset, .unset, .unset, .unset, .unset] [(.long ((pr.toInt64) * sc))]))
  obtain ⟨bd, h_bd⟩ : ∃ z, (((pr.toInt64) * sc) : Int64) = z := ⟨_, rfl⟩
  refine own_topJ h_bd ?_
  show own_Run p e below s _ _ _ (T19.setTop (mkF m 31 #[.val (.int i0), .val (.int i1), .val (.int i2), .val (.int lo), .val (.int pr), .val (.long sc), .second, .unset, .unset, .unset, .unset, .unset, .unset] [(.long bd)]))
  refine own_st (fun t k => XS.lstore X19.here hx rfl (hb hby at_31) rfl (l' := #[.val (.int i0), .val (.int i1), .val (.int i2), .val (.int lo), .val (.int pr), .val (.long sc), .second, .val (.long bd), .second, .unset, .unset, .unset, .unset]) rfl k) ?_
  show own_Run p e below s _ _ _ (T19.setTop (mkF m 33 #[.val (.int i0), .val (.int i1), .val (.int i2), .val (.int lo), .val (.int pr), .val (.long sc), .second, .val (.long bd), .second, .unset, .unset, .unset, .unset] []))
  refine own_st (fun t k => XS.iloadN X19.here hx rfl (hb hby at_33) rfl k) ?_
  show own_Run p e below s _ _ _ (T19.setTop (mkF m 34 #[.val (.int i0), .val (.int i1), .val (.int i2), .val (.int lo), .val (.int pr), .val (.long sc), .second, .val (.long bd), .second, .unset, .unset, .unset, .unset] [(.int i1)]))
  refine own_st (fun t k => XS.iconst X19.here hx rfl (hb hby at_34) k) ?_
  show own_Run p e below s _ _ _ (T19.setTop (mkF m 35 #[.val (.int i0), .val (.int i1), .val (.int i2), .val (.int lo), .val (.int pr), .val (.long sc), .second, .val (.long bd), .second, .unset, .unset, .unset, .unset] [(.int (1 : Int32)), (.int i1)]))
  refine own_st (fun t k => XS.iand X19.here hx rfl (hb hby at_35) rfl k) ?_
  show own_Run p e below s _ _ _ (T19.setTop (mkF m 36 #[.val (.int i0), .val (.int i1), .val (.int i2), .val (.int lo), .val (.int pr), .val (.long sc), .second, .val (.long bd), .second, .unset, .unset, .unset, .unset] [(.int (i1 &&& (1 : Int32)))]))
  by_cases hc20 : (i1 &&& (1 : Int32)) = (0 : Int32)
  · skip
    refine own_st (fun t k => XS.ifNo X19.here hx rfl (hb hby at_36) rfl ((if0 _ _).trans (teq (hc20 : (i1 &&& (1 : Int32)) = (0 : Int32))).2) k) ?_
    show own_Run p e below s _ _ _ (T19.setTop (mkF m 39 #[.val (.int i0), .val (.int i1), .val (.int i2), .val (.int lo), .val (.int pr), .val (.long sc), .second, .val (.long bd), .second, .unset, .unset, .unset, .unset] []))
    refine own_st (fun t k => XS.iloadN X19.here hx rfl (hb hby at_39) rfl k) ?_
    show own_Run p e below s _ _ _ (T19.setTop (mkF m 40 #[.val (.int i0), .val (.int i1), .val (.int i2), .val (.int lo), .val (.int pr), .val (.long sc), .second, .val (.long bd), .second, .unset, .unset, .unset, .unset] [(.int i1)]))
    refine own_st (fun t k => XS.bipush X19.here hx rfl (hb hby at_40) k) ?_
    show own_Run p e below s _ _ _ (T19.setTop (mkF m 42 #[.val (.int i0), .val (.int i1), .val (.int i2), .val (.int lo), .val (.int pr), .val (.long sc), .second, .val (.long bd), .second, .unset, .unset, .unset, .unset] [(.int (11 : Int32)), (.int i1)]))
    refine own_st (fun t k => XS.ishl X19.here hx rfl (hb hby at_42) rfl k) ?_
    show own_Run p e below s _ _ _ (T19.setTop (mkF m 43 #[.val (.int i0), .val (.int i1), .val (.int i2), .val (.int lo), .val (.int pr), .val (.long sc), .second, .val (.long bd), .second, .unset, .unset, .unset, .unset] [(.int (i1 <<< ((11 : Int32) &&& 31)))]))
    refine own_st (fun t k => XS.bipush X19.here hx rfl (hb hby at_43) k) ?_
    show own_Run p e below s _ _ _ (T19.setTop (mkF m 45 #[.val (.int i0), .val (.int i1), .val (.int i2), .val (.int lo), .val (.int pr), .val (.long sc), .second, .val (.long bd), .second, .unset, .unset, .unset, .unset] [(.int (12 : Int32)), (.int (i1 <<< ((11 : Int32) &&& 31)))]))
    refine own_st (fun t k => XS.ishr X19.here hx rfl (hb hby at_45) rfl k) ?_
    show own_Run p e below s _ _ _ (T19.setTop (mkF m 46 #[.val (.int i0), .val (.int i1), .val (.int i2), .val (.int lo), .val (.int pr), .val (.long sc), .second, .val (.long bd), .second, .unset, .unset, .unset, .unset] [(.int ((i1 <<< ((11 : Int32) &&& 31)) >>> ((12 : Int32) &&& 31)))]))
    refine own_st (fun t k => XS.i2l X19.here hx rfl (hb hby at_46) rfl k) ?_
    show own_Run p e below s _ _ _ (T19.setTop (mkF m 47 #[.val (.int i0), .val (.int i1), .val (.int i2), .val (.int lo), .val (.int pr), .val (.long sc), .second, .val (.long bd), .second, .unset, .unset, .unset, .unset] [(.long (((i1 <<< ((11 : Int32) &&& 31)) >>> ((12 : Int32) &&& 31)).toInt64))]))
    obtain ⟨up, h_up⟩ : ∃ z, ((((i1 <<< ((11 : Int32) &&& 31)) >>> ((12 : Int32) &&& 31)).toInt64) : Int64) = z := ⟨_, rfl⟩
    refine own_topJ h_up ?_
    show own_Run p e below s _ _ _ (T19.setTop (mkF m 47 #[.val (.int i0), .val (.int i1), .val (.int i2), .val (.int lo), .val (.int pr), .val (.long sc), .second, .val (.long bd), .second, .unset, .unset, .unset, .unset] [(.long up)]))
    have r_up : up.toInt.natAbs ≤ 1099511627776 := by rw [← h_up, Int32.toInt_toInt64]; exact Nat.le_trans (own_s12 _) (by decide)
    obtain ⟨q0, q1, q2, q3, q5⟩ := own_within r_lo r_pr h_sc h_bd r_up
    refine own_st (fun t k => XS.lstore X19.here hx rfl (hb hby at_47) rfl (l' := #[.val (.int i0), .val (.int i1), .val (.int i2), .val (.int lo), .val (.int pr), .val (.long sc), .second, .val (.long bd), .second, .val (.long up), .second, .unset, .unset]) rfl k) ?_
    show own_Run p e below s _ _ _ (T19.setTop (mkF m 49 #[.val (.int i0), .val (.int i1), .val (.int i2), .val (.int lo), .val (.int pr), .val (.long sc), .second, .val (.long bd), .second, .val (.long up), .second, .unset, .unset] []))
    refine own_st (fun t k => XS.goto X19.here hx rfl (pc0 := 49) (pc' := 66) rfl (hb hby at_49) (by decide) (by decide) k) ?_
    show own_Run p e below s _ _ _ (T19.setTop (mkF m 66 #[.val (.int i0), .val (.int i1), .val (.int i2), .val (.int lo), .val (.int pr), .val (.long sc), .second, .val (.long bd), .second, .val (.long up), .second, .unset, .unset] []))
    obtain ⟨T21, h21, X21, e21, E21, A21, D21, -, st21⟩ := newO X19 hx hZ hown (hw _ (List.mem_of_getElem? (i := 4) rfl)) (hw _ (List.mem_of_getElem? (i := 5) rfl)) (hw _ (List.mem_of_getElem? (i := 6) rfl)) hh19 (g := (mkF m 66 #[.val (.int i0), .val (.int i1), .val (.int i2), .val (.int lo), .val (.int pr), .val (.long sc), .second, .val (.long bd), .second, .val (.long up), .second, .unset, .unset] [])) rfl (hb hby at_66) (by decide) (by decide)
    obtain ⟨b21, g21⟩ : ∃ z, z = h0.size := ⟨_, rfl⟩
    rw [← g21] at A21 D21 st21
    have sz22 : h0.size ≤ b21 := Nat.le_trans K0.1 (Nat.le_of_eq g21.symm)
    have ge23 : n0 ≤ b21 := Nat.le_trans Z0 sz22
    refine own_st st21 ?_
    have K24 : Keep h0 h21 [] := K0.ext E21
    have O25 := O0.ext E21
    show own_Run p e below s _ _ _ (T21.setTop (mkF m 69 #[.val (.int i0), .val (.int i1), .val (.int i2), .val (.int lo), .val (.int pr), .val (.long sc), .second, .val (.long bd), .second, .val (.long up), .second, .unset, .unset] [(.ref b21)]))
    refine own_st (fun t k => XS.dup X21.here hx rfl (hb hby at_69) rfl rfl k) ?_
    show own_Run p e below s _ _ _ (T21.setTop (mkF m 70 #[.val (.int i0), .val (.int i1), .val (.int i2), .val (.int lo), .val (.int pr), .val (.long sc), .second, .val (.long bd), .second, .val (.long up), .second, .unset, .unset] [(.ref b21), (.ref b21)]))
    refine own_st (fun t k => XS.iloadN X21.here hx rfl (hb hby at_70) rfl k) ?_
    show own_Run p e below s _ _ _ (T21.setTop (mkF m 71 #[.val (.int i0), .val (.int i1), .val (.int i2), .val (.int lo), .val (.int pr), .val (.long sc), .second, .val (.long bd), .second, .val (.long up), .second, .unset, .unset] [(.int lo), (.ref b21), (.ref b21)]))
    refine own_st (fun t k => XS.i2dS X21.here hx rfl (hb hby at_71) rfl (v := (FP.i2d lo)) (rfl) k) ?_
    show own_Run p e below s _ _ _ (T21.setTop (mkF m 72 #[.val (.int i0), .val (.int i1), .val (.int i2), .val (.int lo), .val (.int pr), .val (.long sc), .second, .val (.long bd), .second, .val (.long up), .second, .unset, .unset] [(.double (FP.i2d lo)), (.ref b21), (.ref b21)]))
    refine own_st (fun t k => XS.lload X21.here hx rfl (hb hby at_72) rfl k) ?_
    show own_Run p e below s _ _ _ (T21.setTop (mkF m 74 #[.val (.int i0), .val (.int i1), .val (.int i2), .val (.int lo), .val (.int pr), .val (.long sc), .second, .val (.long bd), .second, .val (.long up), .second, .unset, .unset] [(.long up), (.double (FP.i2d lo)), (.ref b21), (.ref b21)]))
    refine own_st (fun t k => XS.l2dS X21.here hx rfl (hb hby at_74) rfl (v := (FP.l2d up)) (rfl) k) ?_
    show own_Run p e below s _ _ _ (T21.setTop (mkF m 75 #[.val (.int i0), .val (.int i1), .val (.int i2), .val (.int lo), .val (.int pr), .val (.long sc), .second, .val (.long bd), .second, .val (.long up), .second, .unset, .unset] [(.double (FP.l2d up)), (.double (FP.i2d lo)), (.ref b21), (.ref b21)]))
    refine own_callI X21 hx hZ (y := (⟨"com/example/intervallum/intervallum/robust/ValueBounds", "<init>", "(DD)V"⟩ : MethodName)) rfl hown (hw _ (List.mem_of_getElem? (i := 7) rfl)) (hw _ (List.mem_of_getElem? (i := 8) rfl)) (hw _ (List.mem_of_getElem? (i := 9) rfl)) (hw _ (List.mem_of_getElem? (i := 6) rfl)) (by decide) e21 (a := b21) (argsL := [(.double (FP.i2d lo)), (.double (FP.l2d up))]) (rest := [(.ref b21)]) (W := 1) (own_rm2 l Z a0 hw [] b21 (FP.i2d lo) (FP.l2d up) h21 n0 (Nat.le_trans Z0 K24.1) A21 D21 ge23) (by decide) (by decide) (by rw [hml]; rfl) (lenOf own_pd5 rfl) rfl (by exact Nat.le_of_eq rfl) (hb hby at_75) (by decide) (by decide) ?_
    intro T26 v26 L26 X26 hq26
    obtain ⟨rfl, N26q, K26q, Q27, Q28, Q29⟩ := hq26
    have K30 : Keep h0 T26.heap [] := K24.trans K26q (allS (Or.inr sz22) all0)
    have O31 := O25.keep K26q (allS ge23 all0)
    have N26 := Fr.app N19 N26q
    show own_Run p e below s _ _ _ (T26.setTop (mkF m 78 #[.val (.int i0), .val (.int i1), .val (.int i2), .val (.int lo), .val (.int pr), .val (.long sc), .second, .val (.long bd), .second, .val (.long up), .second, .unset, .unset] [(.ref b21)]))
    refine own_st (fun t k => XS.astore X26.here hx rfl (hb hby at_78) rfl rfl (l' := #[.val (.int i0), .val (.int i1), .val (.int i2), .val (.int lo), .val (.int pr), .val (.long sc), .second, .val (.long bd), .second, .val (.long up), .second, .val (.ref b21), .unset]) rfl k) ?_
    show own_Run p e below s _ _ _ (T26.setTop (mkF m 80 #[.val (.int i0), .val (.int i1), .val (.int i2), .val (.int lo), .val (.int pr), .val (.long sc), .second, .val (.long bd), .second, .val (.long up), .second, .val (.ref b21), .unset] []))
    refine own_st (fun t k => XS.lload X26.here hx rfl (hb hby at_80) rfl k) ?_
    show own_Run p e below s _ _ _ (T26.setTop (mkF m 82 #[.val (.int i0), .val (.int i1), .val (.int i2), .val (.int lo), .val (.int pr), .val (.long sc), .second, .val (.long bd), .second, .val (.long up), .second, .val (.ref b21), .unset] [(.long up)]))
    refine own_st (fun t k => XS.iloadN X26.here hx rfl (hb hby at_82) rfl k) ?_
    show own_Run p e below s _ _ _ (T26.setTop (mkF m 83 #[.val (.int i0), .val (.int i1), .val (.int i2), .val (.int lo), .val (.int pr), .val (.long sc), .second, .val (.long bd), .second, .val (.long up), .second, .val (.ref b21), .unset] [(.int lo), (.long up)]))
    refine own_st (fun t k => XS.i2l X26.here hx rfl (hb hby at_83) rfl k) ?_
    show own_Run p e below s _ _ _ (T26.setTop (mkF m 84 #[.val (.int i0), .val (.int i1), .val (.int i2), .val (.int lo), .val (.int pr), .val (.long sc), .second, .val (.long bd), .second, .val (.long up), .second, .val (.ref b21), .unset] [(.long (lo.toInt64)), (.long up)]))
    refine own_st (fun t k => XS.lsub X26.here hx rfl (hb hby at_84) rfl k) ?_
    show own_Run p e below s _ _ _ (T26.setTop (mkF m 85 #[.val (.int i0), .val (.int i1), .val (.int i2), .val (.int lo), .val (.int pr), .val (.long sc), .second, .val (.long bd), .second, .val (.long up), .second, .val (.ref b21), .unset] [(.long (up - (lo.toInt64)))]))
    refine own_st (fun t k => XS.lload X26.here hx rfl (hb hby at_85) rfl k) ?_
    show own_Run p e below s _ _ _ (T26.setTop (mkF m 87 #[.val (.int i0), .val (.int i1), .val (.int i2), .val (.int lo), .val (.int pr), .val (.long sc), .second, .val (.long bd), .second, .val (.long up), .second, .val (.ref b21), .unset] [(.long bd), (.long (up - (lo.toInt64)))]))
    refine own_st (fun t k => XS.lcmp X26.here hx rfl (hb hby at_87) rfl k) ?_
    show own_Run p e below s _ _ _ (T26.setTop (mkF m 88 #[.val (.int i0), .val (.int i1), .val (.int i2), .val (.int lo), .val (.int pr), .val (.long sc), .second, .val (.long bd), .second, .val (.long up), .second, .val (.ref b21), .unset] [(.int (lcmpW (up - (lo.toInt64)) bd))]))
    by_cases hB : bd < (up - lo.toInt64)
    · skip
      refine own_st (fun t k => XS.ifYes X26.here hx rfl (pc0 := 88) (pc' := 95) rfl (hb hby at_88) rfl ((if0 _ _).trans (tlt ((lw_gt _ _).mpr hB : (0 : Int32) < (lcmpW (up - (lo.toInt64)) bd))).2.2.1) (by decide) (by decide) k) ?_
      show own_Run p e below s _ _ _ (T26.setTop (mkF m 95 #[.val (.int i0), .val (.int i1), .val (.int i2), .val (.int lo), .val (.int pr), .val (.long sc), .second, .val (.long bd), .second, .val (.long up), .second, .val (.ref b21), .unset] []))
      refine own_st (fun t k => XS.iconst X26.here hx rfl (hb hby at_95) k) ?_
      show own_Run p e below s _ _ _ (T26.setTop (mkF m 96 #[.val (.int i0), .val (.int i1), .val (.int i2), .val (.int lo), .val (.int pr), .val (.long sc), .second, .val (.long bd), .second, .val (.long up), .second, .val (.ref b21), .unset] [(.int (0 : Int32))]))
      refine own_st (fun t k => XS.istore X26.here hx rfl (hb hby at_96) rfl (l' := #[.val (.int i0), .val (.int i1), .val (.int i2), .val (.int lo), .val (.int pr), .val (.long sc), .second, .val (.long bd), .second, .val (.long up), .second, .val (.ref b21), .val (.int (0 : Int32))]) rfl k) ?_
      show own_Run p e below s _ _ _ (T26.setTop (mkF m 98 #[.val (.int i0), .val (.int i1), .val (.int i2), .val (.int lo), .val (.int pr), .val (.long sc), .second, .val (.long bd), .second, .val (.long up), .second, .val (.ref b21), .val (.int (0 : Int32))] []))
      refine own_st (fun t k => XS.aload X26.here hx rfl (hb hby at_98) rfl rfl k) ?_
      show own_Run p e below s _ _ _ (T26.setTop (mkF m 100 #[.val (.int i0), .val (.int i1), .val (.int i2), .val (.int lo), .val (.int pr), .val (.long sc), .second, .val (.long bd), .second, .val (.long up), .second, .val (.ref b21), .val (.int (0 : Int32))] [(.ref b21)]))
      refine own_st (fun t k => XS.iload X26.here hx rfl (hb hby at_100) rfl k) ?_
      show own_Run p e below s _ _ _ (T26.setTop (mkF m 102 #[.val (.int i0), .val (.int i1), .val (.int i2), .val (.int lo), .val (.int pr), .val (.long sc), .second, .val (.long bd), .second, .val (.long up), .second, .val (.ref b21), .val (.int (0 : Int32))] [(.int pr), (.ref b21)]))
      refine own_st (fun t k => XS.i2dS X26.here hx rfl (hb hby at_102) rfl (v := (FP.i2d pr)) (rfl) k) ?_
      show own_Run p e below s _ _ _ (T26.setTop (mkF m 103 #[.val (.int i0), .val (.int i1), .val (.int i2), .val (.int lo), .val (.int pr), .val (.long sc), .second, .val (.long bd), .second, .val (.long up), .second, .val (.ref b21), .val (.int (0 : Int32))] [(.double (FP.i2d pr)), (.ref b21)]))
      refine own_callV X26 hx hZ (y := (⟨"com/example/intervallum/intervallum/robust/ValueBounds", "within", "(D)Z"⟩ : MethodName)) (C := "com/example/intervallum/intervallum/robust/ValueBounds") hown (hw _ (List.mem_of_getElem? (i := 22) rfl)) (hw _ (List.mem_of_getElem? (i := 23) rfl)) (hw _ (List.mem_of_getElem? (i := 25) rfl)) (hw _ (List.mem_of_getElem? (i := 24) rfl)) (hw _ (List.mem_of_getElem? (i := 26) rfl)) (hw _ (List.mem_of_getElem? (i := 6) rfl)) (by decide) rfl (a := b21) Q27 (argsL := [(.double (FP.i2d pr))]) (rest := []) (W := 0) (own_rm5 l Z a0 hw [] b21 (FP.i2d pr) (FP.i2d lo) (FP.l2d up) (FP.l2d sc) T26.heap n0 (Nat.le_trans Z0 K30.1) Q28 Q29 (q0) (q1) (q2) (q3)) (by decide) (by decide) (by rw [hml]; rfl) (lenOf own_pd6 rfl) rfl (by exact Nat.le_of_eq rfl) (hb hby at_103) (by decide) (by decide) ?_
      intro T32 v32 L32 X32 hq32
      obtain ⟨rfl, N32q, hh32⟩ := hq32
      have N32 := Fr.app N26 N32q
      show own_Run p e below s _ _ _ (T32.setTop (mkF m 106 #[.val (.int i0), .val (.int i1), .val (.int i2), .val (.int lo), .val (.int pr), .val (.long sc), .second, .val (.long bd), .second, .val (.long up), .second, .val (.ref b21), .val (.int (0 : Int32))] [(.int (if (0 : Int32) < (cmpValue (FP.dcmp (FP.dsub (FP.l2d up) (FP.i2d lo)) (FP.dmul (FP.i2d pr) (FP.l2d sc))) .g) then 0 else 1 : Int32))]))
      refine own_st (fun t k => XS.iload X32.here hx rfl (hb hby at_106) rfl k) ?_
      show own_Run p e below s _ _ _ (T32.setTop (mkF m 108 #[.val (.int i0), .val (.int i1), .val (.int i2), .val (.int lo), .val (.int pr), .val (.long sc), .second, .val (.long bd), .second, .val (.long up), .second, .val (.ref b21), .val (.int (0 : Int32))] [(.int (0 : Int32)), (.int (if (0 : Int32) < (cmpValue (FP.dcmp (FP.dsub (FP.l2d up) (FP.i2d lo)) (FP.dmul (FP.i2d pr) (FP.l2d sc))) .g) then 0 else 1 : Int32))]))
      refine own_st (fun t k => XS.icmpNo X32.here hx rfl (hb hby at_108) rfl (teq ((if_pos (q5.mpr hB)) : (if (0 : Int32) < (cmpValue (FP.dcmp (FP.dsub (FP.l2d up) (FP.i2d lo)) (FP.dmul (FP.i2d pr) (FP.l2d sc))) .g) then 0 else 1 : Int32) = (0 : Int32))).2 k) ?_
      show own_Run p e below s _ _ _ (T32.setTop (mkF m 111 #[.val (.int i0), .val (.int i1), .val (.int i2), .val (.int lo), .val (.int pr), .val (.long sc), .second, .val (.long bd), .second, .val (.long up), .second, .val (.ref b21), .val (.int (0 : Int32))] []))
      refine own_st (fun t k => XS.iconst X32.here hx rfl (hb hby at_111) k) ?_
      show own_Run p e below s _ _ _ (T32.setTop (mkF m 112 #[.val (.int i0), .val (.int i1), .val (.int i2), .val (.int lo), .val (.int pr), .val (.long sc), .second, .val (.long bd), .second, .val (.long up), .second, .val (.ref b21), .val (.int (0 : Int32))] [(.int (1 : Int32))]))
      refine own_st (fun t k => XS.goto X32.here hx rfl (pc0 := 112) (pc' := 116) rfl (hb hby at_112) (by decide) (by decide) k) ?_
      show own_Run p e below s _ _ _ (T32.setTop (mkF m 116 #[.val (.int i0), .val (.int i1), .val (.int i2), .val (.int lo), .val (.int pr), .val (.long sc), .second, .val (.long bd), .second, .val (.long up), .second, .val (.ref b21), .val (.int (0 : Int32))] [(.int (1 : Int32))]))
      exact own_ret X32 hx hlk (t := .boolean) hret rfl (Or.inl ⟨rfl, by simp, _, rfl⟩) (hb hby at_116) (by decide) (by decide) ⟨rfl, N32⟩
    · skip
      refine own_st (fun t k => XS.ifNo X26.here hx rfl (hb hby at_88) rfl ((if0 _ _).trans (flt (fun q => hB ((lw_gt _ _).mp q) : ¬ ((0 : Int32) < (lcmpW (up - (lo.toInt64)) bd)))).2.2.1) k) ?_
      show own_Run p e below s _ _ _ (T26.setTop (mkF m 91 #[.val (.int i0), .val (.int i1), .val (.int i2), .val (.int lo), .val (.int pr), .val (.long sc), .second, .val (.long bd), .second, .val (.long up), .second, .val (.ref b21), .unset] []))
      refine own_st (fun t k => XS.iconst X26.here hx rfl (hb hby at_91) k) ?_
      show own_Run p e below s _ _ _ (T26.setTop (mkF m 92 #[.val (.int i0), .val (.int i1), .val (.int i2), .val (.int lo), .val (.int pr), .val (.long sc), .second, .val (.long bd), .second, .val (.long up), .second, .val (.ref b21), .unset] [(.int (1 : Int32))]))
      refine own_st (fun t k => XS.goto X26.here hx rfl (pc0 := 92) (pc' := 96) rfl (hb hby at_92) (by decide) (by decide) k) ?_
      show own_Run p e below s _ _ _ (T26.setTop (mkF m 96 #[.val (.int i0), .val (.int i1), .val (.int i2), .val (.int lo), .val (.int pr), .val (.long sc), .second, .val (.long bd), .second, .val (.long up), .second, .val (.ref b21), .unset] [(.int (1 : Int32))]))
      refine own_st (fun t k => XS.istore X26.here hx rfl (hb hby at_96) rfl (l' := #[.val (.int i0), .val (.int i1), .val (.int i2), .val (.int lo), .val (.int pr), .val (.long sc), .second, .val (.long bd), .second, .val (.long up), .second, .val (.ref b21), .val (.int (1 : Int32))]) rfl k) ?_
      show own_Run p e below s _ _ _ (T26.setTop (mkF m 98 #[.val (.int i0), .val (.int i1), .val (.int i2), .val (.int lo), .val (.int pr), .val (.long sc), .second, .val (.long bd), .second, .val (.long up), .second, .val (.ref b21), .val (.int (1 : Int32))] []))
      refine own_st (fun t k => XS.aload X26.here hx rfl (hb hby at_98) rfl rfl k) ?_
      show own_Run p e below s _ _ _ (T26.setTop (mkF m 100 #[.val (.int i0), .val (.int i1), .val (.int i2), .val (.int lo), .val (.int pr), .val (.long sc), .second, .val (.long bd), .second, .val (.long up), .second, .val (.ref b21), .val (.int (1 : Int32))] [(.ref b21)]))
      refine own_st (fun t k => XS.iload X26.here hx rfl (hb hby at_100) rfl k) ?_
      show own_Run p e below s _ _ _ (T26.setTop (mkF m 102 #[.val (.int i0), .val (.int i1), .val (.int i2), .val (.int lo), .val (.int pr), .val (.long sc), .second, .val (.long bd), .second, .val (.long up), .second, .val (.ref b21), .val (.int (1 : Int32))] [(.int pr), (.ref b21)]))
      refine own_st (fun t k => XS.i2dS X26.here hx rfl (hb hby at_102) rfl (v := (FP.i2d pr)) (rfl) k) ?_
      show own_Run p e below s _ _ _ (T26.setTop (mkF m 103 #[.val (.int i0), .val (.int i1), .val (.int i2), .val (.int lo), .val (.int pr), .val (.long sc), .second, .val (.long bd), .second, .val (.long up), .second, .val (.ref b21), .val (.int (1 : Int32))] [(.double (FP.i2d pr)), (.ref b21)]))
      refine own_callV X26 hx hZ (y := (⟨"com/example/intervallum/intervallum/robust/ValueBounds", "within", "(D)Z"⟩ : MethodName)) (C := "com/example/intervallum/intervallum/robust/ValueBounds") hown (hw _ (List.mem_of_getElem? (i := 22) rfl)) (hw _ (List.mem_of_getElem? (i := 23) rfl)) (hw _ (List.mem_of_getElem? (i := 25) rfl)) (hw _ (List.mem_of_getElem? (i := 24) rfl)) (hw _ (List.mem_of_getElem? (i := 26) rfl)) (hw _ (List.mem_of_getElem? (i := 6) rfl)) (by decide) rfl (a := b21) Q27 (argsL := [(.double (FP.i2d pr))]) (rest := []) (W := 0) (own_rm5 l Z a0 hw [] b21 (FP.i2d pr) (FP.i2d lo) (FP.l2d up) (FP.l2d sc) T26.heap n0 (Nat.le_trans Z0 K30.1) Q28 Q29 (q0) (q1) (q2) (q3)) (by decide) (by decide) (by rw [hml]; rfl) (lenOf own_pd6 rfl) rfl (by exact Nat.le_of_eq rfl) (hb hby at_103) (by decide) (by decide) ?_
      intro T33 v33 L33 X33 hq33
      obtain ⟨rfl, N33q, hh33⟩ := hq33
      have N33 := Fr.app N26 N33q
      show own_Run p e below s _ _ _ (T33.setTop (mkF m 106 #[.val (.int i0), .val (.int i1), .val (.int i2), .val (.int lo), .val (.int pr), .val (.long sc), .second, .val (.long bd), .second, .val (.long up), .second, .val (.ref b21), .val (.int (1 : Int32))] [(.int (if (0 : Int32) < (cmpValue (FP.dcmp (FP.dsub (FP.l2d up) (FP.i2d lo)) (FP.dmul (FP.i2d pr) (FP.l2d sc))) .g) then 0 else 1 : Int32))]))
      refine own_st (fun t k => XS.iload X33.here hx rfl (hb hby at_106) rfl k) ?_
      show own_Run p e below s _ _ _ (T33.setTop (mkF m 108 #[.val (.int i0), .val (.int i1), .val (.int i2), .val (.int lo), .val (.int pr), .val (.long sc), .second, .val (.long bd), .second, .val (.long up), .second, .val (.ref b21), .val (.int (1 : Int32))] [(.int (1 : Int32)), (.int (if (0 : Int32) < (cmpValue (FP.dcmp (FP.dsub (FP.l2d up) (FP.i2d lo)) (FP.dmul (FP.i2d pr) (FP.l2d sc))) .g) then 0 else 1 : Int32))]))
      refine own_st (fun t k => XS.icmpNo X33.here hx rfl (hb hby at_108) rfl (teq ((if_neg fun z => hB (q5.mp z)) : (if (0 : Int32) < (cmpValue (FP.dcmp (FP.dsub (FP.l2d up) (FP.i2d lo)) (FP.dmul (FP.i2d pr) (FP.l2d sc))) .g) then 0 else 1 : Int32) = (1 : Int32))).2 k) ?_
      show own_Run p e below s _ _ _ (T33.setTop (mkF m 111 #[.val (.int i0), .val (.int i1), .val (.int i2), .val (.int lo), .val (.int pr), .val (.long sc), .second, .val (.long bd), .second, .val (.long up), .second, .val (.ref b21), .val (.int (1 : Int32))] []))
      refine own_st (fun t k => XS.iconst X33.here hx rfl (hb hby at_111) k) ?_
      show own_Run p e below s _ _ _ (T33.setTop (mkF m 112 #[.val (.int i0), .val (.int i1), .val (.int i2), .val (.int lo), .val (.int pr), .val (.long sc), .second, .val (.long bd), .second, .val (.long up), .second, .val (.ref b21), .val (.int (1 : Int32))] [(.int (1 : Int32))]))
      refine own_st (fun t k => XS.goto X33.here hx rfl (pc0 := 112) (pc' := 116) rfl (hb hby at_112) (by decide) (by decide) k) ?_
      show own_Run p e below s _ _ _ (T33.setTop (mkF m 116 #[.val (.int i0), .val (.int i1), .val (.int i2), .val (.int lo), .val (.int pr), .val (.long sc), .second, .val (.long bd), .second, .val (.long up), .second, .val (.ref b21), .val (.int (1 : Int32))] [(.int (1 : Int32))]))
      exact own_ret X33 hx hlk (t := .boolean) hret rfl (Or.inl ⟨rfl, by simp, _, rfl⟩) (hb hby at_116) (by decide) (by decide) ⟨rfl, N33⟩
  · skip
    refine own_st (fun t k => XS.ifYes X19.here hx rfl (pc0 := 36) (pc' := 52) rfl (hb hby at_36) rfl ((if0 _ _).trans (feq (hc20 : ¬ ((i1 &&& (1 : Int32)) = (0 : Int32)))).2) (by decide) (by decide) k) ?_
    show own_Run p e below s _ _ _ (T19.setTop (mkF m 52 #[.val (.int i0), .val (.int i1), .val (.int i2), .val (.int lo), .val (.int pr), .val (.long sc), .second, .val (.long bd), .second, .unset, .unset, .unset, .unset] []))
    refine own_st (fun t k => XS.iloadN X19.here hx rfl (hb hby at_52) rfl k) ?_
    show own_Run p e below s _ _ _ (T19.setTop (mkF m 53 #[.val (.int i0), .val (.int i1), .val (.int i2), .val (.int lo), .val (.int pr), .val (.long sc), .second, .val (.long bd), .second, .unset, .unset, .unset, .unset] [(.int lo)]))
    refine own_st (fun t k => XS.i2l X19.here hx rfl (hb hby at_53) rfl k) ?_
    show own_Run p e below s _ _ _ (T19.setTop (mkF m 54 #[.val (.int i0), .val (.int i1), .val (.int i2), .val (.int lo), .val (.int pr), .val (.long sc), .second, .val (.long bd), .second, .unset, .unset, .unset, .unset] [(.long (lo.toInt64))]))
    refine own_st (fun t k => XS.lload X19.here hx rfl (hb hby at_54) rfl k) ?_
    show own_Run p e below s _ _ _ (T19.setTop (mkF m 56 #[.val (.int i0), .val (.int i1), .val (.int i2), .val (.int lo), .val (.int pr), .val (.long sc), .second, .val (.long bd), .second, .unset, .unset, .unset, .unset] [(.long bd), (.long (lo.toInt64))]))
    refine own_st (fun t k => XS.ladd X19.here hx rfl (hb hby at_56) rfl k) ?_
    show own_Run p e below s _ _ _ (T19.setTop (mkF m 57 #[.val (.int i0), .val (.int i1), .val (.int i2), .val (.int lo), .val (.int pr), .val (.long sc), .second, .val (.long bd), .second, .unset, .unset, .unset, .unset] [(.long ((lo.toInt64) + bd))]))
    refine own_st (fun t k => XS.iloadN X19.here hx rfl (hb hby at_57) rfl k) ?_
    show own_Run p e below s _ _ _ (T19.setTop (mkF m 58 #[.val (.int i0), .val (.int i1), .val (.int i2), .val (.int lo), .val (.int pr), .val (.long sc), .second, .val (.long bd), .second, .unset, .unset, .unset, .unset] [(.int i1), (.long ((lo.toInt64) + bd))]))
    refine own_st (fun t k => XS.iconst X19.here hx rfl (hb hby at_58) k) ?_
    show own_Run p e below s _ _ _ (T19.setTop (mkF m 59 #[.val (.int i0), .val (.int i1), .val (.int i2), .val (.int lo), .val (.int pr), .val (.long sc), .second, .val (.long bd), .second, .unset, .unset, .unset, .unset] [(.int (1 : Int32)), (.int i1), (.long ((lo.toInt64) + bd))]))
    refine own_st (fun t k => XS.ishr X19.here hx rfl (hb hby at_59) rfl k) ?_
    show own_Run p e below s _ _ _ (T19.setTop (mkF m 60 #[.val (.int i0), .val (.int i1), .val (.int i2), .val (.int lo), .val (.int pr), .val (.long sc), .second, .val (.long bd), .second, .unset, .unset, .unset, .unset] [(.int (i1 >>> ((1 : Int32) &&& 31))), (.long ((lo.toInt64) + bd))]))
    refine own_st (fun t k => XS.iconst X19.here hx rfl (hb hby at_60) k) ?_
    show own_Run p e below s _ _ _ (T19.setTop (mkF m 61 #[.val (.int i0), .val (.int i1), .val (.int i2), .val (.int lo), .val (.int pr), .val (.long sc), .second, .val (.long bd), .second, .unset, .unset, .unset, .unset] [(.int (3 : Int32)), (.int (i1 >>> ((1 : Int32) &&& 31))), (.long ((lo.toInt64) + bd))]))
    refine own_st (fun t k => iremM X19 hx rfl (hb hby at_61) rfl (by decide) k) ?_
    show own_Run p e below s _ _ _ (T19.setTop (mkF m 62 #[.val (.int i0), .val (.int i1), .val (.int i2), .val (.int lo), .val (.int pr), .val (.long sc), .second, .val (.long bd), .second, .unset, .unset, .unset, .unset] [(.int ((i1 >>> ((1 : Int32) &&& 31)) % (3 : Int32))), (.long ((lo.toInt64) + bd))]))
    refine own_st (fun t k => XS.i2l X19.here hx rfl (hb hby at_62) rfl k) ?_
    show own_Run p e below s _ _ _ (T19.setTop (mkF m 63 #[.val (.int i0), .val (.int i1), .val (.int i2), .val (.int lo), .val (.int pr), .val (.long sc), .second, .val (.long bd), .second, .unset, .unset, .unset, .unset] [(.long (((i1 >>> ((1 : Int32) &&& 31)) % (3 : Int32)).toInt64)), (.long ((lo.toInt64) + bd))]))
    refine own_st (fun t k => XS.ladd X19.here hx rfl (hb hby at_63) rfl k) ?_
    show own_Run p e below s _ _ _ (T19.setTop (mkF m 64 #[.val (.int i0), .val (.int i1), .val (.int i2), .val (.int lo), .val (.int pr), .val (.long sc), .second, .val (.long bd), .second, .unset, .unset, .unset, .unset] [(.long (((lo.toInt64) + bd) + (((i1 >>> ((1 : Int32) &&& 31)) % (3 : Int32)).toInt64)))]))
    obtain ⟨up, h_up⟩ : ∃ z, ((((lo.toInt64) + bd) + (((i1 >>> ((1 : Int32) &&& 31)) % (3 : Int32)).toInt64)) : Int64) = z := ⟨_, rfl⟩
    refine own_topJ h_up ?_
    show own_Run p e below s _ _ _ (T19.setTop (mkF m 64 #[.val (.int i0), .val (.int i1), .val (.int i2), .val (.int lo), .val (.int pr), .val (.long sc), .second, .val (.long bd), .second, .unset, .unset, .unset, .unset] [(.long up)]))
    have r_up : up.toInt.natAbs ≤ 1099511627776 := own_up r_lo r_pr h_sc h_bd h_up
    obtain ⟨q0, q1, q2, q3, q5⟩ := own_within r_lo r_pr h_sc h_bd r_up
    refine own_st (fun t k => XS.lstore X19.here hx rfl (hb hby at_64) rfl (l' := #[.val (.int i0), .val (.int i1), .val (.int i2), .val (.int lo), .val (.int pr), .val (.long sc), .second, .val (.long bd), .second, .val (.long up), .second, .unset, .unset]) rfl k) ?_
    show own_Run p e below s _ _ _ (T19.setTop (mkF m 66 #[.val (.int i0), .val (.int i1), .val (.int i2), .val (.int lo), .val (.int pr), .val (.long sc), .second, .val (.long bd), .second, .val (.long up), .second, .unset, .unset] []))
    obtain ⟨T34, h34, X34, e34, E34, A34, D34, -, st34⟩ := newO X19 hx hZ hown (hw _ (List.mem_of_getElem? (i := 4) rfl)) (hw _ (List.mem_of_getElem? (i := 5) rfl)) (hw _ (List.mem_of_getElem? (i := 6) rfl)) hh19 (g := (mkF m 66 #[.val (.int i0), .val (.int i1), .val (.int i2), .val (.int lo), .val (.int pr), .val (.long sc), .second, .val (.long bd), .second, .val (.long up), .second, .unset, .unset] [])) rfl (hb hby at_66) (by decide) (by decide)
    obtain ⟨b34, g34⟩ : ∃ z, z = h0.size := ⟨_, rfl⟩
    rw [← g34] at A34 D34 st34
    have sz35 : h0.size ≤ b34 := Nat.le_trans K0.1 (Nat.le_of_eq g34.symm)
    have ge36 : n0 ≤ b34 := Nat.le_trans Z0 sz35
    refine own_st st34 ?_
    have K37 : Keep h0 h34 [] := K0.ext E34
    have O38 := O0.ext E34
    show own_Run p e below s _ _ _ (T34.setTop (mkF m 69 #[.val (.int i0), .val (.int i1), .val (.int i2), .val (.int lo), .val (.int pr), .val (.long sc), .second, .val (.long bd), .second, .val (.long up), .second, .unset, .unset] [(.ref b34)]))
    refine own_st (fun t k => XS.dup X34.here hx rfl (hb hby at_69) rfl rfl k) ?_
    show own_Run p e below s _ _ _ (T34.setTop (mkF m 70 #[.val (.int i0), .val (.int i1), .val (.int i2), .val (.int lo), .val (.int pr), .val (.long sc), .second, .val (.long bd), .second, .val (.long up), .second, .unset, .unset] [(.ref b34), (.ref b34)]))
    refine own_st (fun t k => XS.iloadN X34.here hx rfl (hb hby at_70) rfl k) ?_
    show own_Run p e below s _ _ _ (T34.setTop (mkF m 71 #[.val (.int i0), .val (.int i1), .val (.int i2), .val (.int lo), .val (.int pr), .val (.long sc), .second, .val (.long bd), .second, .val (.long up), .second, .unset, .unset] [(.int lo), (.ref b34), (.ref b34)]))
    refine own_st (fun t k => XS.i2dS X34.here hx rfl (hb hby at_71) rfl (v := (FP.i2d lo)) (rfl) k) ?_
    show own_Run p e below s _ _ _ (T34.setTop (mkF m 72 #[.val (.int i0), .val (.int i1), .val (.int i2), .val (.int lo), .val (.int pr), .val (.long sc), .second, .val (.long bd), .second, .val (.long up), .second, .unset, .unset] [(.double (FP.i2d lo)), (.ref b34), (.ref b34)]))
    refine own_st (fun t k => XS.lload X34.here hx rfl (hb hby at_72) rfl k) ?_
    show own_Run p e below s _ _ _ (T34.setTop (mkF m 74 #[.val (.int i0), .val (.int i1), .val (.int i2), .val (.int lo), .val (.int pr), .val (.long sc), .second, .val (.long bd), .second, .val (.long up), .second, .unset, .unset] [(.long up), (.double (FP.i2d lo)), (.ref b34), (.ref b34)]))
    refine own_st (fun t k => XS.l2dS X34.here hx rfl (hb hby at_74) rfl (v := (FP.l2d up)) (rfl) k) ?_
    show own_Run p e below s _ _ _ (T34.setTop (mkF m 75 #[.val (.int i0), .val (.int i1), .val (.int i2), .val (.int lo), .val (.int pr), .val (.long sc), .second, .val (.long bd), .second, .val (.long up), .second, .unset, .unset] [(.double (FP.l2d up)), (.double (FP.i2d lo)), (.ref b34), (.ref b34)]))
    refine own_callI X34 hx hZ (y := (⟨"com/example/intervallum/intervallum/robust/ValueBounds", "<init>", "(DD)V"⟩ : MethodName)) rfl hown (hw _ (List.mem_of_getElem? (i := 7) rfl)) (hw _ (List.mem_of_getElem? (i := 8) rfl)) (hw _ (List.mem_of_getElem? (i := 9) rfl)) (hw _ (List.mem_of_getElem? (i := 6) rfl)) (by decide) e34 (a := b34) (argsL := [(.double (FP.i2d lo)), (.double (FP.l2d up))]) (rest := [(.ref b34)]) (W := 1) (own_rm2 l Z a0 hw [] b34 (FP.i2d lo) (FP.l2d up) h34 n0 (Nat.le_trans Z0 K37.1) A34 D34 ge36) (by decide) (by decide) (by rw [hml]; rfl) (lenOf own_pd5 rfl) rfl (by exact Nat.le_of_eq rfl) (hb hby at_75) (by decide) (by decide) ?_
    intro T39 v39 L39 X39 hq39
    obtain ⟨rfl, N39q, K39q, Q40, Q41, Q42⟩ := hq39
    have K43 : Keep h0 T39.heap [] := K37.trans K39q (allS (Or.inr sz35) all0)
    have O44 := O38.keep K39q (allS ge36 all0)
    have N39 := Fr.app N19 N39q
    show own_Run p e below s _ _ _ (T39.setTop (mkF m 78 #[.val (.int i0), .val (.int i1), .val (.int i2), .val (.int lo), .val (.int pr), .val (.long sc), .second, .val (.long bd), .second, .val (.long up), .second, .unset, .unset] [(.ref b34)]))
    refine own_st (fun t k => XS.astore X39.here hx rfl (hb hby at_78) rfl rfl (l' := #[.val (.int i0), .val (.int i1), .val (.int i2), .val (.int lo), .val (.int pr), .val (.long sc), .second, .val (.long bd), .second, .val (.long up), .second, .val (.ref b34), .unset]) rfl k) ?_
    show own_Run p e below s _ _ _ (T39.setTop (mkF m 80 #[.val (.int i0), .val (.int i1), .val (.int i2), .val (.int lo), .val (.int pr), .val (.long sc), .second, .val (.long bd), .second, .val (.long up), .second, .val (.ref b34), .unset] []))
    refine own_st (fun t k => XS.lload X39.here hx rfl (hb hby at_80) rfl k) ?_
    show own_Run p e below s _ _ _ (T39.setTop (mkF m 82 #[.val (.int i0), .val (.int i1), .val (.int i2), .val (.int lo), .val (.int pr), .val (.long sc), .second, .val (.long bd), .second, .val (.long up), .second, .val (.ref b34), .unset] [(.long up)]))
    refine own_st (fun t k => XS.iloadN X39.here hx rfl (hb hby at_82) rfl k) ?_
    show own_Run p e below s _ _ _ (T39.setTop (mkF m 83 #[.val (.int i0), .val (.int i1), .val (.int i2), .val (.int lo), .val (.int pr), .val (.long sc), .second, .val (.long bd), .second, .val (.long up), .second, .val (.ref b34), .unset] [(.int lo), (.long up)]))
    refine own_st (fun t k => XS.i2l X39.here hx rfl (hb hby at_83) rfl k) ?_
    show own_Run p e below s _ _ _ (T39.setTop (mkF m 84 #[.val (.int i0), .val (.int i1), .val (.int i2), .val (.int lo), .val (.int pr), .val (.long sc), .second, .val (.long bd), .second, .val (.long up), .second, .val (.ref b34), .unset] [(.long (lo.toInt64)), (.long up)]))
    refine own_st (fun t k => XS.lsub X39.here hx rfl (hb hby at_84) rfl k) ?_
    show own_Run p e below s _ _ _ (T39.setTop (mkF m 85 #[.val (.int i0), .val (.int i1), .val (.int i2), .val (.int lo), .val (.int pr), .val (.long sc), .second, .val (.long bd), .second, .val (.long up), .second, .val (.ref b34), .unset] [(.long (up - (lo.toInt64)))]))
    refine own_st (fun t k => XS.lload X39.here hx rfl (hb hby at_85) rfl k) ?_
    show own_Run p e below s _ _ _ (T39.setTop (mkF m 87 #[.val (.int i0), .val (.int i1), .val (.int i2), .val (.int lo), .val (.int pr), .val (.long sc), .second, .val (.long bd), .second, .val (.long up), .second, .val (.ref b34), .unset] [(.long bd), (.long (up - (lo.toInt64)))]))
    refine own_st (fun t k => XS.lcmp X39.here hx rfl (hb hby at_87) rfl k) ?_
    show own_Run p e below s _ _ _ (T39.setTop (mkF m 88 #[.val (.int i0), .val (.int i1), .val (.int i2), .val (.int lo), .val (.int pr), .val (.long sc), .second, .val (.long bd), .second, .val (.long up), .second, .val (.ref b34), .unset] [(.int (lcmpW (up - (lo.toInt64)) bd))]))
    by_cases hB : bd < (up - lo.toInt64)
    · skip
      refine own_st (fun t k => XS.ifYes X39.here hx rfl (pc0 := 88) (pc' := 95) rfl (hb hby at_88) rfl ((if0 _ _).trans (tlt ((lw_gt _ _).mpr hB : (0 : Int32) < (lcmpW (up - (lo.toInt64)) bd))).2.2.1) (by decide) (by decide) k) ?_
      show own_Run p e below s _ _ _ (T39.setTop (mkF m 95 #[.val (.int i0), .val (.int i1), .val (.int i2), .val (.int lo), .val (.int pr), .val (.long sc), .second, .val (.long bd), .second, .val (.long up), .second, .val (.ref b34), .unset] []))
      refine own_st (fun t k => XS.iconst X39.here hx rfl (hb hby at_95) k) ?_
      show own_Run p e below s _ _ _ (T39.setTop (mkF m 96 #[.val (.int i0), .val (.int i1), .val (.int i2), .val (.int lo), .val (.int pr), .val (.long sc), .second, .val (.long bd), .second, .val (.long up), .second, .val (.ref b34), .unset] [(.int (0 : Int32))]))
      refine own_st (fun t k => XS.istore X39.here hx rfl (hb hby at_96) rfl (l' := #[.val (.int i0), .val (.int i1), .val (.int i2), .val (.int lo), .val (.int pr), .val (.long sc), .second, .val (.long bd), .second, .val (.long up), .second, .val (.ref b34), .val (.int (0 : Int32))]) rfl k) ?_
      show own_Run p e below s _ _ _ (T39.setTop (mkF m 98 #[.val (.int i0), .val (.int i1), .val (.int i2), .val (.int lo), .val (.int pr), .val (.long sc), .second, .val (.long bd), .second, .val (.long up), .second, .val (.ref b34), .val (.int (0 : Int32))] []))
      refine own_st (fun t k => XS.aload X39.here hx rfl (hb hby at_98) rfl rfl k) ?_
      show own_Run p e below s _ _ _ (T39.setTop (mkF m 100 #[.val (.int i0), .val (.int i1), .val (.int i2), .val (.int lo), .val (.int pr), .val (.long sc), .second, .val (.long bd), .second, .val (.long up), .second, .val (.ref b34), .val (.int (0 : Int32))] [(.ref b34)]))
      refine own_st (fun t k => XS.iload X39.here hx rfl (hb hby at_100) rfl k) ?_
      show own_Run p e below s _ _ _ (T39.setTop (mkF m 102 #[.val (.int i0), .val (.int i1), .val (.int i2), .val (.int lo), .val (.int pr), .val (.long sc), .second, .val (.long bd), .second, .val (.long up), .second, .val (.ref b34), .val (.int (0 : Int32))] [(.int pr), (.ref b34)]))
      refine own_st (fun t k => XS.i2dS X39.here hx rfl (hb hby at_102) rfl (v := (FP.i2d pr)) (rfl) k) ?_
      show own_Run p e below s _ _ _ (T39.setTop (mkF m 103 #[.val (.int i0), .val (.int i1), .val (.int i2), .val (.int lo), .val (.int pr), .val (.long sc), .second, .val (.long bd), .second, .val (.long up), .second, .val (.ref b34), .val (.int (0 : Int32))] [(.double (FP.i2d pr)), (.ref b34)]))
      refine own_callV X39 hx hZ (y := (⟨"com/example/intervallum/intervallum/robust/ValueBounds", "within", "(D)Z"⟩ : MethodName)) (C := "com/example/intervallum/intervallum/robust/ValueBounds") hown (hw _ (List.mem_of_getElem? (i := 22) rfl)) (hw _ (List.mem_of_getElem? (i := 23) rfl)) (hw _ (List.mem_of_getElem? (i := 25) rfl)) (hw _ (List.mem_of_getElem? (i := 24) rfl)) (hw _ (List.mem_of_getElem? (i := 26) rfl)) (hw _ (List.mem_of_getElem? (i := 6) rfl)) (by decide) rfl (a := b34) Q40 (argsL := [(.double (FP.i2d pr))]) (rest := []) (W := 0) (own_rm5 l Z a0 hw [] b34 (FP.i2d pr) (FP.i2d lo) (FP.l2d up) (FP.l2d sc) T39.heap n0 (Nat.le_trans Z0 K43.1) Q41 Q42 (q0) (q1) (q2) (q3)) (by decide) (by decide) (by rw [hml]; rfl) (lenOf own_pd6 rfl) rfl (by exact Nat.le_of_eq rfl) (hb hby at_103) (by decide) (by decide) ?_
      intro T45 v45 L45 X45 hq45
      obtain ⟨rfl, N45q, hh45⟩ := hq45
      have N45 := Fr.app N39 N45q
      show own_Run p e below s _ _ _ (T45.setTop (mkF m 106 #[.val (.int i0), .val (.int i1), .val (.int i2), .val (.int lo), .val (.int pr), .val (.long sc), .second, .val (.long bd), .second, .val (.long up), .second, .val (.ref b34), .val (.int (0 : Int32))] [(.int (if (0 : Int32) < (cmpValue (FP.dcmp (FP.dsub (FP.l2d up) (FP.i2d lo)) (FP.dmul (FP.i2d pr) (FP.l2d sc))) .g) then 0 else 1 : Int32))]))
      refine own_st (fun t k => XS.iload X45.here hx rfl (hb hby at_106) rfl k) ?_
      show own_Run p e below s _ _ _ (T45.setTop (mkF m 108 #[.val (.int i0), .val (.int i1), .val (.int i2), .val (.int lo), .val (.int pr), .val (.long sc), .second, .val (.long bd), .second, .val (.long up), .second, .val (.ref b34), .val (.int (0 : Int32))] [(.int (0 : Int32)), (.int (if (0 : Int32) < (cmpValue (FP.dcmp (FP.dsub (FP.l2d up) (FP.i2d lo)) (FP.dmul (FP.i2d pr) (FP.l2d sc))) .g) then 0 else 1 : Int32))]))
      refine own_st (fun t k => XS.icmpNo X45.here hx rfl (hb hby at_108) rfl (teq ((if_pos (q5.mpr hB)) : (if (0 : Int32) < (cmpValue (FP.dcmp (FP.dsub (FP.l2d up) (FP.i2d lo)) (FP.dmul (FP.i2d pr) (FP.l2d sc))) .g) then 0 else 1 : Int32) = (0 : Int32))).2 k) ?_
      show own_Run p e below s _ _ _ (T45.setTop (mkF m 111 #[.val (.int i0), .val (.int i1), .val (.int i2), .val (.int lo), .val (.int pr), .val (.long sc), .second, .val (.long bd), .second, .val (.long up), .second, .val (.ref b34), .val (.int (0 : Int32))] []))
      refine own_st (fun t k => XS.iconst X45.here hx rfl (hb hby at_111) k) ?_
      show own_Run p e below s _ _ _ (T45.setTop (mkF m 112 #[.val (.int i0), .val (.int i1), .val (.int i2), .val (.int lo), .val (.int pr), .val (.long sc), .second, .val (.long bd), .second, .val (.long up), .second, .val (.ref b34), .val (.int (0 : Int32))] [(.int (1 : Int32))]))
      refine own_st (fun t k => XS.goto X45.here hx rfl (pc0 := 112) (pc' := 116) rfl (hb hby at_112) (by decide) (by decide) k) ?_
      show own_Run p e below s _ _ _ (T45.setTop (mkF m 116 #[.val (.int i0), .val (.int i1), .val (.int i2), .val (.int lo), .val (.int pr), .val (.long sc), .second, .val (.long bd), .second, .val (.long up), .second, .val (.ref b34), .val (.int (0 : Int32))] [(.int (1 : Int32))]))
      exact own_ret X45 hx hlk (t := .boolean) hret rfl (Or.inl ⟨rfl, by simp, _, rfl⟩) (hb hby at_116) (by decide) (by decide) ⟨rfl, N45⟩
    · skip
      refine own_st (fun t k => XS.ifNo X39.here hx rfl (hb hby at_88) rfl ((if0 _ _).trans (flt (fun q => hB ((lw_gt _ _).mp q) : ¬ ((0 : Int32) < (lcmpW (up - (lo.toInt64)) bd)))).2.2.1) k) ?_
      show own_Run p e below s _ _ _ (T39.setTop (mkF m 91 #[.val (.int i0), .val (.int i1), .val (.int i2), .val (.int lo), .val (.int pr), .val (.long sc), .second, .val (.long bd), .second, .val (.long up), .second, .val (.ref b34), .unset] []))
      refine own_st (fun t k => XS.iconst X39.here hx rfl (hb hby at_91) k) ?_
      show own_Run p e below s _ _ _ (T39.setTop (mkF m 92 #[.val (.int i0), .val (.int i1), .val (.int i2), .val (.int lo), .val (.int pr), .val (.long sc), .second, .val (.long bd), .second, .val (.long up), .second, .val (.ref b34), .unset] [(.int (1 : Int32))]))
      refine own_st (fun t k => XS.goto X39.here hx rfl (pc0 := 92) (pc' := 96) rfl (hb hby at_92) (by decide) (by decide) k) ?_
      show own_Run p e below s _ _ _ (T39.setTop (mkF m 96 #[.val (.int i0), .val (.int i1), .val (.int i2), .val (.int lo), .val (.int pr), .val (.long sc), .second, .val (.long bd), .second, .val (.long up), .second, .val (.ref b34), .unset] [(.int (1 : Int32))]))
      refine own_st (fun t k => XS.istore X39.here hx rfl (hb hby at_96) rfl (l' := #[.val (.int i0), .val (.int i1), .val (.int i2), .val (.int lo), .val (.int pr), .val (.long sc), .second, .val (.long bd), .second, .val (.long up), .second, .val (.ref b34), .val (.int (1 : Int32))]) rfl k) ?_
      show own_Run p e below s _ _ _ (T39.setTop (mkF m 98 #[.val (.int i0), .val (.int i1), .val (.int i2), .val (.int lo), .val (.int pr), .val (.long sc), .second, .val (.long bd), .second, .val (.long up), .second, .val (.ref b34), .val (.int (1 : Int32))] []))
      refine own_st (fun t k => XS.aload X39.here hx rfl (hb hby at_98) rfl rfl k) ?_
      show own_Run p e below s _ _ _ (T39.setTop (mkF m 100 #[.val (.int i0), .val (.int i1), .val (.int i2), .val (.int lo), .val (.int pr), .val (.long sc), .second, .val (.long bd), .second, .val (.long up), .second, .val (.ref b34), .val (.int (1 : Int32))] [(.ref b34)]))
      refine own_st (fun t k => XS.iload X39.here hx rfl (hb hby at_100) rfl k) ?_
      show own_Run p e below s _ _ _ (T39.setTop (mkF m 102 #[.val (.int i0), .val (.int i1), .val (.int i2), .val (.int lo), .val (.int pr), .val (.long sc), .second, .val (.long bd), .second, .val (.long up), .second, .val (.ref b34), .val (.int (1 : Int32))] [(.int pr), (.ref b34)]))
      refine own_st (fun t k => XS.i2dS X39.here hx rfl (hb hby at_102) rfl (v := (FP.i2d pr)) (rfl) k) ?_
      show own_Run p e below s _ _ _ (T39.setTop (mkF m 103 #[.val (.int i0), .val (.int i1), .val (.int i2), .val (.int lo), .val (.int pr), .val (.long sc), .second, .val (.long bd), .second, .val (.long up), .second, .val (.ref b34), .val (.int (1 : Int32))] [(.double (FP.i2d pr)), (.ref b34)]))
      refine own_callV X39 hx hZ (y := (⟨"com/example/intervallum/intervallum/robust/ValueBounds", "within", "(D)Z"⟩ : MethodName)) (C := "com/example/intervallum/intervallum/robust/ValueBounds") hown (hw _ (List.mem_of_getElem? (i := 22) rfl)) (hw _ (List.mem_of_getElem? (i := 23) rfl)) (hw _ (List.mem_of_getElem? (i := 25) rfl)) (hw _ (List.mem_of_getElem? (i := 24) rfl)) (hw _ (List.mem_of_getElem? (i := 26) rfl)) (hw _ (List.mem_of_getElem? (i := 6) rfl)) (by decide) rfl (a := b34) Q40 (argsL := [(.double (FP.i2d pr))]) (rest := []) (W := 0) (own_rm5 l Z a0 hw [] b34 (FP.i2d pr) (FP.i2d lo) (FP.l2d up) (FP.l2d sc) T39.heap n0 (Nat.le_trans Z0 K43.1) Q41 Q42 (q0) (q1) (q2) (q3)) (by decide) (by decide) (by rw [hml]; rfl) (lenOf own_pd6 rfl) rfl (by exact Nat.le_of_eq rfl) (hb hby at_103) (by decide) (by decide) ?_
      intro T46 v46 L46 X46 hq46
      obtain ⟨rfl, N46q, hh46⟩ := hq46
      have N46 := Fr.app N39 N46q
      show own_Run p e below s _ _ _ (T46.setTop (mkF m 106 #[.val (.int i0), .val (.int i1), .val (.int i2), .val (.int lo), .val (.int pr), .val (.long sc), .second, .val (.long bd), .second, .val (.long up), .second, .val (.ref b34), .val (.int (1 : Int32))] [(.int (if (0 : Int32) < (cmpValue (FP.dcmp (FP.dsub (FP.l2d up) (FP.i2d lo)) (FP.dmul (FP.i2d pr) (FP.l2d sc))) .g) then 0 else 1 : Int32))]))
      refine own_st (fun t k => XS.iload X46.here hx rfl (hb hby at_106) rfl k) ?_
      show own_Run p e below s _ _ _ (T46.setTop (mkF m 108 #[.val (.int i0), .val (.int i1), .val (.int i2), .val (.int lo), .val (.int pr), .val (.long sc), .second, .val (.long bd), .second, .val (.long up), .second, .val (.ref b34), .val (.int (1 : Int32))] [(.int (1 : Int32)), (.int (if (0 : Int32) < (cmpValue (FP.dcmp (FP.dsub (FP.l2d up) (FP.i2d lo)) (FP.dmul (FP.i2d pr) (FP.l2d sc))) .g) then 0 else 1 : Int32))]))
      refine own_st (fun t k => XS.icmpNo X46.here hx rfl (hb hby at_108) rfl (teq ((if_neg fun z => hB (q5.mp z)) : (if (0 : Int32) < (cmpValue (FP.dcmp (FP.dsub (FP.l2d up) (FP.i2d lo)) (FP.dmul (FP.i2d pr) (FP.l2d sc))) .g) then 0 else 1 : Int32) = (1 : Int32))).2 k) ?_
      show own_Run p e below s _ _ _ (T46.setTop (mkF m 111 #[.val (.int i0), .val (.int i1), .val (.int i2), .val (.int lo), .val (.int pr), .val (.long sc), .second, .val (.long bd), .second, .val (.long up), .second, .val (.ref b34), .val (.int (1 : Int32))] []))
      refine own_st (fun t k => XS.iconst X46.here hx rfl (hb hby at_111) k) ?_
      show own_Run p e below s _ _ _ (T46.setTop (mkF m 112 #[.val (.int i0), .val (.int i1), .val (.int i2), .val (.int lo), .val (.int pr), .val (.long sc), .second, .val (.long bd), .second, .val (.long up), .second, .val (.ref b34), .val (.int (1 : Int32))] [(.int (1 : Int32))]))
      refine own_st (fun t k => XS.goto X46.here hx rfl (pc0 := 112) (pc' := 116) rfl (hb hby at_112) (by decide) (by decide) k) ?_
      show own_Run p e below s _ _ _ (T46.setTop (mkF m 116 #[.val (.int i0), .val (.int i1), .val (.int i2), .val (.int lo), .val (.int pr), .val (.long sc), .second, .val (.long bd), .second, .val (.long up), .second, .val (.ref b34), .val (.int (1 : Int32))] [(.int (1 : Int32))]))
      exact own_ret X46 hx hlk (t := .boolean) hret rfl (Or.inl ⟨rfl, by simp, _, rfl⟩) (hb hby at_116) (by decide) (by decide) ⟨rfl, N46⟩
set_option maxRecDepth 65536 in
set_option maxHeartbeats 40000000 in
theorem own_comes_1 {Post : Tables → Env → Array Value → State → Outcome → State → Prop} (hpost : ∀ tb e args s v u, (limb_1_1.after args s (.returned v) u = true ∧ limb_1_2.after args s (.returned v) u = true ∧ True) → FrameEnd s (.returned v) u (Jvm.fieldLocs frame_1_writes args s ++ Jvm.arrayLocs frame_1_arrays args s ++ Jvm.staticLocs frame_1_statics s) 16 128 → Post tb e args s (.returned v) u) :
    ArmFor flags0 classFile x code maxLocals ret World_1 tables_1 room_1 Calls_1 rest_1 Pre_1 Post := by
  intro l hfl _ _ p e ha hc hk s m args below hf hA hF happ hP
  obtain ⟨hcalls, hrest, hpre⟩ := hP
  obtain ⟨-, -, -, hnamed, -, -, -, hat⟩ := (Spec.applies_iff hf).mp happ
  obtain ⟨hg, hn⟩ := and_e (Cond.before_iff.mp (show (Jvm.Cond.and given_1 narrow_1).before args s = true from hpre))
  obtain ⟨gv1, gv2⟩ := and_e hg
  obtain ⟨gv3, gv4⟩ := and_e gv2
  obtain ⟨gv5, gv6⟩ := and_e gv4
  obtain ⟨w0, w1, w2, rfl⟩ : ∃ w0 w1 w2 : Value, args = #[w0, w1, w2] := by
    have hs : args.size = 3 := by simpa [Cond.value, given_1] using gv1
    obtain ⟨L⟩ := args
    match L, hs with
    | [w0, w1, w2], _ => exact ⟨w0, w1, w2, rfl⟩
  have hw := fun d (hd : d ∈ tables_1) => atoms_spec (ws := Jvm.Cond.code x code maxLocals ret :: tables_1) hat d (List.mem_cons_of_mem _ hd)
  have hfit : Fit s := fun {y c} hc i hi => by
    obtain ⟨ha, rfl⟩ := Array.getElem?_eq_some_iff.mp hc
    have q := List.all_eq_true.mp ((Array.all_eq_true_iff_forall_mem.mp hF) _ (Array.getElem_mem ha)) i (List.mem_range.mpr hi)
    simpa [Array.getElem?_eq_getElem hi] using q
  obtain ⟨i0, ei0⟩ := is_v gv3
  obtain rfl : w0 = (.int i0) := Option.some.inj ei0
  obtain ⟨i1, ei1⟩ := is_v gv5
  obtain rfl : w1 = (.int i1) := Option.some.inj ei1
  obtain ⟨i2, ei2⟩ := is_v gv6
  obtain rfl : w2 = (.int i2) := Option.some.inj ei2
  obtain ⟨n, o, h1, h2, h3, _, L, rfl, ⟨rfl, N⟩, hq⟩ := own_rm0 l s _ hw tables_1 i0 i1 i2 s.heap s.heap.size (Nat.le_refl _) (Old.start s)  p e ha hc hk s m _ below hf ((Spec.applies_iff_loose hf).mp happ).1 ⟨rfl, State.Warmed39.refl s, rfl⟩ trivial
  refine ⟨n, _, h1, h2, h3, hpost _ _ _ _ _ _ ⟨Cond.after_iff.mpr rfl, Cond.after_iff.mpr (eq_i res_at (Term.int_eval (1)) rfl), trivial⟩ ⟨hq.1, hq.2.1, (hq.2.2.sift fun y hy => Or.inr (N y hy)).mono (by decide) (by decide)⟩⟩
theorem main_1_1 : Claimed_1_1 := own_comes_1 fun _ _ _ _ _ _ h hF => ⟨h.1, hF⟩
theorem main_1_2 : Claimed_1_2 := own_comes_1 fun _ _ _ _ _ _ h hF => ⟨h.2.1, hF⟩
end Jvm.Pilot.@@N@@
namespace Jvm.Pilot.@@N@@
open Jvm Jvm.ClassFile Sem Op Lib Jvm.Free Jvm.Stand Jvm.Pilot.@@N@@.Jvm.D
/-! MADE BY PROGRAM (witnessworld.py) out of the Statement's table words and the real class files: 11 classes; the members and pool entries that the words name. The judged class is class 1, her method 1. -/
namespace start1
open Jvm.ClassFile
def u (s : String) : CpInfo := .utf8 (stringToUtf16 s)
/-- a pool by its gaps: so many unusable entries, then the entry; so many at the end -/
def gap : Nat → List CpInfo → List CpInfo
  | 0, r => r
  | n + 1, r => .unusable :: gap n r
def poolList (es : List (Nat × CpInfo)) (last : Nat) : List CpInfo := es.foldr (fun e r => gap e.1 (e.2 :: r)) (gap last [])
def pool (es : List (Nat × CpInfo)) (last : Nat) : Array CpInfo := ⟨poolList es last⟩
def fileOf (pool : Array CpInfo) (this : Nat) (attrs : Array Attribute := #[]) (ms : Array MethodInfo := #[]) (fl : Nat := 33) (sup : Nat := 0) (ifs : Array Nat := #[]) (fds : Array FieldInfo := #[]) : ClassFile where
  minorVersion := 0
  majorVersion := 65
  constantPool := pool
  accessFlags := fl
  thisClass := this
  superClass := sup
  interfaces := ifs
  fields := fds
  methods := ms
  attributes := attrs
def plain (name : String) (sup : Option ClassId) : Class where
  name := name
  kind := .ordinary
  loader := none
  accessFlags := 33
  super := sup
  interfaces := #[]
  cf := none
  fields := #[]
  methods := #[]
  instanceTypes := #[]
  staticTypes := #[]
  resolved := #[]
  callSites := []
  init := .initialized
  statics := none
  mirror := none

def pool0 : Array CpInfo := pool [(5, u "<init>"), (0, u "()V"), (1, .class_ 10), (1, u "java/lang/Object")] 113

def k0c0 : Code := { maxStack := 0, maxLocals := 1, code := object_method_1_code, exceptionTable := #[], attributes := #[] }
def k0m0 : Method := { name := "<init>", desc := "()V", sig := { parameters := [], returnType := none }, accessFlags := 1, code := some k0c0 }
/-- java/lang/Object -/
def k0 : Class := { plain "java/lang/Object" none with
  accessFlags := 33
  interfaces := #[]
  cf := some (fileOf pool0 8 #[] #[{ accessFlags := 1, nameIndex := 5, descriptorIndex := 6, attributes := #[] }] 33 0 #[] #[])
  fields := #[]
  methods := #[k0m0]
  instanceTypes := #[]
  staticTypes := #[]
  resolved := Array.replicate 124 none
  statics := none }

def pool1 : Array CpInfo := pool [(2, .class_ 4), (1, u "java/lang/Object"), (0, u "<init>"), (0, u "()V"), (0, .methodref 8 9), (0, .class_ 10), (0, .nameAndType 11 12), (0, u "java/lang/Math"), (0, u "max"), (0, u "(JJ)J"), (0, .class_ 14), (0, u "com/example/intervallum/intervallum/robust/ValueBounds"), (0, .methodref 13 16), (0, .nameAndType 5 17), (0, u "(DD)V"), (0, .methodref 13 19), (0, .nameAndType 20 21), (0, u "within"), (0, u "(D)Z"), (0, .class_ 23), (0, u "com/example/intervallum/intervallum/robust/ValueBoundsWithinPinLaw"), (2, u "law"), (0, u "(III)Z")] 3

def k1m0 : Method := { name := "<init>", desc := "()V", sig := { parameters := [], returnType := none }, accessFlags := 1, code := none }
def k1c1 : Code := { maxStack := 6, maxLocals := 13, code := code, exceptionTable := #[], attributes := #[] }
def k1m1 : Method := { name := "law", desc := "(III)Z", sig := { parameters := [.int, .int, .int], returnType := some .boolean }, accessFlags := 9, code := some k1c1 }
/-- com/example/intervallum/intervallum/robust/ValueBoundsWithinPinLaw -/
def k1 : Class := { plain "com/example/intervallum/intervallum/robust/ValueBoundsWithinPinLaw" (some 0) with
  accessFlags := 49
  interfaces := #[]
  cf := some (fileOf pool1 22 #[] #[{ accessFlags := 1, nameIndex := 5, descriptorIndex := 6, attributes := #[] }, { accessFlags := 9, nameIndex := 26, descriptorIndex := 27, attributes := #[] }] 49 2 #[] #[])
  fields := #[]
  methods := #[k1m0, k1m1]
  instanceTypes := #[]
  staticTypes := #[]
  resolved := Array.replicate 31 none
  statics := none }

def pool2 : Array CpInfo := pool [(1, .class_ 2), (0, u "java/lang/Math"), (1, .class_ 6), (1, u "java/lang/Object"), (0, u "<init>"), (0, u "()V"), (43, u "(DD)D"), (45, .class_ 100), (1, u "java/lang/Math$RandomNumberGeneratorHolder"), (20, u "(JJ)J"), (50, u "negativeZeroFloatBits"), (0, u "J"), (2, u "negativeZeroDoubleBits"), (21, u "max"), (46, u "$assertionsDisabled"), (0, u "Z"), (91, u "twoToTheDoubleScaleDown"), (0, u "D"), (4, u "twoToTheDoubleScaleUp"), (9, u "E"), (3, u "PI"), (2, u "TAU"), (2, u "DEGREES_TO_RADIANS"), (0, u "RADIANS_TO_DEGREES")] 94

def k2m0 : Method := { name := "<init>", desc := "()V", sig := { parameters := [], returnType := none }, accessFlags := 2, code := none }
def k2c1 : Code := { maxStack := 4, maxLocals := 4, code := jdk_29_method_66_code, exceptionTable := #[], attributes := #[] }
def k2m1 : Method := { name := "max", desc := "(JJ)J", sig := { parameters := [.long, .long], returnType := some .long }, accessFlags := 9, code := some k2c1 }
def k2c2 : Code := { maxStack := 4, maxLocals := 4, code := jdk_29_method_68_code, exceptionTable := #[], attributes := #[] }
def k2m2 : Method := { name := "max", desc := "(DD)D", sig := { parameters := [.double, .double], returnType := some .double }, accessFlags := 9, code := some k2c2 }
/-- java/lang/Math -/
def k2 : Class := { plain "java/lang/Math" (some 0) with
  accessFlags := 49
  interfaces := #[]
  cf := some (fileOf pool2 1 #[.nestMembers #[98]] #[{ accessFlags := 2, nameIndex := 7, descriptorIndex := 8, attributes := #[] }, { accessFlags := 9, nameIndex := 198, descriptorIndex := 121, attributes := #[] }, { accessFlags := 9, nameIndex := 198, descriptorIndex := 52, attributes := #[] }] 49 4 #[] #[{ accessFlags := 25, nameIndex := 354, descriptorIndex := 339, attributes := #[] }, { accessFlags := 25, nameIndex := 358, descriptorIndex := 339, attributes := #[] }, { accessFlags := 25, nameIndex := 361, descriptorIndex := 339, attributes := #[] }, { accessFlags := 26, nameIndex := 364, descriptorIndex := 339, attributes := #[] }, { accessFlags := 26, nameIndex := 365, descriptorIndex := 339, attributes := #[] }, { accessFlags := 26, nameIndex := 172, descriptorIndex := 173, attributes := #[] }, { accessFlags := 26, nameIndex := 176, descriptorIndex := 173, attributes := #[] }, { accessFlags := 8, nameIndex := 344, descriptorIndex := 339, attributes := #[] }, { accessFlags := 8, nameIndex := 338, descriptorIndex := 339, attributes := #[] }, { accessFlags := 4120, nameIndex := 245, descriptorIndex := 246, attributes := #[] }])
  fields := #[{ name := "E", type := .double, accessFlags := 25, slot := 0, constantValue := 0 }, { name := "PI", type := .double, accessFlags := 25, slot := 1, constantValue := 0 }, { name := "TAU", type := .double, accessFlags := 25, slot := 2, constantValue := 0 }, { name := "DEGREES_TO_RADIANS", type := .double, accessFlags := 26, slot := 3, constantValue := 0 }, { name := "RADIANS_TO_DEGREES", type := .double, accessFlags := 26, slot := 4, constantValue := 0 }, { name := "negativeZeroFloatBits", type := .long, accessFlags := 26, slot := 5, constantValue := 0 }, { name := "negativeZeroDoubleBits", type := .long, accessFlags := 26, slot := 6, constantValue := 0 }, { name := "twoToTheDoubleScaleUp", type := .double, accessFlags := 8, slot := 7, constantValue := 0 }, { name := "twoToTheDoubleScaleDown", type := .double, accessFlags := 8, slot := 8, constantValue := 0 }, { name := "$assertionsDisabled", type := .boolean, accessFlags := 4120, slot := 9, constantValue := 0 }]
  methods := #[k2m0, k2m1, k2m2]
  instanceTypes := #[]
  staticTypes := #[.double, .double, .double, .double, .double, .long, .long, .double, .double, .boolean]
  resolved := Array.replicate 460 none
  statics := none }

def pool3 : Array CpInfo := pool [(1, .methodref 2 3), (0, .class_ 4), (0, .nameAndType 5 6), (0, u "java/lang/Object"), (0, u "<init>"), (0, u "()V"), (0, .class_ 8), (0, u "java/lang/Record")] 13

def k3c0 : Code := { maxStack := 1, maxLocals := 1, code := jdk_30_method_1_code, exceptionTable := #[], attributes := #[] }
def k3m0 : Method := { name := "<init>", desc := "()V", sig := { parameters := [], returnType := none }, accessFlags := 4, code := some k3c0 }
/-- java/lang/Record -/
def k3 : Class := { plain "java/lang/Record" (some 0) with
  accessFlags := 1057
  interfaces := #[]
  cf := some (fileOf pool3 7 #[] #[{ accessFlags := 4, nameIndex := 5, descriptorIndex := 6, attributes := #[] }] 1057 2 #[] #[])
  fields := #[]
  methods := #[k3m0]
  instanceTypes := #[]
  staticTypes := #[]
  resolved := Array.replicate 22 none
  statics := none }

def pool4 : Array CpInfo := pool [(1, .methodref 2 3), (0, .class_ 4), (0, .nameAndType 5 6), (0, u "java/lang/Record"), (0, u "<init>"), (0, u "()V"), (0, .fieldref 8 9), (0, .class_ 10), (0, .nameAndType 11 12), (0, u "com/example/intervallum/intervallum/robust/ValueBounds"), (0, u "lower"), (0, u "D"), (0, .fieldref 8 14), (0, .nameAndType 15 12), (0, u "upper"), (2, .methodref 19 20), (0, .class_ 21), (0, .nameAndType 22 23), (0, u "java/lang/Math"), (0, u "max"), (0, u "(DD)D"), (12, u "(DD)V"), (6, u "within"), (0, u "(D)Z")] 24

def k4c0 : Code := { maxStack := 3, maxLocals := 5, code := prog_55_method_1_code, exceptionTable := #[], attributes := #[] }
def k4m0 : Method := { name := "<init>", desc := "(DD)V", sig := { parameters := [.double, .double], returnType := none }, accessFlags := 0, code := some k4c0 }
def k4c1 : Code := { maxStack := 8, maxLocals := 3, code := prog_55_method_3_code, exceptionTable := #[], attributes := #[] }
def k4m1 : Method := { name := "within", desc := "(D)Z", sig := { parameters := [.double], returnType := some .boolean }, accessFlags := 0, code := some k4c1 }
/-- com/example/intervallum/intervallum/robust/ValueBounds -/
def k4 : Class := { plain "com/example/intervallum/intervallum/robust/ValueBounds" (some 3) with
  accessFlags := 48
  interfaces := #[]
  cf := some (fileOf pool4 8 #[] #[{ accessFlags := 0, nameIndex := 5, descriptorIndex := 36, attributes := #[] }, { accessFlags := 0, nameIndex := 43, descriptorIndex := 44, attributes := #[] }] 48 2 #[] #[{ accessFlags := 18, nameIndex := 11, descriptorIndex := 12, attributes := #[] }, { accessFlags := 18, nameIndex := 15, descriptorIndex := 12, attributes := #[] }])
  fields := #[{ name := "lower", type := .double, accessFlags := 18, slot := 0, constantValue := 0 }, { name := "upper", type := .double, accessFlags := 18, slot := 1, constantValue := 0 }]
  methods := #[k4m0, k4m1]
  instanceTypes := #[.double, .double]
  staticTypes := #[]
  resolved := Array.replicate 69 none
  statics := none }

def pool5 : Array CpInfo := pool [(1, u "java/lang/Cloneable"), (0, .class_ 1), (0, u "java/lang/Object"), (0, .class_ 3)] 3

/-- java/lang/Cloneable -/
def k5 : Class := { plain "java/lang/Cloneable" (some 0) with
  accessFlags := 1537
  interfaces := #[]
  cf := some (fileOf pool5 2 #[] #[] 1537 4 #[] #[])
  fields := #[]
  methods := #[]
  instanceTypes := #[]
  staticTypes := #[]
  resolved := Array.replicate 8 none
  statics := none }

def pool6 : Array CpInfo := pool [(1, u "java/io/Serializable"), (0, .class_ 1), (0, u "java/lang/Object"), (0, .class_ 3)] 3

/-- java/io/Serializable -/
def k6 : Class := { plain "java/io/Serializable" (some 0) with
  accessFlags := 1537
  interfaces := #[]
  cf := some (fileOf pool6 2 #[] #[] 1537 4 #[] #[])
  fields := #[]
  methods := #[]
  instanceTypes := #[]
  staticTypes := #[]
  resolved := Array.replicate 8 none
  statics := none }

/-- the primitive byte -/
def k7 : Class := { plain "byte" none with kind := .primitive 'B', accessFlags := 0x411 }
/-- [B -/
def k8 : Class := { plain "[B" (some 0) with kind := .array 7 .byte, interfaces := #[5, 6], accessFlags := 1041 }

/-- the primitive int -/
def k9 : Class := { plain "int" none with kind := .primitive 'I', accessFlags := 0x411 }
/-- [I -/
def k10 : Class := { plain "[I" (some 0) with kind := .array 9 .int, interfaces := #[5, 6], accessFlags := 1041 }

def heap : Heap := #[]
def classes : Array Class := #[k0, k1, k2, k3, k4, k5, k6, k7, k8, k9, k10]
def interned : List (Array UInt16 × Addr) := []
def slotsUsed : Nat := 0
def theMethod : MethodId := ⟨1, 1⟩
def args0 : Array Value := #[.int 3, .int 5, .int 3]
def aboutOver (below : List Frame) : State where
  vm := { classes := classes, interned := interned.toArray }
  heap := heap
  slotsUsed := slotsUsed
  threads := #[{ frames := .invoking theMethod args0 :: below }]
def below0 : List Frame := [.native { method := ⟨0, 0⟩, args := #[] }]
def about1 : State := aboutOver below0
def p0 : Program := .bare "" "" ""
def e0 : Env := launch0.env 0 0 0
theorem w_frames : about1.frames = Frame.invoking theMethod args0 :: below0 := rfl
set_option maxRecDepth 65536 in
theorem w_args : argsFit about1.vm theMethod args0 = true := by decide +kernel
set_option maxRecDepth 65536 in
theorem w_heap : heapFits about1 = true := by decide +kernel
set_option maxRecDepth 65536 in
theorem w_runnable : about1.curStatus? = some .runnable := by decide +kernel
set_option maxRecDepth 65536 in
theorem w_alone : about1.alone = true := by decide +kernel
set_option maxRecDepth 65536 in
theorem w_named : about1.methodNamed? x = some theMethod := by decide +kernel
set_option maxRecDepth 65536 in
theorem w_hears : about1.hears theMethod below0 = true := by decide +kernel
set_option maxRecDepth 65536 in
theorem w_ripe : about1.ripe theMethod args0 below0 = true := by decide +kernel
theorem w_running : about1.status = .running := rfl
set_option maxRecDepth 65536 in
theorem w_room : about1.hasRoom e0.platform room_1 = true :=
  launch0.hasRoom_least _ room_1 (by decide +kernel) (by decide +kernel) (by decide +kernel) (by decide +kernel) (by decide +kernel) (by decide +kernel)
theorem allAtoms_all (ts : List Jvm.Cond) (a : Array Jvm.Value) (st : Jvm.State) : (allAtoms ts).before a st = ts.all (fun c => c.before a st) := by
  induction ts with
  | nil => rfl
  | cons c t ih =>
    show (Jvm.Cond.and c (allAtoms t)).before a st = _
    rw [Jvm.Cond.before_and, ih, List.all_cons]
def words1 : List Jvm.Cond := Jvm.Cond.code x code maxLocals ret :: tables_1
/-- a 'code' word, met by the world's own term for the bytes: nothing is compared byte by byte -/
theorem code_word {y : MethodName} {bytes : ByteArray} {mx : Nat} {rt : Option FieldType} {a : Array Value} {s : State} {m : MethodId} {meth : Method} {c : Code} (h1 : s.methodNamed? y = some m) (h2 : s.vm.method? m = some meth) (h3 : meth.code = some c) (h4 : c.code = bytes)
    (h5 : (c.maxLocals == mx && c.exceptionTable.isEmpty && decide (c.maxStack ≤ mostOperands) && decide (meth.sig.returnType = rt) && !meth.locks && decide (parseMethodDescriptor y.desc = some meth.sig)) = true) : (Jvm.Cond.code y bytes mx rt).before a s = true := by
  simp only [Bool.and_eq_true, beq_iff_eq, Bool.not_eq_true', decide_eq_true_eq] at h5
  obtain ⟨⟨⟨⟨⟨g1, g2⟩, g3⟩, g4⟩, g5⟩, g6⟩ := h5
  simp [Cond.before, Cond.holds, Cond.value, h1, h2, h3, h4, g1, g2, g3, g4, g5, g6]
def isCode : Jvm.Cond → Bool
  | .code _ _ _ _ => true
  | _ => false
theorem all_split {L : List Jvm.Cond} {P : Jvm.Cond → Bool} (h1 : L.all (fun c => isCode c || P c) = true) (h2 : ∀ c ∈ L.filter isCode, P c = true) : L.all P = true := by
  refine List.all_eq_true.mpr fun c hc => ?_
  have h := List.all_eq_true.mp h1 c hc
  rcases Bool.eq_false_or_eq_true (isCode c) with hi | hi
  · exact h2 c (List.mem_filter.mpr ⟨hc, hi⟩)
  · simpa [hi] using h
set_option maxRecDepth 65536 in
theorem w_c0 : (Jvm.Cond.code x code maxLocals ret).before args0 about1 = true := code_word (m := ⟨1, 1⟩) (meth := k1m1) (c := k1c1) (by decide +kernel) rfl rfl rfl (by decide +kernel)
set_option maxRecDepth 65536 in
theorem w_c1 : (Jvm.Cond.code ({ cls := "java/lang/Math", name := "max", desc := "(JJ)J" } : Jvm.MethodName) jdk_29_method_66_code (4 : Nat) (Option.some Jvm.ClassFile.FieldType.long)).before args0 about1 = true := code_word (m := ⟨2, 1⟩) (meth := k2m1) (c := k2c1) (by decide +kernel) rfl rfl rfl (by decide +kernel)
set_option maxRecDepth 65536 in
theorem w_c2 : (Jvm.Cond.code ({ cls := "com/example/intervallum/intervallum/robust/ValueBounds", name := "<init>", desc := "(DD)V" } : Jvm.MethodName) prog_55_method_1_code (5 : Nat) (Option.none : Option Jvm.ClassFile.FieldType)).before args0 about1 = true := code_word (m := ⟨4, 0⟩) (meth := k4m0) (c := k4c0) (by decide +kernel) rfl rfl rfl (by decide +kernel)
set_option maxRecDepth 65536 in
theorem w_c3 : (Jvm.Cond.code ({ cls := "java/lang/Record", name := "<init>", desc := "()V" } : Jvm.MethodName) jdk_30_method_1_code (1 : Nat) (Option.none : Option Jvm.ClassFile.FieldType)).before args0 about1 = true := code_word (m := ⟨3, 0⟩) (meth := k3m0) (c := k3c0) (by decide +kernel) rfl rfl rfl (by decide +kernel)
set_option maxRecDepth 65536 in
theorem w_c4 : (Jvm.Cond.code ({ cls := "java/lang/Object", name := "<init>", desc := "()V" } : Jvm.MethodName) object_method_1_code (1 : Nat) (Option.none : Option Jvm.ClassFile.FieldType)).before args0 about1 = true := code_word (m := ⟨0, 0⟩) (meth := k0m0) (c := k0c0) (by decide +kernel) rfl rfl rfl (by decide +kernel)
set_option maxRecDepth 65536 in
theorem w_c5 : (Jvm.Cond.code ({ cls := "com/example/intervallum/intervallum/robust/ValueBounds", name := "within", desc := "(D)Z" } : Jvm.MethodName) prog_55_method_3_code (3 : Nat) (Option.some Jvm.ClassFile.FieldType.boolean)).before args0 about1 = true := code_word (m := ⟨4, 1⟩) (meth := k4m1) (c := k4c1) (by decide +kernel) rfl rfl rfl (by decide +kernel)
set_option maxRecDepth 65536 in
theorem w_c6 : (Jvm.Cond.code ({ cls := "java/lang/Math", name := "max", desc := "(DD)D" } : Jvm.MethodName) jdk_29_method_68_code (4 : Nat) (Option.some Jvm.ClassFile.FieldType.double)).before args0 about1 = true := code_word (m := ⟨2, 2⟩) (meth := k2m2) (c := k2c2) (by decide +kernel) rfl rfl rfl (by decide +kernel)
def codes1 : List Jvm.Cond := [Jvm.Cond.code x code maxLocals ret, Jvm.Cond.code ({ cls := "java/lang/Math", name := "max", desc := "(JJ)J" } : Jvm.MethodName) jdk_29_method_66_code (4 : Nat) (Option.some Jvm.ClassFile.FieldType.long), Jvm.Cond.code ({ cls := "com/example/intervallum/intervallum/robust/ValueBounds", name := "<init>", desc := "(DD)V" } : Jvm.MethodName) prog_55_method_1_code (5 : Nat) (Option.none : Option Jvm.ClassFile.FieldType), Jvm.Cond.code ({ cls := "java/lang/Record", name := "<init>", desc := "()V" } : Jvm.MethodName) jdk_30_method_1_code (1 : Nat) (Option.none : Option Jvm.ClassFile.FieldType), Jvm.Cond.code ({ cls := "java/lang/Object", name := "<init>", desc := "()V" } : Jvm.MethodName) object_method_1_code (1 : Nat) (Option.none : Option Jvm.ClassFile.FieldType), Jvm.Cond.code ({ cls := "com/example/intervallum/intervallum/robust/ValueBounds", name := "within", desc := "(D)Z" } : Jvm.MethodName) prog_55_method_3_code (3 : Nat) (Option.some Jvm.ClassFile.FieldType.boolean), Jvm.Cond.code ({ cls := "java/lang/Math", name := "max", desc := "(DD)D" } : Jvm.MethodName) jdk_29_method_68_code (4 : Nat) (Option.some Jvm.ClassFile.FieldType.double)]
set_option maxRecDepth 65536 in
theorem codes_eq : words1.filter isCode = codes1 := rfl
theorem w_codes : ∀ c ∈ words1.filter isCode, c.before args0 about1 = true := by
  rw [codes_eq]
  intro c hc
  simp only [codes1, List.mem_cons, List.not_mem_nil, or_false] at hc
  rcases hc with rfl | rfl | rfl | rfl | rfl | rfl | rfl
  · exact w_c0
  · exact w_c1
  · exact w_c2
  · exact w_c3
  · exact w_c4
  · exact w_c5
  · exact w_c6
set_option maxRecDepth 65536 in
theorem w_t1 : (words1.take 24).all (fun c => isCode c || c.before args0 about1) = true := by decide +kernel
set_option maxRecDepth 65536 in
theorem w_t2 : (words1.drop 24).all (fun c => isCode c || c.before args0 about1) = true := by decide +kernel
theorem w_tables : (allAtoms (Jvm.Cond.code x code maxLocals ret :: tables_1)).before args0 about1 = true := by
  rw [allAtoms_all]
  show words1.all (fun c => c.before args0 about1) = true
  refine all_split ?_ w_codes
  rw [← List.take_append_drop 24 words1, List.all_append, w_t1, w_t2]
  rfl
set_option maxRecDepth 65536 in
theorem w_case : (Jvm.Cond.and given_1 narrow_1).before args0 about1 = true := by decide +kernel
theorem w_applies : (headSpec (Jvm.Cond.code x code maxLocals ret :: tables_1) room_1).applies x e0.platform about1 = true :=
  (Spec.applies_iff w_frames).mpr ⟨w_running, w_runnable, w_alone, w_named, w_hears, w_ripe, w_room, w_tables⟩
theorem atStart : AtStart classFile x code maxLocals ret World_1 tables_1 room_1 Calls_1 rest_1 Pre_1 launch0 p0 e0 about1 theMethod args0 below0 :=
  ⟨lists_1, trivial, launch0.admits_env _ _ _, launch0.least_env, fairChoices_fair.cas, fairChoices_fair.clock, w_frames, w_args, w_heap, w_applies, trivial, trivial, w_case⟩
end start1
theorem witness_1 : WitnessClaimed_1 := ⟨start1.p0, start1.e0, start1.about1, start1.theMethod, start1.args0, start1.below0, start1.atStart⟩
end Jvm.Pilot.@@N@@
