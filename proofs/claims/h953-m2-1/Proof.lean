import JvmDerived
import JvmDerived.Pilot.@@N@@Statement
import JvmDerived.Pilot.@@N@@Code
set_option linter.unusedVariables false
set_option linter.unusedSimpArgs false
namespace Jvm.Pilot.@@N@@
open Jvm Jvm.ClassFile Sem Op Lib Jvm.Free Jvm.Stand Jvm.LawKit Jvm.RoadKit Bundle Jvm.Pilot.@@N@@.Jvm.D
def own_Run (p : Program) (e : Env) (below : List Frame) (s : State) (Q : Option Value → Heap → List Loc → Prop) (ck sk : Nat) (U : State) : Prop :=
  ∃ s₂ o, Steps p.tables e below U s₂ ∧ s₂.status = .running ∧ Ended s₂ below o ∧ ∃ v L, o = .returned v ∧ Q v s₂.heap L ∧ FrameEnd s o s₂ L ck sk
section OwnLayer
variable {p : Program} {l : Launch} {e : Env} {R : Room} {s : State} {m : MethodId} {args : Array Value} {below : List Frame} {meth : Method} {c : Code} {T : State} {locs : List Loc} {cells slots : Nat} {Z : State} {a0 : Array Value} {h : Heap} {Q : Option Value → Heap → List Loc → Prop} {ck sk : Nat}
theorem own_st {U U' : State} (hh : ∀ t, Steps p.tables e below U' t → Steps p.tables e below U t) (K : own_Run p e below s Q ck sk U') : own_Run p e below s Q ck sk U := by
  obtain ⟨s2, o, h1, r⟩ := K
  exact ⟨s2, o, hh _ h1, r⟩
theorem own_topI {pc : Nat} {Ls : Array Slot} {st : List Value} {v v' : Int32} (hv : v = v') (K : own_Run p e below s Q ck sk (T.setTop (mkF m pc Ls (.int v' :: st)))) : own_Run p e below s Q ck sk (T.setTop (mkF m pc Ls (.int v :: st))) := hv ▸ K
theorem own_topJ {pc : Nat} {Ls : Array Slot} {st : List Value} {v v' : Int64} (hv : v = v') (K : own_Run p e below s Q ck sk (T.setTop (mkF m pc Ls (.long v' :: st)))) : own_Run p e below s Q ck sk (T.setTop (mkF m pc Ls (.long v :: st))) := hv ▸ K
theorem own_topD {pc : Nat} {Ls : Array Slot} {st : List Value} {v v' : UInt64} (hv : v = v') (K : own_Run p e below s Q ck sk (T.setTop (mkF m pc Ls (.double v' :: st)))) : own_Run p e below s Q ck sk (T.setTop (mkF m pc Ls (.double v :: st))) := hv ▸ K
theorem own_ret (X : Stand p l e R s m args below meth c T locs cells slots) (hx : p.tables.exec = Jvm.exec) (hlk : meth.locks = false) {pc : Nat} {Ls : Array Slot} {w : Value} {t : FieldType} {i : Instr} {rest : List Value} (hret : meth.sig.returnType = some t) (hn : narrow t w = w)
    (hi : (i = .ireturn ∧ (t = .int ∨ t = .boolean ∨ t = .byte ∨ t = .char ∨ t = .short) ∧ ∃ z, w = .int z) ∨ (i = .lreturn ∧ t = .long ∧ ∃ z, w = .long z) ∨ (i = .dreturn ∧ t = .double ∧ ∃ z, w = .double z) ∨ (i = .freturn ∧ t = .float ∧ ∃ z, w = .float z) ∨ (i = .areturn ∧ t.isReference = true ∧ w.isRef = true))
    (hd : decode c.code pc = .ok (i, 1)) (hc : cells ≤ ck) (hs : slots ≤ sk) (hq : Q (some w) T.heap locs) : own_Run p e below s Q ck sk (T.setTop (mkF m pc Ls (w :: rest))) := by
  obtain ⟨fs, hr, hrun, hended, hW, hsame⟩ := X.leave (v := some w) (fun q => by rw [hret] at q; cases q) hlk
  exact ⟨_, _, retOut X hx hret hn hi hd hr, hrun, hended, _, _, rfl, hq, ⟨_, rfl⟩, hW, hsame.mono hc hs⟩
theorem own_retV (X : Stand p l e R s m args below meth c T locs cells slots) (hx : p.tables.exec = Jvm.exec) (hlk : meth.locks = false) {pc : Nat} {Ls : Array Slot} (hret : meth.sig.returnType = none)
    (hd : decode c.code pc = .ok (.return_, 1)) (hc : cells ≤ ck) (hs : slots ≤ sk) (hq : Q none T.heap locs) : own_Run p e below s Q ck sk (T.setTop (mkF m pc Ls [])) := by
  obtain ⟨fs, hr, hrun, hended, hW, hsame⟩ := X.leave (v := none) (fun _ => rfl) hlk
  exact ⟨_, _, X.returnOut hx hret hd hr, hrun, hended, _, _, rfl, hq, ⟨_, rfl⟩, hW, hsame.mono hc hs⟩
theorem own_body {y : MethodName} {bytes : ByteArray} {maxL : Nat} {ret : Option FieldType} {ws : List Jvm.Cond} {rm : Room} {as' : Array Value} {h0 : Heap} (hpl : plainFor y = true)
    (hbody : ∀ (p : Program) (e : Env) (s : State) (m : MethodId) (below : List Frame) (meth : Method) (c : Code) (s₁ : State), p.tables.exec = Jvm.exec → c.code = bytes → c.maxLocals = maxL → Z.Warmed39 s.vm → s.vm.findClass y.cls = some m.cls → meth.name = y.name → meth.sig.returnType = ret → meth.locks = false → Stand p l e rm s m as' below meth c s₁ [] 0 0 → s₁.heap = h0 → own_Run p e below s Q rm.cells rm.slots (s₁.setTop (entryFrame m as' maxL))) :
    MetFree l y (head1 (Jvm.Cond.code y bytes maxL ret :: ws) rm) (fun a U => a = as' ∧ Z.Warmed39 U.vm ∧ U.heap = h0) (fun _ _ _ _ _ => True) (fun _ U o U' => ∃ v L, o = .returned v ∧ Q v U'.heap L ∧ FrameEnd U o U' L rm.cells rm.slots) := by
  refine MetFree.of_bodySF hpl hisR ?_
  intro p e s m args below meth c s₁ Bd hml0 hP hK
  obtain ⟨rfl, hZ, hh⟩ := hP
  exact hbody p e s m below meth c s₁ Bd.exec Bd.bytes hml0 hZ (findClass_of_methodNamed Bd.named) (name_of_methodNamed Bd.named Bd.method).1 Bd.returns Bd.notSynchronized (Stand.of_body Bd) (by rw [← hh, Bd.state]; rfl)
theorem own_callI (X : Stand p l e R s m args below meth c T locs cells slots) (hx : p.tables.exec = Jvm.exec) (hZ : Z.Warmed39 s.vm) {own : String} {idx : Nat} {y : MethodName} (hy1 : y.name = "<init>") (hown : s.vm.findClass own = some m.cls) (w1 : (Jvm.Cond.methodLink own idx y).before a0 Z = true) (w2 : (Jvm.Cond.instanceMethod y).before a0 Z = true)
    {bytes : ByteArray} {maxL : Nat} (w3 : (Jvm.Cond.code y bytes maxL none).before a0 Z = true) (wz : (Jvm.Cond.initialized y.cls).before a0 Z = true) (hy : y.cls ≠ "java/lang/invoke/MethodHandle" ∧ y.cls ≠ "java/lang/invoke/VarHandle") (eT : T.heap = h) {rm : Room} {Qc : Option Value → Heap → List Loc → Prop} {a : Addr} {argsL rest : List Value}
    (hM : MetFree l y (head1 [Jvm.Cond.code y bytes maxL none] rm) (fun b U => b = (Value.ref a :: argsL).toArray ∧ Z.Warmed39 U.vm ∧ U.heap = h) (fun _ _ _ _ _ => True) (fun _ U o U' => ∃ v L, o = .returned v ∧ Qc v U'.heap L ∧ FrameEnd U o U' L rm.cells rm.slots))
    {W : Nat} (hf : rm.frames + 1 ≤ R.frames) (hl : W + (maxL + 11) + rm.locals ≤ R.locals) {pc : Nat} {Ls : Array Slot} {st : List Value} (hsize : Ls.size = c.maxLocals) (hlen : ∀ sig, parseMethodDescriptor y.desc = some sig → argsL.length = sig.parameters.length) (hst : st = argsL.reverse ++ .ref a :: rest) (hW : (rest.map fun v => v.category).sum ≤ W) (hd : decode c.code pc = .ok (.invokespecial idx, 3)) (hc : cells + rm.cells ≤ R.cells) (hs : slots + rm.slots ≤ R.slots)
    (K : ∀ (T' : State) (v : Option Value) (L : List Loc), Stand p l e R s m args below meth c T' (locs ++ L) (cells + rm.cells) (slots + rm.slots) → Qc v T'.heap L → own_Run p e below s Q ck sk (T'.setTop (mkF m (pc + 3) Ls (v.toList ++ rest)))) :
    own_Run p e below s Q ck sk (T.setTop (mkF m pc Ls st)) := by
  obtain ⟨v, _, ⟨T', L', k', n'⟩, -, X', ⟨Lc, hQ, hl', hk', hn'⟩, st'⟩ := X.specialBack hx (y := y) hy1 hown (mvT hZ w1) (mvT hZ w2) (mvT hZ w3) hy (backOf (W := W) hM hZ w3 wz hf hl) (g := mkF m pc Ls st) rfl hsize (Steps.refl _) (a := a) (argsL := argsL) (rest := rest) hlen hst (by show 2 * 0 + _ ≤ _; omega) hd (fun _ _ => ⟨rfl, eT, hc, hs⟩)
  dsimp only [Pt.U, Pt.locs, Pt.cells, Pt.slots] at X' hl' hk' hn' st' hQ
  subst hl' hk' hn'
  exact own_st (fun t k => st'.trans k) (K T' v Lc X' hQ)
theorem own_callV (X : Stand p l e R s m args below meth c T locs cells slots) (hx : p.tables.exec = Jvm.exec) (hZ : Z.Warmed39 s.vm) {own C : String} {idx : Nat} {y : MethodName} (hown : s.vm.findClass own = some m.cls) (w1 : (Jvm.Cond.methodLink own idx y).before a0 Z = true) (w2 : (Jvm.Cond.declares y).before a0 Z = true) (w3 : (Jvm.Cond.selects C y y).before a0 Z = true) (w4 : (Jvm.Cond.instanceMethod y).before a0 Z = true)
    {bytes : ByteArray} {maxL : Nat} {ret : Option FieldType} (w5 : (Jvm.Cond.code y bytes maxL ret).before a0 Z = true) (wz : (Jvm.Cond.initialized y.cls).before a0 Z = true) (hy : y.cls ≠ "java/lang/invoke/MethodHandle" ∧ y.cls ≠ "java/lang/invoke/VarHandle") (eT : T.heap = h) {a : Addr} (E : Exa Z h a C) {rm : Room} {Qc : Option Value → Heap → List Loc → Prop} {argsL rest : List Value}
    (hM : MetFree l y (head1 [Jvm.Cond.code y bytes maxL ret] rm) (fun b U => b = (Value.ref a :: argsL).toArray ∧ Z.Warmed39 U.vm ∧ U.heap = h) (fun _ _ _ _ _ => True) (fun _ U o U' => ∃ v L, o = .returned v ∧ Qc v U'.heap L ∧ FrameEnd U o U' L rm.cells rm.slots))
    {W : Nat} (hf : rm.frames + 1 ≤ R.frames) (hl : W + (maxL + 11) + rm.locals ≤ R.locals) {pc : Nat} {Ls : Array Slot} {st : List Value} (hsize : Ls.size = c.maxLocals) (hlen : ∀ sig, parseMethodDescriptor y.desc = some sig → argsL.length = sig.parameters.length) (hst : st = argsL.reverse ++ .ref a :: rest) (hW : (rest.map fun v => v.category).sum ≤ W) (hd : decode c.code pc = .ok (.invokevirtual idx, 3)) (hc : cells + rm.cells ≤ R.cells) (hs : slots + rm.slots ≤ R.slots)
    (K : ∀ (T' : State) (v : Option Value) (L : List Loc), Stand p l e R s m args below meth c T' (locs ++ L) (cells + rm.cells) (slots + rm.slots) → Qc v T'.heap L → own_Run p e below s Q ck sk (T'.setTop (mkF m (pc + 3) Ls (v.toList ++ rest)))) :
    own_Run p e below s Q ck sk (T.setTop (mkF m pc Ls st)) := by
  obtain ⟨cq, kq, qa, qb, qc⟩ := isOf hZ eT E
  obtain ⟨v, _, ⟨T', L', k', n'⟩, -, X', ⟨Lc, hQ, hl', hk', hn'⟩, st'⟩ := X.virtualBack hx (y := y) (z := y) hown (mvT hZ w1) (mvT hZ w2) (notFace_of_selects (args := #[]) (mvT hZ w3)) (mvT hZ w3) (mvT hZ w4) hy (backOf (W := W) hM hZ w5 wz hf hl) qa qc (g := mkF m pc Ls st) rfl hsize (Steps.refl _) (argsL := argsL) (rest := rest) hlen hst (by show 2 * 0 + _ ≤ _; omega) hd (fun _ _ => ⟨rfl, eT, hc, hs⟩)
  dsimp only [Pt.U, Pt.locs, Pt.cells, Pt.slots] at X' hl' hk' hn' st' hQ
  subst hl' hk' hn'
  exact own_st (fun t k => st'.trans k) (K T' v Lc X' hQ)
theorem own_callS (X : Stand p l e R s m args below meth c T locs cells slots) (hx : p.tables.exec = Jvm.exec) (hZ : Z.Warmed39 s.vm) {own : String} {idx : Nat} {y : MethodName} (hown : s.vm.findClass own = some m.cls) (w1 : (Jvm.Cond.methodLink own idx y).before a0 Z = true) (w2 : (Jvm.Cond.static y).before a0 Z = true)
    {bytes : ByteArray} {maxL : Nat} {ret : Option FieldType} (w5 : (Jvm.Cond.code y bytes maxL ret).before a0 Z = true) (wz : (Jvm.Cond.initialized y.cls).before a0 Z = true) (hy : y.cls ≠ "java/lang/invoke/MethodHandle" ∧ y.cls ≠ "java/lang/invoke/VarHandle") (eT : T.heap = h) {rm : Room} {Qc : Option Value → Heap → List Loc → Prop} {argsL rest : List Value}
    (hM : MetFree l y (head1 [Jvm.Cond.code y bytes maxL ret] rm) (fun b U => b = argsL.toArray ∧ Z.Warmed39 U.vm ∧ U.heap = h) (fun _ _ _ _ _ => True) (fun _ U o U' => ∃ v L, o = .returned v ∧ Qc v U'.heap L ∧ FrameEnd U o U' L rm.cells rm.slots))
    {W : Nat} (hf : rm.frames + 1 ≤ R.frames) (hl : W + (maxL + 11) + rm.locals ≤ R.locals) {pc : Nat} {Ls : Array Slot} {st : List Value} (hsize : Ls.size = c.maxLocals) (hlen : ∀ sig, parseMethodDescriptor y.desc = some sig → argsL.length = sig.parameters.length) (hst : st = argsL.reverse ++ rest) (hW : (rest.map fun v => v.category).sum ≤ W) (hd : decode c.code pc = .ok (.invokestatic idx, 3)) (hc : cells + rm.cells ≤ R.cells) (hs : slots + rm.slots ≤ R.slots)
    (K : ∀ (T' : State) (v : Option Value) (L : List Loc), Stand p l e R s m args below meth c T' (locs ++ L) (cells + rm.cells) (slots + rm.slots) → Qc v T'.heap L → own_Run p e below s Q ck sk (T'.setTop (mkF m (pc + 3) Ls (v.toList ++ rest)))) :
    own_Run p e below s Q ck sk (T.setTop (mkF m pc Ls st)) := by
  obtain ⟨v, _, ⟨T', L', k', n'⟩, -, X', ⟨Lc, hQ, hl', hk', hn'⟩, st'⟩ := Jvm.LawKit.callS X hx (y := y) hown (mvT hZ w1) (mvT hZ w2) (mvT hZ wz) (mvT hZ w5) hy (backOf (W := W) hM hZ w5 wz hf hl) (g := mkF m pc Ls st) rfl hsize (argsL := argsL) (rest := rest) hlen hst (by show 2 * 0 + _ ≤ _; omega) hd (fun _ _ => ⟨rfl, eT, hc, hs⟩)
  dsimp only [Pt.U, Pt.locs, Pt.cells, Pt.slots] at X' hl' hk' hn' st' hQ
  subst hl' hk' hn'
  exact own_st st' (K T' v Lc X' hQ)
end OwnLayer
section OwnNums
open Jvm.FP Jvm.Free.Fl
theorem own_b53 (x : Int32) : B53 x.toInt64 := by
  have := x.le_toInt; have := x.toInt_lt
  unfold B53; rw [Int32.toInt_toInt64]; omega
theorem own_i64lt (x y : Int32) : x.toInt64 < y.toInt64 ↔ x < y := by
  rw [Int64.lt_iff_toInt_lt, Int32.lt_iff_toInt_lt, Int32.toInt_toInt64, Int32.toInt_toInt64]
theorem own_i64eq (x y : Int32) : x.toInt64 = y.toInt64 ↔ x = y := by
  rw [← Int64.toInt_inj, ← Int32.toInt_inj, Int32.toInt_toInt64, Int32.toInt_toInt64]
theorem own_dcmp_lt (x y : Int32) (o : CmpOp) : cmpValue (FP.dcmp (FP.i2d x) (FP.i2d y)) o < 0 ↔ x < y := by
  rw [i2d_w, i2d_w, dcmpV_w (own_b53 x) (own_b53 y), lw_lt, own_i64lt]
theorem own_dcmp_gt (x y : Int32) (o : CmpOp) : 0 < cmpValue (FP.dcmp (FP.i2d x) (FP.i2d y)) o ↔ y < x := by
  rw [i2d_w, i2d_w, dcmpV_w (own_b53 x) (own_b53 y), lw_gt, own_i64lt]
theorem own_dcmp_eq (x y : Int32) (o : CmpOp) : cmpValue (FP.dcmp (FP.i2d x) (FP.i2d y)) o = 0 ↔ x = y := by
  rw [i2d_w, i2d_w, dcmpV_w (own_b53 x) (own_b53 y), lw_eq, own_i64eq]
theorem own_sub_lt (x y : Int32) : lcmpW (x.toInt64 - y.toInt64) 0 < 0 ↔ x < y := by
  have h := sub64 (own_b53 x) (own_b53 y)
  rw [lw_lt, Int64.lt_iff_toInt_lt, Int32.lt_iff_toInt_lt, h, Int32.toInt_toInt64, Int32.toInt_toInt64]
  have : (0 : Int64).toInt = 0 := rfl
  omega
end OwnNums
section OwnWords
theorem own_eqint {args : Array Value} {first s : State} {o : Option Outcome} {idx : List Nat} {t : Term} {k : Int32} (h : (Jvm.Cond.eq t (.int k)).value args first o s idx = some true) : t.eval args first o idx s = some (.int k) := by
  simp only [Cond.value, Term.eval] at h
  cases ht : t.eval args first o idx s with
  | none => simp [ht] at h
  | some x => cases x <;> simp [ht] at h ⊢; exact h
end OwnWords
section OwnInts
theorem own_prod {a b : Int} {A B : Nat} (ha : a.natAbs ≤ A) (hb : b.natAbs ≤ B) : (a * b).natAbs ≤ A * B := by
  rw [Int.natAbs_mul]; exact Nat.mul_le_mul ha hb
theorem own_shr (x : Int32) : (x >>> ((11 : Int32) &&& 31)).toInt.natAbs ≤ 1048576 := by
  rw [c_ishr x 11 11 (by decide)]
  have := x.le_toInt; have := x.toInt_lt
  show (x.toInt / (2048 : Nat)).natAbs ≤ _
  omega
end OwnInts
theorem own_dcmp0_gt (x : Int32) (o : CmpOp) : 0 < cmpValue (FP.dcmp (FP.i2d x) 0) o ↔ 0 < x := by
  rw [show (0 : UInt64) = FP.i2d 0 by decide +kernel, own_dcmp_gt]
theorem own_meas1 {i : Int32} {j : Int64} (hA : ¬ i < (1 : Int32)) (hB : (99 : Int64) < j) : (if ((0 : Int32) < i ∧ ¬ (j < (100 : Int64))) then 1 else 0 : Int32) = (1 : Int32) := by
  have h1 : (0 : Int32) < i := by rw [Int32.lt_iff_toInt_lt] at hA ⊢; have : (1 : Int32).toInt = 1 := rfl; have : (0 : Int32).toInt = 0 := rfl; omega
  have h2 : ¬ j < (100 : Int64) := by rw [Int64.lt_iff_toInt_lt] at hB ⊢; have : (99 : Int64).toInt = 99 := rfl; have : (100 : Int64).toInt = 100 := rfl; omega
  simp [h1, h2]
theorem own_meas2 {i : Int32} {j : Int64} (hB : ¬ (99 : Int64) < j) : (if ((0 : Int32) < i ∧ ¬ (j < (100 : Int64))) then 1 else 0 : Int32) = (0 : Int32) := by
  have h2 : j < (100 : Int64) := by rw [Int64.lt_iff_toInt_lt] at hB ⊢; have : (99 : Int64).toInt = 99 := rfl; have : (100 : Int64).toInt = 100 := rfl; omega
  simp [h2]
theorem own_meas3 {i : Int32} {j : Int64} (hA : i < (1 : Int32)) : (if ((0 : Int32) < i ∧ ¬ (j < (100 : Int64))) then 1 else 0 : Int32) = (0 : Int32) := by
  have h1 : ¬ (0 : Int32) < i := by rw [Int32.lt_iff_toInt_lt] at hA ⊢; have : (1 : Int32).toInt = 1 := rfl; have : (0 : Int32).toInt = 0 := rfl; omega
  simp [h1]
theorem own_d2_0 : decode jdk_30_method_1_code 0 = .ok (.aload_n 0, 1) := by decide +kernel
theorem own_d2_1 : decode jdk_30_method_1_code 1 = .ok (.invokespecial 1, 3) := by decide +kernel
theorem own_d2_4 : decode jdk_30_method_1_code 4 = .ok (.return_, 1) := by decide +kernel
set_option maxHeartbeats 4000000 in
theorem own_ef2 (m : MethodId) (x0 : Addr) : entryFrame m #[(.ref x0)] 1 = mkF m 0 #[.val (.ref x0)] [] := by first | (simp [entryFrame, mkF, argsToLocals, Value.category]; done) | rfl
theorem own_pn0 : plainName "java/lang/Record" = true := by first | (simp [plainName, overriddenIn]; done) | decide +kernel
def own_Q2 (Z : State) (a0 : Array Value) (o0 : Addr) (h0 : Heap) (n0 : Nat) (v : Option Value) (h : Heap) (L : List Loc) : Prop := v = none ∧ Fr n0 L ∧ h = h0
set_option maxRecDepth 65536 in
set_option maxHeartbeats 40000000 in
theorem own_rm2 (l : Launch) (Z : State) (a0 : Array Value) (hw : ∀ d ∈ tables_1, d.before a0 Z = true) (ws : List Jvm.Cond) (o0 : Addr) (h0 : Heap) (n0 : Nat) (Z0 : n0 ≤ h0.size) :
    MetFree l (⟨"java/lang/Record", "<init>", "()V"⟩ : MethodName) (head1 (Jvm.Cond.code (⟨"java/lang/Record", "<init>", "()V"⟩ : MethodName) jdk_30_method_1_code 1 none :: ws) ({ frames := 1, cells := 0, slots := 0, locals := 12 } : Room)) (fun a U => a = #[(.ref o0)] ∧ Z.Warmed39 U.vm ∧ U.heap = h0) (fun _ _ _ _ _ => True) (fun _ U o U' => ∃ v L, o = .returned v ∧ own_Q2 Z a0 o0 h0 n0 v U'.heap L ∧ FrameEnd U o U' L ({ frames := 1, cells := 0, slots := 0, locals := 12 } : Room).cells ({ frames := 1, cells := 0, slots := 0, locals := 12 } : Room).slots) := by
  refine own_body (Q := fun v h L => own_Q2 Z a0 o0 h0 n0 v h L) (plainFor_of_name own_pn0) ?_
  intro p e s m below meth c s₁ hx hby hml hZ hown hnm hret hlk X0 e0
  replace hml : c.maxLocals = 1 := hml
  have N0 := Fr.nil n0
  have K0 : Keep h0 h0 [] := Keep.refl _ _
  refine own_st (fun t k => castTop (own_ef2 m o0) k) ?_
  show own_Run p e below s _ _ _ (s₁.setTop (mkF m 0 #[.val (.ref o0)] []))
  refine own_st (fun t k => XS.aloadN X0.here hx rfl (hb hby own_d2_0) rfl rfl k) ?_
  show own_Run p e below s _ _ _ (s₁.setTop (mkF m 1 #[.val (.ref o0)] [(.ref o0)]))
  obtain ⟨T1, X1, e1, st1⟩ := initO X0 hx hZ hown (hw _ (List.mem_of_getElem? (i := 14) rfl)) (hw _ (List.mem_of_getElem? (i := 15) rfl)) (hw _ (List.mem_of_getElem? (i := 16) rfl)) e0 (g := (mkF m 1 #[.val (.ref o0)] [(.ref o0)])) rfl (by rw [hml]; rfl) rfl (hb hby own_d2_1) (by decide) (W := 0) (by show 2 * 0 + _ ≤ _; exact Nat.le_of_eq rfl) (by decide)
  refine own_st st1 ?_
  show own_Run p e below s _ _ _ (T1.setTop (mkF m 4 #[.val (.ref o0)] []))
  exact own_retV X1 hx hlk hret (hb hby own_d2_4) (by decide) (by decide) ⟨rfl, N0, e1⟩
theorem own_d1_0 : decode prog_87_method_1_code 0 = .ok (.aload_n 0, 1) := by decide +kernel
theorem own_d1_1 : decode prog_87_method_1_code 1 = .ok (.invokespecial 3, 3) := by decide +kernel
theorem own_pd1 : parseMethodDescriptor "()V" = some ⟨[], none⟩ := by decide +kernel
theorem own_d1_4 : decode prog_87_method_1_code 4 = .ok (.aload_n 0, 1) := by decide +kernel
theorem own_d1_5 : decode prog_87_method_1_code 5 = .ok (.aload_n 1, 1) := by decide +kernel
theorem own_d1_6 : decode prog_87_method_1_code 6 = .ok (.putfield 9, 3) := by decide +kernel
theorem own_d1_9 : decode prog_87_method_1_code 9 = .ok (.aload_n 0, 1) := by decide +kernel
theorem own_d1_10 : decode prog_87_method_1_code 10 = .ok (.iload_n 2, 1) := by decide +kernel
theorem own_d1_11 : decode prog_87_method_1_code 11 = .ok (.putfield 15, 3) := by decide +kernel
theorem own_d1_14 : decode prog_87_method_1_code 14 = .ok (.aload_n 0, 1) := by decide +kernel
theorem own_d1_15 : decode prog_87_method_1_code 15 = .ok (.dload_n 3, 1) := by decide +kernel
theorem own_d1_16 : decode prog_87_method_1_code 16 = .ok (.putfield 19, 3) := by decide +kernel
theorem own_d1_19 : decode prog_87_method_1_code 19 = .ok (.aload_n 0, 1) := by decide +kernel
theorem own_d1_20 : decode prog_87_method_1_code 20 = .ok (.lload 5, 2) := by decide +kernel
theorem own_d1_22 : decode prog_87_method_1_code 22 = .ok (.putfield 23, 3) := by decide +kernel
theorem own_d1_25 : decode prog_87_method_1_code 25 = .ok (.aload_n 0, 1) := by decide +kernel
theorem own_d1_26 : decode prog_87_method_1_code 26 = .ok (.lload 7, 2) := by decide +kernel
theorem own_d1_28 : decode prog_87_method_1_code 28 = .ok (.putfield 27, 3) := by decide +kernel
theorem own_d1_31 : decode prog_87_method_1_code 31 = .ok (.aload_n 0, 1) := by decide +kernel
theorem own_d1_32 : decode prog_87_method_1_code 32 = .ok (.lload 9, 2) := by decide +kernel
theorem own_d1_34 : decode prog_87_method_1_code 34 = .ok (.putfield 30, 3) := by decide +kernel
theorem own_d1_37 : decode prog_87_method_1_code 37 = .ok (.aload_n 0, 1) := by decide +kernel
theorem own_d1_38 : decode prog_87_method_1_code 38 = .ok (.lload 11, 2) := by decide +kernel
theorem own_d1_40 : decode prog_87_method_1_code 40 = .ok (.putfield 33, 3) := by decide +kernel
theorem own_d1_43 : decode prog_87_method_1_code 43 = .ok (.aload_n 0, 1) := by decide +kernel
theorem own_d1_44 : decode prog_87_method_1_code 44 = .ok (.lload 13, 2) := by decide +kernel
theorem own_d1_46 : decode prog_87_method_1_code 46 = .ok (.putfield 36, 3) := by decide +kernel
theorem own_d1_49 : decode prog_87_method_1_code 49 = .ok (.aload_n 0, 1) := by decide +kernel
theorem own_d1_50 : decode prog_87_method_1_code 50 = .ok (.lload 15, 2) := by decide +kernel
theorem own_d1_52 : decode prog_87_method_1_code 52 = .ok (.putfield 39, 3) := by decide +kernel
theorem own_d1_55 : decode prog_87_method_1_code 55 = .ok (.return_, 1) := by decide +kernel
set_option maxHeartbeats 4000000 in
theorem own_ef1 (m : MethodId) (x0 : Addr) (x1 : Addr) (x2 : Int32) (x3 : UInt64) (x4 : Int64) (x5 : Int64) (x6 : Int64) (x7 : Int64) (x8 : Int64) (x9 : Int64) : entryFrame m #[(.ref x0), (.ref x1), (.int x2), (.double x3), (.long x4), (.long x5), (.long x6), (.long x7), (.long x8), (.long x9)] 17 = mkF m 0 #[.val (.ref x0), .val (.ref x1), .val (.int x2), .val (.double x3), .second, .val (.long x4), .second, .val (.long x5), .second, .val (.long x6), .second, .val (.long x7), .second, .val (.long x8), .second, .val (.long x9), .second] [] := by first | (simp [entryFrame, mkF, argsToLocals, Value.category]; done) | rfl
theorem own_pn2 : plainName "com/example/tunegrid/tunegrid/TuningPolicy$Interval" = true := by first | (simp [plainName, overriddenIn]; done) | decide +kernel
def own_Q1 (Z : State) (a0 : Array Value) (a0_ : Addr) (o1 : Addr) (i2 : Int32) (d3 : UInt64) (j4 : Int64) (j5 : Int64) (j6 : Int64) (j7 : Int64) (j8 : Int64) (j9 : Int64) (h0 : Heap) (n0 : Nat) (v : Option Value) (h : Heap) (L : List Loc) : Prop := v = none ∧ Fr n0 L ∧ Keep h0 h [a0_] ∧ Exa Z h a0_ "com/example/tunegrid/tunegrid/TuningPolicy$Interval" ∧ Fld Z h a0_ "com/example/tunegrid/tunegrid/TuningPolicy$Interval" "seconds" "D" (.double d3) ∧ Fld Z h a0_ "com/example/tunegrid/tunegrid/TuningPolicy$Interval" "commits" "J" (.long j4)
set_option maxRecDepth 65536 in
set_option maxHeartbeats 40000000 in
theorem own_rm1 (l : Launch) (Z : State) (a0 : Array Value) (hw : ∀ d ∈ tables_1, d.before a0 Z = true) (ws : List Jvm.Cond) (a0_ : Addr) (o1 : Addr) (i2 : Int32) (d3 : UInt64) (j4 : Int64) (j5 : Int64) (j6 : Int64) (j7 : Int64) (j8 : Int64) (j9 : Int64) (h0 : Heap) (n0 : Nat) (Z0 : n0 ≤ h0.size) (E0 : Exa Z h0 a0_ "com/example/tunegrid/tunegrid/TuningPolicy$Interval") (D0 : ∀ {O nm d : String} {ty : FieldType}, Laid Z a0 "com/example/tunegrid/tunegrid/TuningPolicy$Interval" O nm d → parseFieldDescriptor d = some ty → Fld Z h0 a0_ O nm d (defaultValue ty)) (G0 : n0 ≤ a0_) :
    MetFree l (⟨"com/example/tunegrid/tunegrid/TuningPolicy$Interval", "<init>", "(Lcom/example/tunegrid/tunegrid/Replication$Kind;IDJJJJJJ)V"⟩ : MethodName) (head1 (Jvm.Cond.code (⟨"com/example/tunegrid/tunegrid/TuningPolicy$Interval", "<init>", "(Lcom/example/tunegrid/tunegrid/Replication$Kind;IDJJJJJJ)V"⟩ : MethodName) prog_87_method_1_code 17 none :: ws) ({ frames := 2, cells := 0, slots := 0, locals := 24 } : Room)) (fun a U => a = #[(.ref a0_), (.ref o1), (.int i2), (.double d3), (.long j4), (.long j5), (.long j6), (.long j7), (.long j8), (.long j9)] ∧ Z.Warmed39 U.vm ∧ U.heap = h0) (fun _ _ _ _ _ => True) (fun _ U o U' => ∃ v L, o = .returned v ∧ own_Q1 Z a0 a0_ o1 i2 d3 j4 j5 j6 j7 j8 j9 h0 n0 v U'.heap L ∧ FrameEnd U o U' L ({ frames := 2, cells := 0, slots := 0, locals := 24 } : Room).cells ({ frames := 2, cells := 0, slots := 0, locals := 24 } : Room).slots) := by
  refine own_body (Q := fun v h L => own_Q1 Z a0 a0_ o1 i2 d3 j4 j5 j6 j7 j8 j9 h0 n0 v h L) (plainFor_of_name own_pn2) ?_
  intro p e s m below meth c s₁ hx hby hml hZ hown hnm hret hlk X0 e0
  replace hml : c.maxLocals = 17 := hml
  have N0 := Fr.nil n0
  have K0 : Keep h0 h0 [a0_] := Keep.refl _ _
  refine own_st (fun t k => castTop (own_ef1 m a0_ o1 i2 d3 j4 j5 j6 j7 j8 j9) k) ?_
  show own_Run p e below s _ _ _ (s₁.setTop (mkF m 0 #[.val (.ref a0_), .val (.ref o1), .val (.int i2), .val (.double d3), .second, .val (.long j4), .second, .val (.long j5), .second, .val (.long j6), .second, .val (.long j7), .second, .val (.long j8), .second, .val (.long j9), .second] []))
  refine own_st (fun t k => XS.aloadN X0.here hx rfl (hb hby own_d1_0) rfl rfl k) ?_
  show own_Run p e below s _ _ _ (s₁.setTop (mkF m 1 #[.val (.ref a0_), .val (.ref o1), .val (.int i2), .val (.double d3), .second, .val (.long j4), .second, .val (.long j5), .second, .val (.long j6), .second, .val (.long j7), .second, .val (.long j8), .second, .val (.long j9), .second] [(.ref a0_)]))
  refine own_callI X0 hx hZ (y := (⟨"java/lang/Record", "<init>", "()V"⟩ : MethodName)) rfl hown (hw _ (List.mem_of_getElem? (i := 9) rfl)) (hw _ (List.mem_of_getElem? (i := 10) rfl)) (hw _ (List.mem_of_getElem? (i := 13) rfl)) (hw _ (List.mem_of_getElem? (i := 12) rfl)) (by decide) e0 (a := a0_) (argsL := []) (rest := []) (W := 0) (own_rm2 l Z a0 hw [] a0_ h0 n0 (Nat.le_trans Z0 K0.1) ) (by decide) (by decide) (by rw [hml]; rfl) (lenOf own_pd1 rfl) rfl (by exact Nat.le_of_eq rfl) (hb hby own_d1_1) (by decide) (by decide) ?_
  intro T2 v2 L2 X2 hq2
  obtain ⟨rfl, N2q, hh2⟩ := hq2
  have N2 := Fr.app N0 N2q
  show own_Run p e below s _ _ _ (T2.setTop (mkF m 4 #[.val (.ref a0_), .val (.ref o1), .val (.int i2), .val (.double d3), .second, .val (.long j4), .second, .val (.long j5), .second, .val (.long j6), .second, .val (.long j7), .second, .val (.long j8), .second, .val (.long j9), .second] []))
  refine own_st (fun t k => XS.aloadN X2.here hx rfl (hb hby own_d1_4) rfl rfl k) ?_
  show own_Run p e below s _ _ _ (T2.setTop (mkF m 5 #[.val (.ref a0_), .val (.ref o1), .val (.int i2), .val (.double d3), .second, .val (.long j4), .second, .val (.long j5), .second, .val (.long j6), .second, .val (.long j7), .second, .val (.long j8), .second, .val (.long j9), .second] [(.ref a0_)]))
  refine own_st (fun t k => XS.aloadN X2.here hx rfl (hb hby own_d1_5) rfl rfl k) ?_
  show own_Run p e below s _ _ _ (T2.setTop (mkF m 6 #[.val (.ref a0_), .val (.ref o1), .val (.int i2), .val (.double d3), .second, .val (.long j4), .second, .val (.long j5), .second, .val (.long j6), .second, .val (.long j7), .second, .val (.long j8), .second, .val (.long j9), .second] [(.ref o1), (.ref a0_)]))
  have F3 : Fld Z _ a0_ "com/example/tunegrid/tunegrid/TuningPolicy$Interval" "protocol" "Lcom/example/tunegrid/tunegrid/Replication$Kind;" .null := D0 (Or.inr (hw _ (List.mem_of_getElem? (i := 18) rfl))) (ty := (.object "com/example/tunegrid/tunegrid/Replication$Kind")) (by decide)
  obtain ⟨T4, h4, X4, e4, W4, st4⟩ := putF X2 hx hZ hown (host := "") (Or.inl (hw _ (List.mem_of_getElem? (i := 17) rfl))) Via.refl hh2 F3 E0 (Or.inr ⟨(hw _ (List.mem_of_getElem? (i := 18) rfl)), rfl, hnm⟩) (hw _ (List.mem_of_getElem? (i := 4) rfl)) (ty := (.object "com/example/tunegrid/tunegrid/Replication$Kind")) (by decide) rfl rfl (g := (mkF m 6 #[.val (.ref a0_), .val (.ref o1), .val (.int i2), .val (.double d3), .second, .val (.long j4), .second, .val (.long j5), .second, .val (.long j6), .second, .val (.long j7), .second, .val (.long j8), .second, .val (.long j9), .second] [(.ref o1), (.ref a0_)])) rfl rfl (hb hby own_d1_6)
  refine own_st st4 ?_
  have Fw4 := F3.same W4
  have N4 := Fr.snoc X4 N2 G0
  have K5 : Keep h0 h4 [a0_] := K0.wr W4 (Or.inl (List.mem_of_getElem? (i := 0) rfl))
  show own_Run p e below s _ _ _ (T4.setTop (mkF m 9 #[.val (.ref a0_), .val (.ref o1), .val (.int i2), .val (.double d3), .second, .val (.long j4), .second, .val (.long j5), .second, .val (.long j6), .second, .val (.long j7), .second, .val (.long j8), .second, .val (.long j9), .second] []))
  refine own_st (fun t k => XS.aloadN X4.here hx rfl (hb hby own_d1_9) rfl rfl k) ?_
  show own_Run p e below s _ _ _ (T4.setTop (mkF m 10 #[.val (.ref a0_), .val (.ref o1), .val (.int i2), .val (.double d3), .second, .val (.long j4), .second, .val (.long j5), .second, .val (.long j6), .second, .val (.long j7), .second, .val (.long j8), .second, .val (.long j9), .second] [(.ref a0_)]))
  refine own_st (fun t k => XS.iloadN X4.here hx rfl (hb hby own_d1_10) rfl k) ?_
  show own_Run p e below s _ _ _ (T4.setTop (mkF m 11 #[.val (.ref a0_), .val (.ref o1), .val (.int i2), .val (.double d3), .second, .val (.long j4), .second, .val (.long j5), .second, .val (.long j6), .second, .val (.long j7), .second, .val (.long j8), .second, .val (.long j9), .second] [(.int i2), (.ref a0_)]))
  have E7 := (E0.wr W4)
  have F8 : Fld Z _ a0_ "com/example/tunegrid/tunegrid/TuningPolicy$Interval" "members" "I" (.int (0 : Int32)) := D0 (Or.inr (hw _ (List.mem_of_getElem? (i := 20) rfl))) (ty := .int) (by decide)
  have F9 := (F8.other W4 (Or.inr (slot_ne (Or.inr (hw _ (List.mem_of_getElem? (i := 20) rfl))) (Or.inr (hw _ (List.mem_of_getElem? (i := 18) rfl))) (by decide) (t := .int) (t' := (.object "com/example/tunegrid/tunegrid/Replication$Kind")) (by decide) (by decide))))
  obtain ⟨T10, h10, X10, e10, W10, st10⟩ := putF X4 hx hZ hown (host := "") (Or.inl (hw _ (List.mem_of_getElem? (i := 19) rfl))) Via.refl e4 F9 E7 (Or.inr ⟨(hw _ (List.mem_of_getElem? (i := 20) rfl)), rfl, hnm⟩) (hw _ (List.mem_of_getElem? (i := 4) rfl)) (ty := .int) (by decide) rfl rfl (g := (mkF m 11 #[.val (.ref a0_), .val (.ref o1), .val (.int i2), .val (.double d3), .second, .val (.long j4), .second, .val (.long j5), .second, .val (.long j6), .second, .val (.long j7), .second, .val (.long j8), .second, .val (.long j9), .second] [(.int i2), (.ref a0_)])) rfl rfl (hb hby own_d1_11)
  refine own_st st10 ?_
  have Fw10 := F9.same W10
  have N10 := Fr.snoc X10 N4 G0
  have K11 : Keep h0 h10 [a0_] := K5.wr W10 (Or.inl (List.mem_of_getElem? (i := 0) rfl))
  show own_Run p e below s _ _ _ (T10.setTop (mkF m 14 #[.val (.ref a0_), .val (.ref o1), .val (.int i2), .val (.double d3), .second, .val (.long j4), .second, .val (.long j5), .second, .val (.long j6), .second, .val (.long j7), .second, .val (.long j8), .second, .val (.long j9), .second] []))
  refine own_st (fun t k => XS.aloadN X10.here hx rfl (hb hby own_d1_14) rfl rfl k) ?_
  show own_Run p e below s _ _ _ (T10.setTop (mkF m 15 #[.val (.ref a0_), .val (.ref o1), .val (.int i2), .val (.double d3), .second, .val (.long j4), .second, .val (.long j5), .second, .val (.long j6), .second, .val (.long j7), .second, .val (.long j8), .second, .val (.long j9), .second] [(.ref a0_)]))
  refine own_st (fun t k => XS.dloadN X10.here hx rfl (hb hby own_d1_15) rfl k) ?_
  show own_Run p e below s _ _ _ (T10.setTop (mkF m 16 #[.val (.ref a0_), .val (.ref o1), .val (.int i2), .val (.double d3), .second, .val (.long j4), .second, .val (.long j5), .second, .val (.long j6), .second, .val (.long j7), .second, .val (.long j8), .second, .val (.long j9), .second] [(.double d3), (.ref a0_)]))
  have E13 := (E7.wr W10)
  have F14 : Fld Z _ a0_ "com/example/tunegrid/tunegrid/TuningPolicy$Interval" "seconds" "D" (.double (0 : UInt64)) := D0 (Or.inr (hw _ (List.mem_of_getElem? (i := 22) rfl))) (ty := .double) (by decide)
  have F15 := ((F14.other W4 (Or.inr (slot_ne (Or.inr (hw _ (List.mem_of_getElem? (i := 22) rfl))) (Or.inr (hw _ (List.mem_of_getElem? (i := 18) rfl))) (by decide) (t := .double) (t' := (.object "com/example/tunegrid/tunegrid/Replication$Kind")) (by decide) (by decide)))).other W10 (Or.inr (slot_ne (Or.inr (hw _ (List.mem_of_getElem? (i := 22) rfl))) (Or.inr (hw _ (List.mem_of_getElem? (i := 20) rfl))) (by decide) (t := .double) (t' := .int) (by decide) (by decide))))
  obtain ⟨T16, h16, X16, e16, W16, st16⟩ := putF X10 hx hZ hown (host := "") (Or.inl (hw _ (List.mem_of_getElem? (i := 21) rfl))) Via.refl e10 F15 E13 (Or.inr ⟨(hw _ (List.mem_of_getElem? (i := 22) rfl)), rfl, hnm⟩) (hw _ (List.mem_of_getElem? (i := 4) rfl)) (ty := .double) (by decide) rfl rfl (g := (mkF m 16 #[.val (.ref a0_), .val (.ref o1), .val (.int i2), .val (.double d3), .second, .val (.long j4), .second, .val (.long j5), .second, .val (.long j6), .second, .val (.long j7), .second, .val (.long j8), .second, .val (.long j9), .second] [(.double d3), (.ref a0_)])) rfl rfl (hb hby own_d1_16)
  refine own_st st16 ?_
  have Fw16 := F15.same W16
  have N16 := Fr.snoc X16 N10 G0
  have K17 : Keep h0 h16 [a0_] := K11.wr W16 (Or.inl (List.mem_of_getElem? (i := 0) rfl))
  show own_Run p e below s _ _ _ (T16.setTop (mkF m 19 #[.val (.ref a0_), .val (.ref o1), .val (.int i2), .val (.double d3), .second, .val (.long j4), .second, .val (.long j5), .second, .val (.long j6), .second, .val (.long j7), .second, .val (.long j8), .second, .val (.long j9), .second] []))
  refine own_st (fun t k => XS.aloadN X16.here hx rfl (hb hby own_d1_19) rfl rfl k) ?_
  show own_Run p e below s _ _ _ (T16.setTop (mkF m 20 #[.val (.ref a0_), .val (.ref o1), .val (.int i2), .val (.double d3), .second, .val (.long j4), .second, .val (.long j5), .second, .val (.long j6), .second, .val (.long j7), .second, .val (.long j8), .second, .val (.long j9), .second] [(.ref a0_)]))
  refine own_st (fun t k => XS.lload X16.here hx rfl (hb hby own_d1_20) rfl k) ?_
  show own_Run p e below s _ _ _ (T16.setTop (mkF m 22 #[.val (.ref a0_), .val (.ref o1), .val (.int i2), .val (.double d3), .second, .val (.long j4), .second, .val (.long j5), .second, .val (.long j6), .second, .val (.long j7), .second, .val (.long j8), .second, .val (.long j9), .second] [(.long j4), (.ref a0_)]))
  have E19 := (E13.wr W16)
  have F20 : Fld Z _ a0_ "com/example/tunegrid/tunegrid/TuningPolicy$Interval" "commits" "J" (.long (0 : Int64)) := D0 (Or.inr (hw _ (List.mem_of_getElem? (i := 24) rfl))) (ty := .long) (by decide)
  have F21 := (((F20.other W4 (Or.inr (slot_ne (Or.inr (hw _ (List.mem_of_getElem? (i := 24) rfl))) (Or.inr (hw _ (List.mem_of_getElem? (i := 18) rfl))) (by decide) (t := .long) (t' := (.object "com/example/tunegrid/tunegrid/Replication$Kind")) (by decide) (by decide)))).other W10 (Or.inr (slot_ne (Or.inr (hw _ (List.mem_of_getElem? (i := 24) rfl))) (Or.inr (hw _ (List.mem_of_getElem? (i := 20) rfl))) (by decide) (t := .long) (t' := .int) (by decide) (by decide)))).other W16 (Or.inr (slot_ne (Or.inr (hw _ (List.mem_of_getElem? (i := 24) rfl))) (Or.inr (hw _ (List.mem_of_getElem? (i := 22) rfl))) (by decide) (t := .long) (t' := .double) (by decide) (by decide))))
  obtain ⟨T22, h22, X22, e22, W22, st22⟩ := putF X16 hx hZ hown (host := "") (Or.inl (hw _ (List.mem_of_getElem? (i := 23) rfl))) Via.refl e16 F21 E19 (Or.inr ⟨(hw _ (List.mem_of_getElem? (i := 24) rfl)), rfl, hnm⟩) (hw _ (List.mem_of_getElem? (i := 4) rfl)) (ty := .long) (by decide) rfl rfl (g := (mkF m 22 #[.val (.ref a0_), .val (.ref o1), .val (.int i2), .val (.double d3), .second, .val (.long j4), .second, .val (.long j5), .second, .val (.long j6), .second, .val (.long j7), .second, .val (.long j8), .second, .val (.long j9), .second] [(.long j4), (.ref a0_)])) rfl rfl (hb hby own_d1_22)
  refine own_st st22 ?_
  have Fw22 := F21.same W22
  have N22 := Fr.snoc X22 N16 G0
  have K23 : Keep h0 h22 [a0_] := K17.wr W22 (Or.inl (List.mem_of_getElem? (i := 0) rfl))
  show own_Run p e below s _ _ _ (T22.setTop (mkF m 25 #[.val (.ref a0_), .val (.ref o1), .val (.int i2), .val (.double d3), .second, .val (.long j4), .second, .val (.long j5), .second, .val (.long j6), .second, .val (.long j7), .second, .val (.long j8), .second, .val (.long j9), .second] []))
  refine own_st (fun t k => XS.aloadN X22.here hx rfl (hb hby own_d1_25) rfl rfl k) ?_
  show own_Run p e below s _ _ _ (T22.setTop (mkF m 26 #[.val (.ref a0_), .val (.ref o1), .val (.int i2), .val (.double d3), .second, .val (.long j4), .second, .val (.long j5), .second, .val (.long j6), .second, .val (.long j7), .second, .val (.long j8), .second, .val (.long j9), .second] [(.ref a0_)]))
  refine own_st (fun t k => XS.lload X22.here hx rfl (hb hby own_d1_26) rfl k) ?_
  show own_Run p e below s _ _ _ (T22.setTop (mkF m 28 #[.val (.ref a0_), .val (.ref o1), .val (.int i2), .val (.double d3), .second, .val (.long j4), .second, .val (.long j5), .second, .val (.long j6), .second, .val (.long j7), .second, .val (.long j8), .second, .val (.long j9), .second] [(.long j5), (.ref a0_)]))
  have E25 := (E19.wr W22)
  have F26 : Fld Z _ a0_ "com/example/tunegrid/tunegrid/TuningPolicy$Interval" "readOnly" "J" (.long (0 : Int64)) := D0 (Or.inr (hw _ (List.mem_of_getElem? (i := 26) rfl))) (ty := .long) (by decide)
  have F27 := ((((F26.other W4 (Or.inr (slot_ne (Or.inr (hw _ (List.mem_of_getElem? (i := 26) rfl))) (Or.inr (hw _ (List.mem_of_getElem? (i := 18) rfl))) (by decide) (t := .long) (t' := (.object "com/example/tunegrid/tunegrid/Replication$Kind")) (by decide) (by decide)))).other W10 (Or.inr (slot_ne (Or.inr (hw _ (List.mem_of_getElem? (i := 26) rfl))) (Or.inr (hw _ (List.mem_of_getElem? (i := 20) rfl))) (by decide) (t := .long) (t' := .int) (by decide) (by decide)))).other W16 (Or.inr (slot_ne (Or.inr (hw _ (List.mem_of_getElem? (i := 26) rfl))) (Or.inr (hw _ (List.mem_of_getElem? (i := 22) rfl))) (by decide) (t := .long) (t' := .double) (by decide) (by decide)))).other W22 (Or.inr (slot_ne (Or.inr (hw _ (List.mem_of_getElem? (i := 26) rfl))) (Or.inr (hw _ (List.mem_of_getElem? (i := 24) rfl))) (by decide) (t := .long) (t' := .long) (by decide) (by decide))))
  obtain ⟨T28, h28, X28, e28, W28, st28⟩ := putF X22 hx hZ hown (host := "") (Or.inl (hw _ (List.mem_of_getElem? (i := 25) rfl))) Via.refl e22 F27 E25 (Or.inr ⟨(hw _ (List.mem_of_getElem? (i := 26) rfl)), rfl, hnm⟩) (hw _ (List.mem_of_getElem? (i := 4) rfl)) (ty := .long) (by decide) rfl rfl (g := (mkF m 28 #[.val (.ref a0_), .val (.ref o1), .val (.int i2), .val (.double d3), .second, .val (.long j4), .second, .val (.long j5), .second, .val (.long j6), .second, .val (.long j7), .second, .val (.long j8), .second, .val (.long j9), .second] [(.long j5), (.ref a0_)])) rfl rfl (hb hby own_d1_28)
  refine own_st st28 ?_
  have Fw28 := F27.same W28
  have N28 := Fr.snoc X28 N22 G0
  have K29 : Keep h0 h28 [a0_] := K23.wr W28 (Or.inl (List.mem_of_getElem? (i := 0) rfl))
  show own_Run p e below s _ _ _ (T28.setTop (mkF m 31 #[.val (.ref a0_), .val (.ref o1), .val (.int i2), .val (.double d3), .second, .val (.long j4), .second, .val (.long j5), .second, .val (.long j6), .second, .val (.long j7), .second, .val (.long j8), .second, .val (.long j9), .second] []))
  refine own_st (fun t k => XS.aloadN X28.here hx rfl (hb hby own_d1_31) rfl rfl k) ?_
  show own_Run p e below s _ _ _ (T28.setTop (mkF m 32 #[.val (.ref a0_), .val (.ref o1), .val (.int i2), .val (.double d3), .second, .val (.long j4), .second, .val (.long j5), .second, .val (.long j6), .second, .val (.long j7), .second, .val (.long j8), .second, .val (.long j9), .second] [(.ref a0_)]))
  refine own_st (fun t k => XS.lload X28.here hx rfl (hb hby own_d1_32) rfl k) ?_
  show own_Run p e below s _ _ _ (T28.setTop (mkF m 34 #[.val (.ref a0_), .val (.ref o1), .val (.int i2), .val (.double d3), .second, .val (.long j4), .second, .val (.long j5), .second, .val (.long j6), .second, .val (.long j7), .second, .val (.long j8), .second, .val (.long j9), .second] [(.long j6), (.ref a0_)]))
  have E31 := (E25.wr W28)
  have F32 : Fld Z _ a0_ "com/example/tunegrid/tunegrid/TuningPolicy$Interval" "updates" "J" (.long (0 : Int64)) := D0 (Or.inr (hw _ (List.mem_of_getElem? (i := 28) rfl))) (ty := .long) (by decide)
  have F33 := (((((F32.other W4 (Or.inr (slot_ne (Or.inr (hw _ (List.mem_of_getElem? (i := 28) rfl))) (Or.inr (hw _ (List.mem_of_getElem? (i := 18) rfl))) (by decide) (t := .long) (t' := (.object "com/example/tunegrid/tunegrid/Replication$Kind")) (by decide) (by decide)))).other W10 (Or.inr (slot_ne (Or.inr (hw _ (List.mem_of_getElem? (i := 28) rfl))) (Or.inr (hw _ (List.mem_of_getElem? (i := 20) rfl))) (by decide) (t := .long) (t' := .int) (by decide) (by decide)))).other W16 (Or.inr (slot_ne (Or.inr (hw _ (List.mem_of_getElem? (i := 28) rfl))) (Or.inr (hw _ (List.mem_of_getElem? (i := 22) rfl))) (by decide) (t := .long) (t' := .double) (by decide) (by decide)))).other W22 (Or.inr (slot_ne (Or.inr (hw _ (List.mem_of_getElem? (i := 28) rfl))) (Or.inr (hw _ (List.mem_of_getElem? (i := 24) rfl))) (by decide) (t := .long) (t' := .long) (by decide) (by decide)))).other W28 (Or.inr (slot_ne (Or.inr (hw _ (List.mem_of_getElem? (i := 28) rfl))) (Or.inr (hw _ (List.mem_of_getElem? (i := 26) rfl))) (by decide) (t := .long) (t' := .long) (by decide) (by decide))))
  obtain ⟨T34, h34, X34, e34, W34, st34⟩ := putF X28 hx hZ hown (host := "") (Or.inl (hw _ (List.mem_of_getElem? (i := 27) rfl))) Via.refl e28 F33 E31 (Or.inr ⟨(hw _ (List.mem_of_getElem? (i := 28) rfl)), rfl, hnm⟩) (hw _ (List.mem_of_getElem? (i := 4) rfl)) (ty := .long) (by decide) rfl rfl (g := (mkF m 34 #[.val (.ref a0_), .val (.ref o1), .val (.int i2), .val (.double d3), .second, .val (.long j4), .second, .val (.long j5), .second, .val (.long j6), .second, .val (.long j7), .second, .val (.long j8), .second, .val (.long j9), .second] [(.long j6), (.ref a0_)])) rfl rfl (hb hby own_d1_34)
  refine own_st st34 ?_
  have Fw34 := F33.same W34
  have N34 := Fr.snoc X34 N28 G0
  have K35 : Keep h0 h34 [a0_] := K29.wr W34 (Or.inl (List.mem_of_getElem? (i := 0) rfl))
  show own_Run p e below s _ _ _ (T34.setTop (mkF m 37 #[.val (.ref a0_), .val (.ref o1), .val (.int i2), .val (.double d3), .second, .val (.long j4), .second, .val (.long j5), .second, .val (.long j6), .second, .val (.long j7), .second, .val (.long j8), .second, .val (.long j9), .second] []))
  refine own_st (fun t k => XS.aloadN X34.here hx rfl (hb hby own_d1_37) rfl rfl k) ?_
  show own_Run p e below s _ _ _ (T34.setTop (mkF m 38 #[.val (.ref a0_), .val (.ref o1), .val (.int i2), .val (.double d3), .second, .val (.long j4), .second, .val (.long j5), .second, .val (.long j6), .second, .val (.long j7), .second, .val (.long j8), .second, .val (.long j9), .second] [(.ref a0_)]))
  refine own_st (fun t k => XS.lload X34.here hx rfl (hb hby own_d1_38) rfl k) ?_
  show own_Run p e below s _ _ _ (T34.setTop (mkF m 40 #[.val (.ref a0_), .val (.ref o1), .val (.int i2), .val (.double d3), .second, .val (.long j4), .second, .val (.long j5), .second, .val (.long j6), .second, .val (.long j7), .second, .val (.long j8), .second, .val (.long j9), .second] [(.long j7), (.ref a0_)]))
  have E37 := (E31.wr W34)
  have F38 : Fld Z _ a0_ "com/example/tunegrid/tunegrid/TuningPolicy$Interval" "puts" "J" (.long (0 : Int64)) := D0 (Or.inr (hw _ (List.mem_of_getElem? (i := 30) rfl))) (ty := .long) (by decide)
  have F39 := ((((((F38.other W4 (Or.inr (slot_ne (Or.inr (hw _ (List.mem_of_getElem? (i := 30) rfl))) (Or.inr (hw _ (List.mem_of_getElem? (i := 18) rfl))) (by decide) (t := .long) (t' := (.object "com/example/tunegrid/tunegrid/Replication$Kind")) (by decide) (by decide)))).other W10 (Or.inr (slot_ne (Or.inr (hw _ (List.mem_of_getElem? (i := 30) rfl))) (Or.inr (hw _ (List.mem_of_getElem? (i := 20) rfl))) (by decide) (t := .long) (t' := .int) (by decide) (by decide)))).other W16 (Or.inr (slot_ne (Or.inr (hw _ (List.mem_of_getElem? (i := 30) rfl))) (Or.inr (hw _ (List.mem_of_getElem? (i := 22) rfl))) (by decide) (t := .long) (t' := .double) (by decide) (by decide)))).other W22 (Or.inr (slot_ne (Or.inr (hw _ (List.mem_of_getElem? (i := 30) rfl))) (Or.inr (hw _ (List.mem_of_getElem? (i := 24) rfl))) (by decide) (t := .long) (t' := .long) (by decide) (by decide)))).other W28 (Or.inr (slot_ne (Or.inr (hw _ (List.mem_of_getElem? (i := 30) rfl))) (Or.inr (hw _ (List.mem_of_getElem? (i := 26) rfl))) (by decide) (t := .long) (t' := .long) (by decide) (by decide)))).other W34 (Or.inr (slot_ne (Or.inr (hw _ (List.mem_of_getElem? (i := 30) rfl))) (Or.inr (hw _ (List.mem_of_getElem? (i := 28) rfl))) (by decide) (t := .long) (t' := .long) (by decide) (by decide))))
  obtain ⟨T40, h40, X40, e40, W40, st40⟩ := putF X34 hx hZ hown (host := "") (Or.inl (hw _ (List.mem_of_getElem? (i := 29) rfl))) Via.refl e34 F39 E37 (Or.inr ⟨(hw _ (List.mem_of_getElem? (i := 30) rfl)), rfl, hnm⟩) (hw _ (List.mem_of_getElem? (i := 4) rfl)) (ty := .long) (by decide) rfl rfl (g := (mkF m 40 #[.val (.ref a0_), .val (.ref o1), .val (.int i2), .val (.double d3), .second, .val (.long j4), .second, .val (.long j5), .second, .val (.long j6), .second, .val (.long j7), .second, .val (.long j8), .second, .val (.long j9), .second] [(.long j7), (.ref a0_)])) rfl rfl (hb hby own_d1_40)
  refine own_st st40 ?_
  have Fw40 := F39.same W40
  have N40 := Fr.snoc X40 N34 G0
  have K41 : Keep h0 h40 [a0_] := K35.wr W40 (Or.inl (List.mem_of_getElem? (i := 0) rfl))
  show own_Run p e below s _ _ _ (T40.setTop (mkF m 43 #[.val (.ref a0_), .val (.ref o1), .val (.int i2), .val (.double d3), .second, .val (.long j4), .second, .val (.long j5), .second, .val (.long j6), .second, .val (.long j7), .second, .val (.long j8), .second, .val (.long j9), .second] []))
  refine own_st (fun t k => XS.aloadN X40.here hx rfl (hb hby own_d1_43) rfl rfl k) ?_
  show own_Run p e below s _ _ _ (T40.setTop (mkF m 44 #[.val (.ref a0_), .val (.ref o1), .val (.int i2), .val (.double d3), .second, .val (.long j4), .second, .val (.long j5), .second, .val (.long j6), .second, .val (.long j7), .second, .val (.long j8), .second, .val (.long j9), .second] [(.ref a0_)]))
  refine own_st (fun t k => XS.lload X40.here hx rfl (hb hby own_d1_44) rfl k) ?_
  show own_Run p e below s _ _ _ (T40.setTop (mkF m 46 #[.val (.ref a0_), .val (.ref o1), .val (.int i2), .val (.double d3), .second, .val (.long j4), .second, .val (.long j5), .second, .val (.long j6), .second, .val (.long j7), .second, .val (.long j8), .second, .val (.long j9), .second] [(.long j8), (.ref a0_)]))
  have E43 := (E37.wr W40)
  have F44 : Fld Z _ a0_ "com/example/tunegrid/tunegrid/TuningPolicy$Interval" "claims" "J" (.long (0 : Int64)) := D0 (Or.inr (hw _ (List.mem_of_getElem? (i := 32) rfl))) (ty := .long) (by decide)
  have F45 := (((((((F44.other W4 (Or.inr (slot_ne (Or.inr (hw _ (List.mem_of_getElem? (i := 32) rfl))) (Or.inr (hw _ (List.mem_of_getElem? (i := 18) rfl))) (by decide) (t := .long) (t' := (.object "com/example/tunegrid/tunegrid/Replication$Kind")) (by decide) (by decide)))).other W10 (Or.inr (slot_ne (Or.inr (hw _ (List.mem_of_getElem? (i := 32) rfl))) (Or.inr (hw _ (List.mem_of_getElem? (i := 20) rfl))) (by decide) (t := .long) (t' := .int) (by decide) (by decide)))).other W16 (Or.inr (slot_ne (Or.inr (hw _ (List.mem_of_getElem? (i := 32) rfl))) (Or.inr (hw _ (List.mem_of_getElem? (i := 22) rfl))) (by decide) (t := .long) (t' := .double) (by decide) (by decide)))).other W22 (Or.inr (slot_ne (Or.inr (hw _ (List.mem_of_getElem? (i := 32) rfl))) (Or.inr (hw _ (List.mem_of_getElem? (i := 24) rfl))) (by decide) (t := .long) (t' := .long) (by decide) (by decide)))).other W28 (Or.inr (slot_ne (Or.inr (hw _ (List.mem_of_getElem? (i := 32) rfl))) (Or.inr (hw _ (List.mem_of_getElem? (i := 26) rfl))) (by decide) (t := .long) (t' := .long) (by decide) (by decide)))).other W34 (Or.inr (slot_ne (Or.inr (hw _ (List.mem_of_getElem? (i := 32) rfl))) (Or.inr (hw _ (List.mem_of_getElem? (i := 28) rfl))) (by decide) (t := .long) (t' := .long) (by decide) (by decide)))).other W40 (Or.inr (slot_ne (Or.inr (hw _ (List.mem_of_getElem? (i := 32) rfl))) (Or.inr (hw _ (List.mem_of_getElem? (i := 30) rfl))) (by decide) (t := .long) (t' := .long) (by decide) (by decide))))
  obtain ⟨T46, h46, X46, e46, W46, st46⟩ := putF X40 hx hZ hown (host := "") (Or.inl (hw _ (List.mem_of_getElem? (i := 31) rfl))) Via.refl e40 F45 E43 (Or.inr ⟨(hw _ (List.mem_of_getElem? (i := 32) rfl)), rfl, hnm⟩) (hw _ (List.mem_of_getElem? (i := 4) rfl)) (ty := .long) (by decide) rfl rfl (g := (mkF m 46 #[.val (.ref a0_), .val (.ref o1), .val (.int i2), .val (.double d3), .second, .val (.long j4), .second, .val (.long j5), .second, .val (.long j6), .second, .val (.long j7), .second, .val (.long j8), .second, .val (.long j9), .second] [(.long j8), (.ref a0_)])) rfl rfl (hb hby own_d1_46)
  refine own_st st46 ?_
  have Fw46 := F45.same W46
  have N46 := Fr.snoc X46 N40 G0
  have K47 : Keep h0 h46 [a0_] := K41.wr W46 (Or.inl (List.mem_of_getElem? (i := 0) rfl))
  show own_Run p e below s _ _ _ (T46.setTop (mkF m 49 #[.val (.ref a0_), .val (.ref o1), .val (.int i2), .val (.double d3), .second, .val (.long j4), .second, .val (.long j5), .second, .val (.long j6), .second, .val (.long j7), .second, .val (.long j8), .second, .val (.long j9), .second] []))
  refine own_st (fun t k => XS.aloadN X46.here hx rfl (hb hby own_d1_49) rfl rfl k) ?_
  show own_Run p e below s _ _ _ (T46.setTop (mkF m 50 #[.val (.ref a0_), .val (.ref o1), .val (.int i2), .val (.double d3), .second, .val (.long j4), .second, .val (.long j5), .second, .val (.long j6), .second, .val (.long j7), .second, .val (.long j8), .second, .val (.long j9), .second] [(.ref a0_)]))
  refine own_st (fun t k => XS.lload X46.here hx rfl (hb hby own_d1_50) rfl k) ?_
  show own_Run p e below s _ _ _ (T46.setTop (mkF m 52 #[.val (.ref a0_), .val (.ref o1), .val (.int i2), .val (.double d3), .second, .val (.long j4), .second, .val (.long j5), .second, .val (.long j6), .second, .val (.long j7), .second, .val (.long j8), .second, .val (.long j9), .second] [(.long j9), (.ref a0_)]))
  have E49 := (E43.wr W46)
  have F50 : Fld Z _ a0_ "com/example/tunegrid/tunegrid/TuningPolicy$Interval" "contended" "J" (.long (0 : Int64)) := D0 (Or.inr (hw _ (List.mem_of_getElem? (i := 34) rfl))) (ty := .long) (by decide)
  have F51 := ((((((((F50.other W4 (Or.inr (slot_ne (Or.inr (hw _ (List.mem_of_getElem? (i := 34) rfl))) (Or.inr (hw _ (List.mem_of_getElem? (i := 18) rfl))) (by decide) (t := .long) (t' := (.object "com/example/tunegrid/tunegrid/Replication$Kind")) (by decide) (by decide)))).other W10 (Or.inr (slot_ne (Or.inr (hw _ (List.mem_of_getElem? (i := 34) rfl))) (Or.inr (hw _ (List.mem_of_getElem? (i := 20) rfl))) (by decide) (t := .long) (t' := .int) (by decide) (by decide)))).other W16 (Or.inr (slot_ne (Or.inr (hw _ (List.mem_of_getElem? (i := 34) rfl))) (Or.inr (hw _ (List.mem_of_getElem? (i := 22) rfl))) (by decide) (t := .long) (t' := .double) (by decide) (by decide)))).other W22 (Or.inr (slot_ne (Or.inr (hw _ (List.mem_of_getElem? (i := 34) rfl))) (Or.inr (hw _ (List.mem_of_getElem? (i := 24) rfl))) (by decide) (t := .long) (t' := .long) (by decide) (by decide)))).other W28 (Or.inr (slot_ne (Or.inr (hw _ (List.mem_of_getElem? (i := 34) rfl))) (Or.inr (hw _ (List.mem_of_getElem? (i := 26) rfl))) (by decide) (t := .long) (t' := .long) (by decide) (by decide)))).other W34 (Or.inr (slot_ne (Or.inr (hw _ (List.mem_of_getElem? (i := 34) rfl))) (Or.inr (hw _ (List.mem_of_getElem? (i := 28) rfl))) (by decide) (t := .long) (t' := .long) (by decide) (by decide)))).other W40 (Or.inr (slot_ne (Or.inr (hw _ (List.mem_of_getElem? (i := 34) rfl))) (Or.inr (hw _ (List.mem_of_getElem? (i := 30) rfl))) (by decide) (t := .long) (t' := .long) (by decide) (by decide)))).other W46 (Or.inr (slot_ne (Or.inr (hw _ (List.mem_of_getElem? (i := 34) rfl))) (Or.inr (hw _ (List.mem_of_getElem? (i := 32) rfl))) (by decide) (t := .long) (t' := .long) (by decide) (by decide))))
  obtain ⟨T52, h52, X52, e52, W52, st52⟩ := putF X46 hx hZ hown (host := "") (Or.inl (hw _ (List.mem_of_getElem? (i := 33) rfl))) Via.refl e46 F51 E49 (Or.inr ⟨(hw _ (List.mem_of_getElem? (i := 34) rfl)), rfl, hnm⟩) (hw _ (List.mem_of_getElem? (i := 4) rfl)) (ty := .long) (by decide) rfl rfl (g := (mkF m 52 #[.val (.ref a0_), .val (.ref o1), .val (.int i2), .val (.double d3), .second, .val (.long j4), .second, .val (.long j5), .second, .val (.long j6), .second, .val (.long j7), .second, .val (.long j8), .second, .val (.long j9), .second] [(.long j9), (.ref a0_)])) rfl rfl (hb hby own_d1_52)
  refine own_st st52 ?_
  have Fw52 := F51.same W52
  have N52 := Fr.snoc X52 N46 G0
  have K53 : Keep h0 h52 [a0_] := K47.wr W52 (Or.inl (List.mem_of_getElem? (i := 0) rfl))
  show own_Run p e below s _ _ _ (T52.setTop (mkF m 55 #[.val (.ref a0_), .val (.ref o1), .val (.int i2), .val (.double d3), .second, .val (.long j4), .second, .val (.long j5), .second, .val (.long j6), .second, .val (.long j7), .second, .val (.long j8), .second, .val (.long j9), .second] []))
  have hQe := e52
  subst hQe
  have E55 := (E49.wr W52)
  have F56 := ((((((Fw16.other W22 (Or.inr (slot_ne (Or.inr (hw _ (List.mem_of_getElem? (i := 22) rfl))) (Or.inr (hw _ (List.mem_of_getElem? (i := 24) rfl))) (by decide) (t := .double) (t' := .long) (by decide) (by decide)))).other W28 (Or.inr (slot_ne (Or.inr (hw _ (List.mem_of_getElem? (i := 22) rfl))) (Or.inr (hw _ (List.mem_of_getElem? (i := 26) rfl))) (by decide) (t := .double) (t' := .long) (by decide) (by decide)))).other W34 (Or.inr (slot_ne (Or.inr (hw _ (List.mem_of_getElem? (i := 22) rfl))) (Or.inr (hw _ (List.mem_of_getElem? (i := 28) rfl))) (by decide) (t := .double) (t' := .long) (by decide) (by decide)))).other W40 (Or.inr (slot_ne (Or.inr (hw _ (List.mem_of_getElem? (i := 22) rfl))) (Or.inr (hw _ (List.mem_of_getElem? (i := 30) rfl))) (by decide) (t := .double) (t' := .long) (by decide) (by decide)))).other W46 (Or.inr (slot_ne (Or.inr (hw _ (List.mem_of_getElem? (i := 22) rfl))) (Or.inr (hw _ (List.mem_of_getElem? (i := 32) rfl))) (by decide) (t := .double) (t' := .long) (by decide) (by decide)))).other W52 (Or.inr (slot_ne (Or.inr (hw _ (List.mem_of_getElem? (i := 22) rfl))) (Or.inr (hw _ (List.mem_of_getElem? (i := 34) rfl))) (by decide) (t := .double) (t' := .long) (by decide) (by decide))))
  have F57 := (((((Fw22.other W28 (Or.inr (slot_ne (Or.inr (hw _ (List.mem_of_getElem? (i := 24) rfl))) (Or.inr (hw _ (List.mem_of_getElem? (i := 26) rfl))) (by decide) (t := .long) (t' := .long) (by decide) (by decide)))).other W34 (Or.inr (slot_ne (Or.inr (hw _ (List.mem_of_getElem? (i := 24) rfl))) (Or.inr (hw _ (List.mem_of_getElem? (i := 28) rfl))) (by decide) (t := .long) (t' := .long) (by decide) (by decide)))).other W40 (Or.inr (slot_ne (Or.inr (hw _ (List.mem_of_getElem? (i := 24) rfl))) (Or.inr (hw _ (List.mem_of_getElem? (i := 30) rfl))) (by decide) (t := .long) (t' := .long) (by decide) (by decide)))).other W46 (Or.inr (slot_ne (Or.inr (hw _ (List.mem_of_getElem? (i := 24) rfl))) (Or.inr (hw _ (List.mem_of_getElem? (i := 32) rfl))) (by decide) (t := .long) (t' := .long) (by decide) (by decide)))).other W52 (Or.inr (slot_ne (Or.inr (hw _ (List.mem_of_getElem? (i := 24) rfl))) (Or.inr (hw _ (List.mem_of_getElem? (i := 34) rfl))) (by decide) (t := .long) (t' := .long) (by decide) (by decide))))
  exact own_retV X52 hx hlk hret (hb hby own_d1_55) (by decide) (by decide) ⟨rfl, N52, K53, E55, F56, F57⟩
theorem own_d4_0 : decode prog_87_method_7_code 0 = .ok (.aload_n 0, 1) := by decide +kernel
theorem own_d4_1 : decode prog_87_method_7_code 1 = .ok (.getfield 19, 3) := by decide +kernel
theorem own_d4_4 : decode prog_87_method_7_code 4 = .ok (.dconst 0, 1) := by decide +kernel
theorem own_d4_5 : decode prog_87_method_7_code 5 = .ok (.dcmp .l, 1) := by decide +kernel
theorem own_d4_6 : decode prog_87_method_7_code 6 = .ok (.ifCond .le 18, 3) := by decide +kernel
theorem own_d4_9 : decode prog_87_method_7_code 9 = .ok (.aload_n 0, 1) := by decide +kernel
theorem own_d4_10 : decode prog_87_method_7_code 10 = .ok (.getfield 23, 3) := by decide +kernel
theorem own_d4_13 : decode prog_87_method_7_code 13 = .ok (.ldc2_w 125, 3) := by decide +kernel
theorem own_d4_16 : decode prog_87_method_7_code 16 = .ok (.lcmp, 1) := by decide +kernel
theorem own_d4_17 : decode prog_87_method_7_code 17 = .ok (.ifCond .lt 7, 3) := by decide +kernel
theorem own_d4_24 : decode prog_87_method_7_code 24 = .ok (.iconst 0, 1) := by decide +kernel
theorem own_d4_25 : decode prog_87_method_7_code 25 = .ok (.ireturn, 1) := by decide +kernel
theorem own_d4_20 : decode prog_87_method_7_code 20 = .ok (.iconst 1, 1) := by decide +kernel
theorem own_d4_21 : decode prog_87_method_7_code 21 = .ok (.goto 4, 3) := by decide +kernel
set_option maxHeartbeats 4000000 in
theorem own_ef4 (m : MethodId) (x0 : Addr) : entryFrame m #[(.ref x0)] 1 = mkF m 0 #[.val (.ref x0)] [] := by first | (simp [entryFrame, mkF, argsToLocals, Value.category]; done) | rfl
def own_Q4 (Z : State) (a0 : Array Value) (o0 : Addr) (i1 : Int32) (j2 : Int64) (h0 : Heap) (n0 : Nat) (v : Option Value) (h : Heap) (L : List Loc) : Prop := v = some (.int (if ((0 : Int32) < i1 ∧ ¬ (j2 < (100 : Int64))) then 1 else 0 : Int32)) ∧ Fr n0 L ∧ h = h0
set_option maxRecDepth 65536 in
set_option maxHeartbeats 40000000 in
theorem own_rm4 (l : Launch) (Z : State) (a0 : Array Value) (hw : ∀ d ∈ tables_1, d.before a0 Z = true) (ws : List Jvm.Cond) (o0 : Addr) (i1 : Int32) (j2 : Int64) (h0 : Heap) (n0 : Nat) (Z0 : n0 ≤ h0.size) (F_s : Fld Z h0 o0 "com/example/tunegrid/tunegrid/TuningPolicy$Interval" "seconds" "D" (.double (FP.i2d i1))) (F_c : Fld Z h0 o0 "com/example/tunegrid/tunegrid/TuningPolicy$Interval" "commits" "J" (.long j2)) :
    MetFree l (⟨"com/example/tunegrid/tunegrid/TuningPolicy$Interval", "measures", "()Z"⟩ : MethodName) (head1 (Jvm.Cond.code (⟨"com/example/tunegrid/tunegrid/TuningPolicy$Interval", "measures", "()Z"⟩ : MethodName) prog_87_method_7_code 1 (some .boolean) :: ws) ({ frames := 0, cells := 0, slots := 0, locals := 0 } : Room)) (fun a U => a = #[(.ref o0)] ∧ Z.Warmed39 U.vm ∧ U.heap = h0) (fun _ _ _ _ _ => True) (fun _ U o U' => ∃ v L, o = .returned v ∧ own_Q4 Z a0 o0 i1 j2 h0 n0 v U'.heap L ∧ FrameEnd U o U' L ({ frames := 0, cells := 0, slots := 0, locals := 0 } : Room).cells ({ frames := 0, cells := 0, slots := 0, locals := 0 } : Room).slots) := by
  refine own_body (Q := fun v h L => own_Q4 Z a0 o0 i1 j2 h0 n0 v h L) (plainFor_of_name own_pn2) ?_
  intro p e s m below meth c s₁ hx hby hml hZ hown hnm hret hlk X0 e0
  replace hml : c.maxLocals = 1 := hml
  have N0 := Fr.nil n0
  have K0 : Keep h0 h0 [] := Keep.refl _ _
  refine own_st (fun t k => castTop (own_ef4 m o0) k) ?_
  show own_Run p e below s _ _ _ (s₁.setTop (mkF m 0 #[.val (.ref o0)] []))
  refine own_st (fun t k => XS.aloadN X0.here hx rfl (hb hby own_d4_0) rfl rfl k) ?_
  show own_Run p e below s _ _ _ (s₁.setTop (mkF m 1 #[.val (.ref o0)] [(.ref o0)]))
  obtain ⟨T58, X58, e58, st58⟩ := getF X0 hx hZ hown (host := "") (Or.inl (hw _ (List.mem_of_getElem? (i := 21) rfl))) Via.refl e0 F_s (g := (mkF m 1 #[.val (.ref o0)] [(.ref o0)])) rfl rfl (hb hby own_d4_1)
  refine own_st st58 ?_
  show own_Run p e below s _ _ _ (T58.setTop (mkF m 4 #[.val (.ref o0)] [(.double (FP.i2d i1))]))
  refine own_st (fun t k => XS.dconst0 X58.here hx rfl (hb hby own_d4_4) (v := 0) rfl k) ?_
  show own_Run p e below s _ _ _ (T58.setTop (mkF m 5 #[.val (.ref o0)] [(.double (0 : UInt64)), (.double (FP.i2d i1))]))
  refine own_st (fun t k => XS.dcmpS X58.here hx rfl (hb hby own_d4_5) rfl (v := (cmpValue (FP.dcmp (FP.i2d i1) (0 : UInt64)) .l)) (rfl) k) ?_
  show own_Run p e below s _ _ _ (T58.setTop (mkF m 6 #[.val (.ref o0)] [(.int (cmpValue (FP.dcmp (FP.i2d i1) (0 : UInt64)) .l))]))
  by_cases hA : (0 : Int32) < i1
  · skip
    refine own_st (fun t k => XS.ifNo X58.here hx rfl (hb hby own_d4_6) rfl ((if0 _ _).trans (tlt ((own_dcmp0_gt i1 _).mpr hA : (0 : Int32) < (cmpValue (FP.dcmp (FP.i2d i1) (0 : UInt64)) .l))).2.2.2) k) ?_
    show own_Run p e below s _ _ _ (T58.setTop (mkF m 9 #[.val (.ref o0)] []))
    refine own_st (fun t k => XS.aloadN X58.here hx rfl (hb hby own_d4_9) rfl rfl k) ?_
    show own_Run p e below s _ _ _ (T58.setTop (mkF m 10 #[.val (.ref o0)] [(.ref o0)]))
    obtain ⟨T59, X59, e59, st59⟩ := getF X58 hx hZ hown (host := "") (Or.inl (hw _ (List.mem_of_getElem? (i := 23) rfl))) Via.refl e58 F_c (g := (mkF m 10 #[.val (.ref o0)] [(.ref o0)])) rfl rfl (hb hby own_d4_10)
    refine own_st st59 ?_
    show own_Run p e below s _ _ _ (T59.setTop (mkF m 13 #[.val (.ref o0)] [(.long j2)]))
    refine own_st (X59.ldc2Long hx hown (mvT hZ (hw _ (List.mem_of_getElem? (i := 41) rfl))) (g := (mkF m 13 #[.val (.ref o0)] [(.long j2)])) rfl (hb hby own_d4_13)) ?_
    show own_Run p e below s _ _ _ (T59.setTop (mkF m 16 #[.val (.ref o0)] [(.long (100 : Int64)), (.long j2)]))
    refine own_st (fun t k => XS.lcmp X59.here hx rfl (hb hby own_d4_16) rfl k) ?_
    show own_Run p e below s _ _ _ (T59.setTop (mkF m 17 #[.val (.ref o0)] [(.int (lcmpW j2 (100 : Int64)))]))
    by_cases hB : j2 < (100 : Int64)
    · skip
      refine own_st (fun t k => XS.ifYes X59.here hx rfl (pc0 := 17) (pc' := 24) rfl (hb hby own_d4_17) rfl ((if0 _ _).trans (tlt ((lw_lt _ _).mpr hB : (lcmpW j2 (100 : Int64)) < (0 : Int32))).1) (by decide) (by decide) k) ?_
      show own_Run p e below s _ _ _ (T59.setTop (mkF m 24 #[.val (.ref o0)] []))
      refine own_st (fun t k => XS.iconst X59.here hx rfl (hb hby own_d4_24) k) ?_
      show own_Run p e below s _ _ _ (T59.setTop (mkF m 25 #[.val (.ref o0)] [(.int (0 : Int32))]))
      exact own_ret X59 hx hlk (t := .boolean) hret rfl (Or.inl ⟨rfl, by simp, _, rfl⟩) (hb hby own_d4_25) (by decide) (by decide) ⟨by first | simp [hA, hB] | simp [hA], N0, e59⟩
    · skip
      refine own_st (fun t k => XS.ifNo X59.here hx rfl (hb hby own_d4_17) rfl ((if0 _ _).trans (flt (fun q => hB ((lw_lt _ _).mp q) : ¬ ((lcmpW j2 (100 : Int64)) < (0 : Int32)))).1) k) ?_
      show own_Run p e below s _ _ _ (T59.setTop (mkF m 20 #[.val (.ref o0)] []))
      refine own_st (fun t k => XS.iconst X59.here hx rfl (hb hby own_d4_20) k) ?_
      show own_Run p e below s _ _ _ (T59.setTop (mkF m 21 #[.val (.ref o0)] [(.int (1 : Int32))]))
      refine own_st (fun t k => XS.goto X59.here hx rfl (pc0 := 21) (pc' := 25) rfl (hb hby own_d4_21) (by decide) (by decide) k) ?_
      show own_Run p e below s _ _ _ (T59.setTop (mkF m 25 #[.val (.ref o0)] [(.int (1 : Int32))]))
      exact own_ret X59 hx hlk (t := .boolean) hret rfl (Or.inl ⟨rfl, by simp, _, rfl⟩) (hb hby own_d4_25) (by decide) (by decide) ⟨by first | simp [hA, hB] | simp [hA], N0, e59⟩
  · skip
    refine own_st (fun t k => XS.ifYes X58.here hx rfl (pc0 := 6) (pc' := 24) rfl (hb hby own_d4_6) rfl ((if0 _ _).trans (flt (fun q => hA ((own_dcmp0_gt i1 _).mp q) : ¬ ((0 : Int32) < (cmpValue (FP.dcmp (FP.i2d i1) (0 : UInt64)) .l)))).2.2.2) (by decide) (by decide) k) ?_
    show own_Run p e below s _ _ _ (T58.setTop (mkF m 24 #[.val (.ref o0)] []))
    refine own_st (fun t k => XS.iconst X58.here hx rfl (hb hby own_d4_24) k) ?_
    show own_Run p e below s _ _ _ (T58.setTop (mkF m 25 #[.val (.ref o0)] [(.int (0 : Int32))]))
    exact own_ret X58 hx hlk (t := .boolean) hret rfl (Or.inl ⟨rfl, by simp, _, rfl⟩) (hb hby own_d4_25) (by decide) (by decide) ⟨by first | simp [hA, hB] | simp [hA], N0, e58⟩
theorem own_pd3 : parseMethodDescriptor "(Lcom/example/tunegrid/tunegrid/Replication$Kind;IDJJJJJJ)V" = some ⟨[(.object "com/example/tunegrid/tunegrid/Replication$Kind"), .int, .double, .long, .long, .long, .long, .long, .long], none⟩ := by decide +kernel
theorem own_pd4 : parseMethodDescriptor "()Z" = some ⟨[], some .boolean⟩ := by decide +kernel
set_option maxHeartbeats 4000000 in
theorem own_ef0 (m : MethodId) (x0 : Int32) (x1 : Int64) (x2 : Int32) (x3 : Int32) (x4 : Int64) (x5 : Int64) : entryFrame m #[(.int x0), (.long x1), (.int x2), (.int x3), (.long x4), (.long x5)] maxLocals = mkF m 0 #[.val (.int x0), .val (.long x1), .second, .val (.int x2), .val (.int x3), .val (.long x4), .second, .val (.long x5), .second, .unset, .unset, .unset, .unset, .unset] [] := by first | (simp [entryFrame, mkF, argsToLocals, Value.category, maxLocals]; done) | rfl
theorem own_pn5 : plainName "com/example/tunegrid/tunegrid/IntervalMeasuresPinLaw" = true := by first | (simp [plainName, overriddenIn]; done) | decide +kernel
def own_Q0 (Z : State) (a0 : Array Value) (i0 : Int32) (j1 : Int64) (i2 : Int32) (i3 : Int32) (j4 : Int64) (j5 : Int64) (t_TWO_PHASE_COMMIT : Addr) (t_PRIMARY_BACKUP : Addr) (h0 : Heap) (n0 : Nat) (v : Option Value) (h : Heap) (L : List Loc) : Prop := v = some (.int 1) ∧ Fr n0 L
set_option maxRecDepth 65536 in
set_option maxHeartbeats 40000000 in
theorem own_rm0 (l : Launch) (Z : State) (a0 : Array Value) (hw : ∀ d ∈ tables_1, d.before a0 Z = true) (ws : List Jvm.Cond) (i0 : Int32) (j1 : Int64) (i2 : Int32) (i3 : Int32) (j4 : Int64) (j5 : Int64) (t_TWO_PHASE_COMMIT : Addr) (t_PRIMARY_BACKUP : Addr) (h0 : Heap) (n0 : Nat) (Z0 : n0 ≤ h0.size) (O0 : Old Z n0 h0) (S_TWO_PHASE_COMMIT : Sta Z Z.heap "com/example/tunegrid/tunegrid/Replication$Kind" "TWO_PHASE_COMMIT" "Lcom/example/tunegrid/tunegrid/Replication$Kind;" (.ref t_TWO_PHASE_COMMIT)) (S_PRIMARY_BACKUP : Sta Z Z.heap "com/example/tunegrid/tunegrid/Replication$Kind" "PRIMARY_BACKUP" "Lcom/example/tunegrid/tunegrid/Replication$Kind;" (.ref t_PRIMARY_BACKUP)) :
    MetFree l x (head1 (Jvm.Cond.code x code maxLocals ret :: ws) room_1) (fun a U => a = #[(.int i0), (.long j1), (.int i2), (.int i3), (.long j4), (.long j5)] ∧ Z.Warmed39 U.vm ∧ U.heap = h0) (fun _ _ _ _ _ => True) (fun _ U o U' => ∃ v L, o = .returned v ∧ own_Q0 Z a0 i0 j1 i2 i3 j4 j5 t_TWO_PHASE_COMMIT t_PRIMARY_BACKUP h0 n0 v U'.heap L ∧ FrameEnd U o U' L room_1.cells room_1.slots) := by
  refine own_body (Q := fun v h L => own_Q0 Z a0 i0 j1 i2 i3 j4 j5 t_TWO_PHASE_COMMIT t_PRIMARY_BACKUP h0 n0 v h L) (plainFor_of_name own_pn5) ?_
  intro p e s m below meth c s₁ hx hby hml hZ hown hnm hret hlk X0 e0
  replace hml : c.maxLocals = 14 := hml
  replace hown : s.vm.findClass "com/example/tunegrid/tunegrid/IntervalMeasuresPinLaw" = some m.cls := hown
  have N0 := Fr.nil n0
  have K0 : Keep h0 h0 [] := Keep.refl _ _
  refine own_st (fun t k => castTop (own_ef0 m i0 j1 i2 i3 j4 j5) k) ?_
  show own_Run p e below s _ _ _ (s₁.setTop (mkF m 0 #[.val (.int i0), .val (.long j1), .second, .val (.int i2), .val (.int i3), .val (.long j4), .second, .val (.long j5), .second, .unset, .unset, .unset, .unset, .unset] []))
  refine own_st (fun t k => XS.iloadN X0.here hx rfl (hb hby at_0) rfl k) ?_
  show own_Run p e below s _ _ _ (s₁.setTop (mkF m 1 #[.val (.int i0), .val (.long j1), .second, .val (.int i2), .val (.int i3), .val (.long j4), .second, .val (.long j5), .second, .unset, .unset, .unset, .unset, .unset] [(.int i2)]))
  refine own_st (fun t k => XS.iconst X0.here hx rfl (hb hby at_1) k) ?_
  show own_Run p e below s _ _ _ (s₁.setTop (mkF m 2 #[.val (.int i0), .val (.long j1), .second, .val (.int i2), .val (.int i3), .val (.long j4), .second, .val (.long j5), .second, .unset, .unset, .unset, .unset, .unset] [(.int (1 : Int32)), (.int i2)]))
  refine own_st (fun t k => XS.iand X0.here hx rfl (hb hby at_2) rfl k) ?_
  show own_Run p e below s _ _ _ (s₁.setTop (mkF m 3 #[.val (.int i0), .val (.long j1), .second, .val (.int i2), .val (.int i3), .val (.long j4), .second, .val (.long j5), .second, .unset, .unset, .unset, .unset, .unset] [(.int (i2 &&& (1 : Int32)))]))
  by_cases hc60 : (i2 &&& (1 : Int32)) = (0 : Int32)
  · skip
    refine own_st (fun t k => XS.ifYes X0.here hx rfl (pc0 := 3) (pc' := 12) rfl (hb hby at_3) rfl ((if0 _ _).trans (teq (hc60 : (i2 &&& (1 : Int32)) = (0 : Int32))).1) (by decide) (by decide) k) ?_
    show own_Run p e below s _ _ _ (s₁.setTop (mkF m 12 #[.val (.int i0), .val (.long j1), .second, .val (.int i2), .val (.int i3), .val (.long j4), .second, .val (.long j5), .second, .unset, .unset, .unset, .unset, .unset] []))
    obtain ⟨T61, X61, e61, st61⟩ := getS2 X0 hx hZ hown (host := "") (Or.inl (hw _ (List.mem_of_getElem? (i := 42) rfl))) Via.refl e0 (S_PRIMARY_BACKUP.ext O0.2) (g := (mkF m 12 #[.val (.int i0), .val (.long j1), .second, .val (.int i2), .val (.int i3), .val (.long j4), .second, .val (.long j5), .second, .unset, .unset, .unset, .unset, .unset] [])) rfl (hb hby at_12)
    refine own_st st61 ?_
    show own_Run p e below s _ _ _ (T61.setTop (mkF m 15 #[.val (.int i0), .val (.long j1), .second, .val (.int i2), .val (.int i3), .val (.long j4), .second, .val (.long j5), .second, .unset, .unset, .unset, .unset, .unset] [(.ref t_PRIMARY_BACKUP)]))
    refine own_st (fun t k => XS.astore X61.here hx rfl (hb hby at_15) rfl rfl (l' := #[.val (.int i0), .val (.long j1), .second, .val (.int i2), .val (.int i3), .val (.long j4), .second, .val (.long j5), .second, .val (.ref t_PRIMARY_BACKUP), .unset, .unset, .unset, .unset]) rfl k) ?_
    show own_Run p e below s _ _ _ (T61.setTop (mkF m 17 #[.val (.int i0), .val (.long j1), .second, .val (.int i2), .val (.int i3), .val (.long j4), .second, .val (.long j5), .second, .val (.ref t_PRIMARY_BACKUP), .unset, .unset, .unset, .unset] []))
    refine own_st (fun t k => XS.iloadN X61.here hx rfl (hb hby at_17) rfl k) ?_
    show own_Run p e below s _ _ _ (T61.setTop (mkF m 18 #[.val (.int i0), .val (.long j1), .second, .val (.int i2), .val (.int i3), .val (.long j4), .second, .val (.long j5), .second, .val (.ref t_PRIMARY_BACKUP), .unset, .unset, .unset, .unset] [(.int i0)]))
    refine own_st (fun t k => XS.i2dS X61.here hx rfl (hb hby at_18) rfl (v := (FP.i2d i0)) (rfl) k) ?_
    show own_Run p e below s _ _ _ (T61.setTop (mkF m 19 #[.val (.int i0), .val (.long j1), .second, .val (.int i2), .val (.int i3), .val (.long j4), .second, .val (.long j5), .second, .val (.ref t_PRIMARY_BACKUP), .unset, .unset, .unset, .unset] [(.double (FP.i2d i0))]))
    refine own_st (fun t k => XS.dstore X61.here hx rfl (hb hby at_19) rfl (l' := #[.val (.int i0), .val (.long j1), .second, .val (.int i2), .val (.int i3), .val (.long j4), .second, .val (.long j5), .second, .val (.ref t_PRIMARY_BACKUP), .val (.double (FP.i2d i0)), .second, .unset, .unset]) rfl k) ?_
    show own_Run p e below s _ _ _ (T61.setTop (mkF m 21 #[.val (.int i0), .val (.long j1), .second, .val (.int i2), .val (.int i3), .val (.long j4), .second, .val (.long j5), .second, .val (.ref t_PRIMARY_BACKUP), .val (.double (FP.i2d i0)), .second, .unset, .unset] []))
    obtain ⟨T62, h62, X62, e62, E62, A62, D62, -, st62⟩ := newO X61 hx hZ hown (hw _ (List.mem_of_getElem? (i := 3) rfl)) (hw _ (List.mem_of_getElem? (i := 4) rfl)) (hw _ (List.mem_of_getElem? (i := 5) rfl)) e61 (g := (mkF m 21 #[.val (.int i0), .val (.long j1), .second, .val (.int i2), .val (.int i3), .val (.long j4), .second, .val (.long j5), .second, .val (.ref t_PRIMARY_BACKUP), .val (.double (FP.i2d i0)), .second, .unset, .unset] [])) rfl (hb hby at_21) (by decide) (by decide)
    obtain ⟨b62, g62⟩ : ∃ z, z = h0.size := ⟨_, rfl⟩
    rw [← g62] at A62 D62 st62
    have sz63 : h0.size ≤ b62 := Nat.le_trans K0.1 (Nat.le_of_eq g62.symm)
    have ge64 : n0 ≤ b62 := Nat.le_trans Z0 sz63
    refine own_st st62 ?_
    have K65 : Keep h0 h62 [] := K0.ext E62
    have O66 := O0.ext E62
    show own_Run p e below s _ _ _ (T62.setTop (mkF m 24 #[.val (.int i0), .val (.long j1), .second, .val (.int i2), .val (.int i3), .val (.long j4), .second, .val (.long j5), .second, .val (.ref t_PRIMARY_BACKUP), .val (.double (FP.i2d i0)), .second, .unset, .unset] [(.ref b62)]))
    refine own_st (fun t k => XS.dup X62.here hx rfl (hb hby at_24) rfl rfl k) ?_
    show own_Run p e below s _ _ _ (T62.setTop (mkF m 25 #[.val (.int i0), .val (.long j1), .second, .val (.int i2), .val (.int i3), .val (.long j4), .second, .val (.long j5), .second, .val (.ref t_PRIMARY_BACKUP), .val (.double (FP.i2d i0)), .second, .unset, .unset] [(.ref b62), (.ref b62)]))
    refine own_st (fun t k => XS.aload X62.here hx rfl (hb hby at_25) rfl rfl k) ?_
    show own_Run p e below s _ _ _ (T62.setTop (mkF m 27 #[.val (.int i0), .val (.long j1), .second, .val (.int i2), .val (.int i3), .val (.long j4), .second, .val (.long j5), .second, .val (.ref t_PRIMARY_BACKUP), .val (.double (FP.i2d i0)), .second, .unset, .unset] [(.ref t_PRIMARY_BACKUP), (.ref b62), (.ref b62)]))
    refine own_st (fun t k => XS.iload X62.here hx rfl (hb hby at_27) rfl k) ?_
    show own_Run p e below s _ _ _ (T62.setTop (mkF m 29 #[.val (.int i0), .val (.long j1), .second, .val (.int i2), .val (.int i3), .val (.long j4), .second, .val (.long j5), .second, .val (.ref t_PRIMARY_BACKUP), .val (.double (FP.i2d i0)), .second, .unset, .unset] [(.int i3), (.ref t_PRIMARY_BACKUP), (.ref b62), (.ref b62)]))
    refine own_st (fun t k => XS.dload X62.here hx rfl (hb hby at_29) rfl k) ?_
    show own_Run p e below s _ _ _ (T62.setTop (mkF m 31 #[.val (.int i0), .val (.long j1), .second, .val (.int i2), .val (.int i3), .val (.long j4), .second, .val (.long j5), .second, .val (.ref t_PRIMARY_BACKUP), .val (.double (FP.i2d i0)), .second, .unset, .unset] [(.double (FP.i2d i0)), (.int i3), (.ref t_PRIMARY_BACKUP), (.ref b62), (.ref b62)]))
    refine own_st (fun t k => XS.lloadN X62.here hx rfl (hb hby at_31) rfl k) ?_
    show own_Run p e below s _ _ _ (T62.setTop (mkF m 32 #[.val (.int i0), .val (.long j1), .second, .val (.int i2), .val (.int i3), .val (.long j4), .second, .val (.long j5), .second, .val (.ref t_PRIMARY_BACKUP), .val (.double (FP.i2d i0)), .second, .unset, .unset] [(.long j1), (.double (FP.i2d i0)), (.int i3), (.ref t_PRIMARY_BACKUP), (.ref b62), (.ref b62)]))
    refine own_st (fun t k => XS.lload X62.here hx rfl (hb hby at_32) rfl k) ?_
    show own_Run p e below s _ _ _ (T62.setTop (mkF m 34 #[.val (.int i0), .val (.long j1), .second, .val (.int i2), .val (.int i3), .val (.long j4), .second, .val (.long j5), .second, .val (.ref t_PRIMARY_BACKUP), .val (.double (FP.i2d i0)), .second, .unset, .unset] [(.long j4), (.long j1), (.double (FP.i2d i0)), (.int i3), (.ref t_PRIMARY_BACKUP), (.ref b62), (.ref b62)]))
    refine own_st (fun t k => XS.lload X62.here hx rfl (hb hby at_34) rfl k) ?_
    show own_Run p e below s _ _ _ (T62.setTop (mkF m 36 #[.val (.int i0), .val (.long j1), .second, .val (.int i2), .val (.int i3), .val (.long j4), .second, .val (.long j5), .second, .val (.ref t_PRIMARY_BACKUP), .val (.double (FP.i2d i0)), .second, .unset, .unset] [(.long j5), (.long j4), (.long j1), (.double (FP.i2d i0)), (.int i3), (.ref t_PRIMARY_BACKUP), (.ref b62), (.ref b62)]))
    refine own_st (fun t k => XS.lload X62.here hx rfl (hb hby at_36) rfl k) ?_
    show own_Run p e below s _ _ _ (T62.setTop (mkF m 38 #[.val (.int i0), .val (.long j1), .second, .val (.int i2), .val (.int i3), .val (.long j4), .second, .val (.long j5), .second, .val (.ref t_PRIMARY_BACKUP), .val (.double (FP.i2d i0)), .second, .unset, .unset] [(.long j4), (.long j5), (.long j4), (.long j1), (.double (FP.i2d i0)), (.int i3), (.ref t_PRIMARY_BACKUP), (.ref b62), (.ref b62)]))
    refine own_st (fun t k => XS.lload X62.here hx rfl (hb hby at_38) rfl k) ?_
    show own_Run p e below s _ _ _ (T62.setTop (mkF m 40 #[.val (.int i0), .val (.long j1), .second, .val (.int i2), .val (.int i3), .val (.long j4), .second, .val (.long j5), .second, .val (.ref t_PRIMARY_BACKUP), .val (.double (FP.i2d i0)), .second, .unset, .unset] [(.long j5), (.long j4), (.long j5), (.long j4), (.long j1), (.double (FP.i2d i0)), (.int i3), (.ref t_PRIMARY_BACKUP), (.ref b62), (.ref b62)]))
    refine own_st (fun t k => XS.lload X62.here hx rfl (hb hby at_40) rfl k) ?_
    show own_Run p e below s _ _ _ (T62.setTop (mkF m 42 #[.val (.int i0), .val (.long j1), .second, .val (.int i2), .val (.int i3), .val (.long j4), .second, .val (.long j5), .second, .val (.ref t_PRIMARY_BACKUP), .val (.double (FP.i2d i0)), .second, .unset, .unset] [(.long j4), (.long j5), (.long j4), (.long j5), (.long j4), (.long j1), (.double (FP.i2d i0)), (.int i3), (.ref t_PRIMARY_BACKUP), (.ref b62), (.ref b62)]))
    refine own_callI X62 hx hZ (y := (⟨"com/example/tunegrid/tunegrid/TuningPolicy$Interval", "<init>", "(Lcom/example/tunegrid/tunegrid/Replication$Kind;IDJJJJJJ)V"⟩ : MethodName)) rfl hown (hw _ (List.mem_of_getElem? (i := 6) rfl)) (hw _ (List.mem_of_getElem? (i := 7) rfl)) (hw _ (List.mem_of_getElem? (i := 8) rfl)) (hw _ (List.mem_of_getElem? (i := 5) rfl)) (by decide) e62 (a := b62) (argsL := [(.ref t_PRIMARY_BACKUP), (.int i3), (.double (FP.i2d i0)), (.long j1), (.long j4), (.long j5), (.long j4), (.long j5), (.long j4)]) (rest := [(.ref b62)]) (W := 1) (own_rm1 l Z a0 hw [] b62 t_PRIMARY_BACKUP i3 (FP.i2d i0) j1 j4 j5 j4 j5 j4 h62 n0 (Nat.le_trans Z0 K65.1) A62 D62 ge64) (by decide) (by decide) (by rw [hml]; rfl) (lenOf own_pd3 rfl) rfl (by exact Nat.le_of_eq rfl) (hb hby at_42) (by decide) (by decide) ?_
    intro T67 v67 L67 X67 hq67
    obtain ⟨rfl, N67q, K67q, Q68, Q69, Q70⟩ := hq67
    have K71 : Keep h0 T67.heap [] := K65.trans K67q (allS (Or.inr sz63) all0)
    have O72 := O66.keep K67q (allS ge64 all0)
    have N67 := Fr.app N0 N67q
    show own_Run p e below s _ _ _ (T67.setTop (mkF m 45 #[.val (.int i0), .val (.long j1), .second, .val (.int i2), .val (.int i3), .val (.long j4), .second, .val (.long j5), .second, .val (.ref t_PRIMARY_BACKUP), .val (.double (FP.i2d i0)), .second, .unset, .unset] [(.ref b62)]))
    refine own_st (fun t k => XS.astore X67.here hx rfl (hb hby at_45) rfl rfl (l' := #[.val (.int i0), .val (.long j1), .second, .val (.int i2), .val (.int i3), .val (.long j4), .second, .val (.long j5), .second, .val (.ref t_PRIMARY_BACKUP), .val (.double (FP.i2d i0)), .second, .val (.ref b62), .unset]) rfl k) ?_
    show own_Run p e below s _ _ _ (T67.setTop (mkF m 47 #[.val (.int i0), .val (.long j1), .second, .val (.int i2), .val (.int i3), .val (.long j4), .second, .val (.long j5), .second, .val (.ref t_PRIMARY_BACKUP), .val (.double (FP.i2d i0)), .second, .val (.ref b62), .unset] []))
    refine own_st (fun t k => XS.iloadN X67.here hx rfl (hb hby at_47) rfl k) ?_
    show own_Run p e below s _ _ _ (T67.setTop (mkF m 48 #[.val (.int i0), .val (.long j1), .second, .val (.int i2), .val (.int i3), .val (.long j4), .second, .val (.long j5), .second, .val (.ref t_PRIMARY_BACKUP), .val (.double (FP.i2d i0)), .second, .val (.ref b62), .unset] [(.int i0)]))
    refine own_st (fun t k => XS.iconst X67.here hx rfl (hb hby at_48) k) ?_
    show own_Run p e below s _ _ _ (T67.setTop (mkF m 49 #[.val (.int i0), .val (.long j1), .second, .val (.int i2), .val (.int i3), .val (.long j4), .second, .val (.long j5), .second, .val (.ref t_PRIMARY_BACKUP), .val (.double (FP.i2d i0)), .second, .val (.ref b62), .unset] [(.int (1 : Int32)), (.int i0)]))
    by_cases hA : i0 < (1 : Int32)
    · skip
      refine own_st (fun t k => XS.icmpYes X67.here hx rfl (pc0 := 49) (pc' := 64) rfl (hb hby at_49) rfl (tlt (hA : i0 < (1 : Int32))).1 (by decide) (by decide) k) ?_
      show own_Run p e below s _ _ _ (T67.setTop (mkF m 64 #[.val (.int i0), .val (.long j1), .second, .val (.int i2), .val (.int i3), .val (.long j4), .second, .val (.long j5), .second, .val (.ref t_PRIMARY_BACKUP), .val (.double (FP.i2d i0)), .second, .val (.ref b62), .unset] []))
      refine own_st (fun t k => XS.iconst X67.here hx rfl (hb hby at_64) k) ?_
      show own_Run p e below s _ _ _ (T67.setTop (mkF m 65 #[.val (.int i0), .val (.long j1), .second, .val (.int i2), .val (.int i3), .val (.long j4), .second, .val (.long j5), .second, .val (.ref t_PRIMARY_BACKUP), .val (.double (FP.i2d i0)), .second, .val (.ref b62), .unset] [(.int (0 : Int32))]))
      refine own_st (fun t k => XS.istore X67.here hx rfl (hb hby at_65) rfl (l' := #[.val (.int i0), .val (.long j1), .second, .val (.int i2), .val (.int i3), .val (.long j4), .second, .val (.long j5), .second, .val (.ref t_PRIMARY_BACKUP), .val (.double (FP.i2d i0)), .second, .val (.ref b62), .val (.int (0 : Int32))]) rfl k) ?_
      show own_Run p e below s _ _ _ (T67.setTop (mkF m 67 #[.val (.int i0), .val (.long j1), .second, .val (.int i2), .val (.int i3), .val (.long j4), .second, .val (.long j5), .second, .val (.ref t_PRIMARY_BACKUP), .val (.double (FP.i2d i0)), .second, .val (.ref b62), .val (.int (0 : Int32))] []))
      refine own_st (fun t k => XS.aload X67.here hx rfl (hb hby at_67) rfl rfl k) ?_
      show own_Run p e below s _ _ _ (T67.setTop (mkF m 69 #[.val (.int i0), .val (.long j1), .second, .val (.int i2), .val (.int i3), .val (.long j4), .second, .val (.long j5), .second, .val (.ref t_PRIMARY_BACKUP), .val (.double (FP.i2d i0)), .second, .val (.ref b62), .val (.int (0 : Int32))] [(.ref b62)]))
      refine own_callV X67 hx hZ (y := (⟨"com/example/tunegrid/tunegrid/TuningPolicy$Interval", "measures", "()Z"⟩ : MethodName)) (C := "com/example/tunegrid/tunegrid/TuningPolicy$Interval") hown (hw _ (List.mem_of_getElem? (i := 35) rfl)) (hw _ (List.mem_of_getElem? (i := 36) rfl)) (hw _ (List.mem_of_getElem? (i := 38) rfl)) (hw _ (List.mem_of_getElem? (i := 37) rfl)) (hw _ (List.mem_of_getElem? (i := 39) rfl)) (hw _ (List.mem_of_getElem? (i := 5) rfl)) (by decide) rfl (a := b62) Q68 (argsL := []) (rest := []) (W := 0) (own_rm4 l Z a0 hw [] b62 i0 j1 T67.heap n0 (Nat.le_trans Z0 K71.1) Q69 Q70) (by decide) (by decide) (by rw [hml]; rfl) (lenOf own_pd4 rfl) rfl (by exact Nat.le_of_eq rfl) (hb hby at_69) (by decide) (by decide) ?_
      intro T73 v73 L73 X73 hq73
      obtain ⟨rfl, N73q, hh73⟩ := hq73
      have N73 := Fr.app N67 N73q
      show own_Run p e below s _ _ _ (T73.setTop (mkF m 72 #[.val (.int i0), .val (.long j1), .second, .val (.int i2), .val (.int i3), .val (.long j4), .second, .val (.long j5), .second, .val (.ref t_PRIMARY_BACKUP), .val (.double (FP.i2d i0)), .second, .val (.ref b62), .val (.int (0 : Int32))] [(.int (if ((0 : Int32) < i0 ∧ ¬ (j1 < (100 : Int64))) then 1 else 0 : Int32))]))
      refine own_st (fun t k => XS.iload X73.here hx rfl (hb hby at_72) rfl k) ?_
      show own_Run p e below s _ _ _ (T73.setTop (mkF m 74 #[.val (.int i0), .val (.long j1), .second, .val (.int i2), .val (.int i3), .val (.long j4), .second, .val (.long j5), .second, .val (.ref t_PRIMARY_BACKUP), .val (.double (FP.i2d i0)), .second, .val (.ref b62), .val (.int (0 : Int32))] [(.int (0 : Int32)), (.int (if ((0 : Int32) < i0 ∧ ¬ (j1 < (100 : Int64))) then 1 else 0 : Int32))]))
      refine own_st (fun t k => XS.icmpNo X73.here hx rfl (hb hby at_74) rfl (teq (by first | exact own_meas1 hA hB | exact own_meas2 hB | exact own_meas3 hA : (if ((0 : Int32) < i0 ∧ ¬ (j1 < (100 : Int64))) then 1 else 0 : Int32) = (0 : Int32))).2 k) ?_
      show own_Run p e below s _ _ _ (T73.setTop (mkF m 77 #[.val (.int i0), .val (.long j1), .second, .val (.int i2), .val (.int i3), .val (.long j4), .second, .val (.long j5), .second, .val (.ref t_PRIMARY_BACKUP), .val (.double (FP.i2d i0)), .second, .val (.ref b62), .val (.int (0 : Int32))] []))
      refine own_st (fun t k => XS.iconst X73.here hx rfl (hb hby at_77) k) ?_
      show own_Run p e below s _ _ _ (T73.setTop (mkF m 78 #[.val (.int i0), .val (.long j1), .second, .val (.int i2), .val (.int i3), .val (.long j4), .second, .val (.long j5), .second, .val (.ref t_PRIMARY_BACKUP), .val (.double (FP.i2d i0)), .second, .val (.ref b62), .val (.int (0 : Int32))] [(.int (1 : Int32))]))
      refine own_st (fun t k => XS.goto X73.here hx rfl (pc0 := 78) (pc' := 82) rfl (hb hby at_78) (by decide) (by decide) k) ?_
      show own_Run p e below s _ _ _ (T73.setTop (mkF m 82 #[.val (.int i0), .val (.long j1), .second, .val (.int i2), .val (.int i3), .val (.long j4), .second, .val (.long j5), .second, .val (.ref t_PRIMARY_BACKUP), .val (.double (FP.i2d i0)), .second, .val (.ref b62), .val (.int (0 : Int32))] [(.int (1 : Int32))]))
      exact own_ret X73 hx hlk (t := .boolean) hret rfl (Or.inl ⟨rfl, by simp, _, rfl⟩) (hb hby at_82) (by decide) (by decide) ⟨rfl, N73⟩
    · skip
      refine own_st (fun t k => XS.icmpNo X67.here hx rfl (hb hby at_49) rfl (flt (hA : ¬ (i0 < (1 : Int32)))).1 k) ?_
      show own_Run p e below s _ _ _ (T67.setTop (mkF m 52 #[.val (.int i0), .val (.long j1), .second, .val (.int i2), .val (.int i3), .val (.long j4), .second, .val (.long j5), .second, .val (.ref t_PRIMARY_BACKUP), .val (.double (FP.i2d i0)), .second, .val (.ref b62), .unset] []))
      refine own_st (fun t k => XS.lloadN X67.here hx rfl (hb hby at_52) rfl k) ?_
      show own_Run p e below s _ _ _ (T67.setTop (mkF m 53 #[.val (.int i0), .val (.long j1), .second, .val (.int i2), .val (.int i3), .val (.long j4), .second, .val (.long j5), .second, .val (.ref t_PRIMARY_BACKUP), .val (.double (FP.i2d i0)), .second, .val (.ref b62), .unset] [(.long j1)]))
      refine own_st (X67.ldc2Long hx hown (mvT hZ (hw _ (List.mem_of_getElem? (i := 40) rfl))) (g := (mkF m 53 #[.val (.int i0), .val (.long j1), .second, .val (.int i2), .val (.int i3), .val (.long j4), .second, .val (.long j5), .second, .val (.ref t_PRIMARY_BACKUP), .val (.double (FP.i2d i0)), .second, .val (.ref b62), .unset] [(.long j1)])) rfl (hb hby at_53)) ?_
      show own_Run p e below s _ _ _ (T67.setTop (mkF m 56 #[.val (.int i0), .val (.long j1), .second, .val (.int i2), .val (.int i3), .val (.long j4), .second, .val (.long j5), .second, .val (.ref t_PRIMARY_BACKUP), .val (.double (FP.i2d i0)), .second, .val (.ref b62), .unset] [(.long (99 : Int64)), (.long j1)]))
      refine own_st (fun t k => XS.lcmp X67.here hx rfl (hb hby at_56) rfl k) ?_
      show own_Run p e below s _ _ _ (T67.setTop (mkF m 57 #[.val (.int i0), .val (.long j1), .second, .val (.int i2), .val (.int i3), .val (.long j4), .second, .val (.long j5), .second, .val (.ref t_PRIMARY_BACKUP), .val (.double (FP.i2d i0)), .second, .val (.ref b62), .unset] [(.int (lcmpW j1 (99 : Int64)))]))
      by_cases hB : (99 : Int64) < j1
      · skip
        refine own_st (fun t k => XS.ifNo X67.here hx rfl (hb hby at_57) rfl ((if0 _ _).trans (tlt ((lw_gt _ _).mpr hB : (0 : Int32) < (lcmpW j1 (99 : Int64)))).2.2.2) k) ?_
        show own_Run p e below s _ _ _ (T67.setTop (mkF m 60 #[.val (.int i0), .val (.long j1), .second, .val (.int i2), .val (.int i3), .val (.long j4), .second, .val (.long j5), .second, .val (.ref t_PRIMARY_BACKUP), .val (.double (FP.i2d i0)), .second, .val (.ref b62), .unset] []))
        refine own_st (fun t k => XS.iconst X67.here hx rfl (hb hby at_60) k) ?_
        show own_Run p e below s _ _ _ (T67.setTop (mkF m 61 #[.val (.int i0), .val (.long j1), .second, .val (.int i2), .val (.int i3), .val (.long j4), .second, .val (.long j5), .second, .val (.ref t_PRIMARY_BACKUP), .val (.double (FP.i2d i0)), .second, .val (.ref b62), .unset] [(.int (1 : Int32))]))
        refine own_st (fun t k => XS.goto X67.here hx rfl (pc0 := 61) (pc' := 65) rfl (hb hby at_61) (by decide) (by decide) k) ?_
        show own_Run p e below s _ _ _ (T67.setTop (mkF m 65 #[.val (.int i0), .val (.long j1), .second, .val (.int i2), .val (.int i3), .val (.long j4), .second, .val (.long j5), .second, .val (.ref t_PRIMARY_BACKUP), .val (.double (FP.i2d i0)), .second, .val (.ref b62), .unset] [(.int (1 : Int32))]))
        refine own_st (fun t k => XS.istore X67.here hx rfl (hb hby at_65) rfl (l' := #[.val (.int i0), .val (.long j1), .second, .val (.int i2), .val (.int i3), .val (.long j4), .second, .val (.long j5), .second, .val (.ref t_PRIMARY_BACKUP), .val (.double (FP.i2d i0)), .second, .val (.ref b62), .val (.int (1 : Int32))]) rfl k) ?_
        show own_Run p e below s _ _ _ (T67.setTop (mkF m 67 #[.val (.int i0), .val (.long j1), .second, .val (.int i2), .val (.int i3), .val (.long j4), .second, .val (.long j5), .second, .val (.ref t_PRIMARY_BACKUP), .val (.double (FP.i2d i0)), .second, .val (.ref b62), .val (.int (1 : Int32))] []))
        refine own_st (fun t k => XS.aload X67.here hx rfl (hb hby at_67) rfl rfl k) ?_
        show own_Run p e below s _ _ _ (T67.setTop (mkF m 69 #[.val (.int i0), .val (.long j1), .second, .val (.int i2), .val (.int i3), .val (.long j4), .second, .val (.long j5), .second, .val (.ref t_PRIMARY_BACKUP), .val (.double (FP.i2d i0)), .second, .val (.ref b62), .val (.int (1 : Int32))] [(.ref b62)]))
        refine own_callV X67 hx hZ (y := (⟨"com/example/tunegrid/tunegrid/TuningPolicy$Interval", "measures", "()Z"⟩ : MethodName)) (C := "com/example/tunegrid/tunegrid/TuningPolicy$Interval") hown (hw _ (List.mem_of_getElem? (i := 35) rfl)) (hw _ (List.mem_of_getElem? (i := 36) rfl)) (hw _ (List.mem_of_getElem? (i := 38) rfl)) (hw _ (List.mem_of_getElem? (i := 37) rfl)) (hw _ (List.mem_of_getElem? (i := 39) rfl)) (hw _ (List.mem_of_getElem? (i := 5) rfl)) (by decide) rfl (a := b62) Q68 (argsL := []) (rest := []) (W := 0) (own_rm4 l Z a0 hw [] b62 i0 j1 T67.heap n0 (Nat.le_trans Z0 K71.1) Q69 Q70) (by decide) (by decide) (by rw [hml]; rfl) (lenOf own_pd4 rfl) rfl (by exact Nat.le_of_eq rfl) (hb hby at_69) (by decide) (by decide) ?_
        intro T74 v74 L74 X74 hq74
        obtain ⟨rfl, N74q, hh74⟩ := hq74
        have N74 := Fr.app N67 N74q
        show own_Run p e below s _ _ _ (T74.setTop (mkF m 72 #[.val (.int i0), .val (.long j1), .second, .val (.int i2), .val (.int i3), .val (.long j4), .second, .val (.long j5), .second, .val (.ref t_PRIMARY_BACKUP), .val (.double (FP.i2d i0)), .second, .val (.ref b62), .val (.int (1 : Int32))] [(.int (if ((0 : Int32) < i0 ∧ ¬ (j1 < (100 : Int64))) then 1 else 0 : Int32))]))
        refine own_st (fun t k => XS.iload X74.here hx rfl (hb hby at_72) rfl k) ?_
        show own_Run p e below s _ _ _ (T74.setTop (mkF m 74 #[.val (.int i0), .val (.long j1), .second, .val (.int i2), .val (.int i3), .val (.long j4), .second, .val (.long j5), .second, .val (.ref t_PRIMARY_BACKUP), .val (.double (FP.i2d i0)), .second, .val (.ref b62), .val (.int (1 : Int32))] [(.int (1 : Int32)), (.int (if ((0 : Int32) < i0 ∧ ¬ (j1 < (100 : Int64))) then 1 else 0 : Int32))]))
        refine own_st (fun t k => XS.icmpNo X74.here hx rfl (hb hby at_74) rfl (teq (by first | exact own_meas1 hA hB | exact own_meas2 hB | exact own_meas3 hA : (if ((0 : Int32) < i0 ∧ ¬ (j1 < (100 : Int64))) then 1 else 0 : Int32) = (1 : Int32))).2 k) ?_
        show own_Run p e below s _ _ _ (T74.setTop (mkF m 77 #[.val (.int i0), .val (.long j1), .second, .val (.int i2), .val (.int i3), .val (.long j4), .second, .val (.long j5), .second, .val (.ref t_PRIMARY_BACKUP), .val (.double (FP.i2d i0)), .second, .val (.ref b62), .val (.int (1 : Int32))] []))
        refine own_st (fun t k => XS.iconst X74.here hx rfl (hb hby at_77) k) ?_
        show own_Run p e below s _ _ _ (T74.setTop (mkF m 78 #[.val (.int i0), .val (.long j1), .second, .val (.int i2), .val (.int i3), .val (.long j4), .second, .val (.long j5), .second, .val (.ref t_PRIMARY_BACKUP), .val (.double (FP.i2d i0)), .second, .val (.ref b62), .val (.int (1 : Int32))] [(.int (1 : Int32))]))
        refine own_st (fun t k => XS.goto X74.here hx rfl (pc0 := 78) (pc' := 82) rfl (hb hby at_78) (by decide) (by decide) k) ?_
        show own_Run p e below s _ _ _ (T74.setTop (mkF m 82 #[.val (.int i0), .val (.long j1), .second, .val (.int i2), .val (.int i3), .val (.long j4), .second, .val (.long j5), .second, .val (.ref t_PRIMARY_BACKUP), .val (.double (FP.i2d i0)), .second, .val (.ref b62), .val (.int (1 : Int32))] [(.int (1 : Int32))]))
        exact own_ret X74 hx hlk (t := .boolean) hret rfl (Or.inl ⟨rfl, by simp, _, rfl⟩) (hb hby at_82) (by decide) (by decide) ⟨rfl, N74⟩
      · skip
        refine own_st (fun t k => XS.ifYes X67.here hx rfl (pc0 := 57) (pc' := 64) rfl (hb hby at_57) rfl ((if0 _ _).trans (flt (fun q => hB ((lw_gt _ _).mp q) : ¬ ((0 : Int32) < (lcmpW j1 (99 : Int64))))).2.2.2) (by decide) (by decide) k) ?_
        show own_Run p e below s _ _ _ (T67.setTop (mkF m 64 #[.val (.int i0), .val (.long j1), .second, .val (.int i2), .val (.int i3), .val (.long j4), .second, .val (.long j5), .second, .val (.ref t_PRIMARY_BACKUP), .val (.double (FP.i2d i0)), .second, .val (.ref b62), .unset] []))
        refine own_st (fun t k => XS.iconst X67.here hx rfl (hb hby at_64) k) ?_
        show own_Run p e below s _ _ _ (T67.setTop (mkF m 65 #[.val (.int i0), .val (.long j1), .second, .val (.int i2), .val (.int i3), .val (.long j4), .second, .val (.long j5), .second, .val (.ref t_PRIMARY_BACKUP), .val (.double (FP.i2d i0)), .second, .val (.ref b62), .unset] [(.int (0 : Int32))]))
        refine own_st (fun t k => XS.istore X67.here hx rfl (hb hby at_65) rfl (l' := #[.val (.int i0), .val (.long j1), .second, .val (.int i2), .val (.int i3), .val (.long j4), .second, .val (.long j5), .second, .val (.ref t_PRIMARY_BACKUP), .val (.double (FP.i2d i0)), .second, .val (.ref b62), .val (.int (0 : Int32))]) rfl k) ?_
        show own_Run p e below s _ _ _ (T67.setTop (mkF m 67 #[.val (.int i0), .val (.long j1), .second, .val (.int i2), .val (.int i3), .val (.long j4), .second, .val (.long j5), .second, .val (.ref t_PRIMARY_BACKUP), .val (.double (FP.i2d i0)), .second, .val (.ref b62), .val (.int (0 : Int32))] []))
        refine own_st (fun t k => XS.aload X67.here hx rfl (hb hby at_67) rfl rfl k) ?_
        show own_Run p e below s _ _ _ (T67.setTop (mkF m 69 #[.val (.int i0), .val (.long j1), .second, .val (.int i2), .val (.int i3), .val (.long j4), .second, .val (.long j5), .second, .val (.ref t_PRIMARY_BACKUP), .val (.double (FP.i2d i0)), .second, .val (.ref b62), .val (.int (0 : Int32))] [(.ref b62)]))
        refine own_callV X67 hx hZ (y := (⟨"com/example/tunegrid/tunegrid/TuningPolicy$Interval", "measures", "()Z"⟩ : MethodName)) (C := "com/example/tunegrid/tunegrid/TuningPolicy$Interval") hown (hw _ (List.mem_of_getElem? (i := 35) rfl)) (hw _ (List.mem_of_getElem? (i := 36) rfl)) (hw _ (List.mem_of_getElem? (i := 38) rfl)) (hw _ (List.mem_of_getElem? (i := 37) rfl)) (hw _ (List.mem_of_getElem? (i := 39) rfl)) (hw _ (List.mem_of_getElem? (i := 5) rfl)) (by decide) rfl (a := b62) Q68 (argsL := []) (rest := []) (W := 0) (own_rm4 l Z a0 hw [] b62 i0 j1 T67.heap n0 (Nat.le_trans Z0 K71.1) Q69 Q70) (by decide) (by decide) (by rw [hml]; rfl) (lenOf own_pd4 rfl) rfl (by exact Nat.le_of_eq rfl) (hb hby at_69) (by decide) (by decide) ?_
        intro T75 v75 L75 X75 hq75
        obtain ⟨rfl, N75q, hh75⟩ := hq75
        have N75 := Fr.app N67 N75q
        show own_Run p e below s _ _ _ (T75.setTop (mkF m 72 #[.val (.int i0), .val (.long j1), .second, .val (.int i2), .val (.int i3), .val (.long j4), .second, .val (.long j5), .second, .val (.ref t_PRIMARY_BACKUP), .val (.double (FP.i2d i0)), .second, .val (.ref b62), .val (.int (0 : Int32))] [(.int (if ((0 : Int32) < i0 ∧ ¬ (j1 < (100 : Int64))) then 1 else 0 : Int32))]))
        refine own_st (fun t k => XS.iload X75.here hx rfl (hb hby at_72) rfl k) ?_
        show own_Run p e below s _ _ _ (T75.setTop (mkF m 74 #[.val (.int i0), .val (.long j1), .second, .val (.int i2), .val (.int i3), .val (.long j4), .second, .val (.long j5), .second, .val (.ref t_PRIMARY_BACKUP), .val (.double (FP.i2d i0)), .second, .val (.ref b62), .val (.int (0 : Int32))] [(.int (0 : Int32)), (.int (if ((0 : Int32) < i0 ∧ ¬ (j1 < (100 : Int64))) then 1 else 0 : Int32))]))
        refine own_st (fun t k => XS.icmpNo X75.here hx rfl (hb hby at_74) rfl (teq (by first | exact own_meas1 hA hB | exact own_meas2 hB | exact own_meas3 hA : (if ((0 : Int32) < i0 ∧ ¬ (j1 < (100 : Int64))) then 1 else 0 : Int32) = (0 : Int32))).2 k) ?_
        show own_Run p e below s _ _ _ (T75.setTop (mkF m 77 #[.val (.int i0), .val (.long j1), .second, .val (.int i2), .val (.int i3), .val (.long j4), .second, .val (.long j5), .second, .val (.ref t_PRIMARY_BACKUP), .val (.double (FP.i2d i0)), .second, .val (.ref b62), .val (.int (0 : Int32))] []))
        refine own_st (fun t k => XS.iconst X75.here hx rfl (hb hby at_77) k) ?_
        show own_Run p e below s _ _ _ (T75.setTop (mkF m 78 #[.val (.int i0), .val (.long j1), .second, .val (.int i2), .val (.int i3), .val (.long j4), .second, .val (.long j5), .second, .val (.ref t_PRIMARY_BACKUP), .val (.double (FP.i2d i0)), .second, .val (.ref b62), .val (.int (0 : Int32))] [(.int (1 : Int32))]))
        refine own_st (fun t k => XS.goto X75.here hx rfl (pc0 := 78) (pc' := 82) rfl (hb hby at_78) (by decide) (by decide) k) ?_
        show own_Run p e below s _ _ _ (T75.setTop (mkF m 82 #[.val (.int i0), .val (.long j1), .second, .val (.int i2), .val (.int i3), .val (.long j4), .second, .val (.long j5), .second, .val (.ref t_PRIMARY_BACKUP), .val (.double (FP.i2d i0)), .second, .val (.ref b62), .val (.int (0 : Int32))] [(.int (1 : Int32))]))
        exact own_ret X75 hx hlk (t := .boolean) hret rfl (Or.inl ⟨rfl, by simp, _, rfl⟩) (hb hby at_82) (by decide) (by decide) ⟨rfl, N75⟩
  · skip
    refine own_st (fun t k => XS.ifNo X0.here hx rfl (hb hby at_3) rfl ((if0 _ _).trans (feq (hc60 : ¬ ((i2 &&& (1 : Int32)) = (0 : Int32)))).1) k) ?_
    show own_Run p e below s _ _ _ (s₁.setTop (mkF m 6 #[.val (.int i0), .val (.long j1), .second, .val (.int i2), .val (.int i3), .val (.long j4), .second, .val (.long j5), .second, .unset, .unset, .unset, .unset, .unset] []))
    obtain ⟨T76, X76, e76, st76⟩ := getS2 X0 hx hZ hown (host := "") (Or.inl (hw _ (List.mem_of_getElem? (i := 0) rfl))) Via.refl e0 (S_TWO_PHASE_COMMIT.ext O0.2) (g := (mkF m 6 #[.val (.int i0), .val (.long j1), .second, .val (.int i2), .val (.int i3), .val (.long j4), .second, .val (.long j5), .second, .unset, .unset, .unset, .unset, .unset] [])) rfl (hb hby at_6)
    refine own_st st76 ?_
    show own_Run p e below s _ _ _ (T76.setTop (mkF m 9 #[.val (.int i0), .val (.long j1), .second, .val (.int i2), .val (.int i3), .val (.long j4), .second, .val (.long j5), .second, .unset, .unset, .unset, .unset, .unset] [(.ref t_TWO_PHASE_COMMIT)]))
    refine own_st (fun t k => XS.goto X76.here hx rfl (pc0 := 9) (pc' := 15) rfl (hb hby at_9) (by decide) (by decide) k) ?_
    show own_Run p e below s _ _ _ (T76.setTop (mkF m 15 #[.val (.int i0), .val (.long j1), .second, .val (.int i2), .val (.int i3), .val (.long j4), .second, .val (.long j5), .second, .unset, .unset, .unset, .unset, .unset] [(.ref t_TWO_PHASE_COMMIT)]))
    refine own_st (fun t k => XS.astore X76.here hx rfl (hb hby at_15) rfl rfl (l' := #[.val (.int i0), .val (.long j1), .second, .val (.int i2), .val (.int i3), .val (.long j4), .second, .val (.long j5), .second, .val (.ref t_TWO_PHASE_COMMIT), .unset, .unset, .unset, .unset]) rfl k) ?_
    show own_Run p e below s _ _ _ (T76.setTop (mkF m 17 #[.val (.int i0), .val (.long j1), .second, .val (.int i2), .val (.int i3), .val (.long j4), .second, .val (.long j5), .second, .val (.ref t_TWO_PHASE_COMMIT), .unset, .unset, .unset, .unset] []))
    refine own_st (fun t k => XS.iloadN X76.here hx rfl (hb hby at_17) rfl k) ?_
    show own_Run p e below s _ _ _ (T76.setTop (mkF m 18 #[.val (.int i0), .val (.long j1), .second, .val (.int i2), .val (.int i3), .val (.long j4), .second, .val (.long j5), .second, .val (.ref t_TWO_PHASE_COMMIT), .unset, .unset, .unset, .unset] [(.int i0)]))
    refine own_st (fun t k => XS.i2dS X76.here hx rfl (hb hby at_18) rfl (v := (FP.i2d i0)) (rfl) k) ?_
    show own_Run p e below s _ _ _ (T76.setTop (mkF m 19 #[.val (.int i0), .val (.long j1), .second, .val (.int i2), .val (.int i3), .val (.long j4), .second, .val (.long j5), .second, .val (.ref t_TWO_PHASE_COMMIT), .unset, .unset, .unset, .unset] [(.double (FP.i2d i0))]))
    refine own_st (fun t k => XS.dstore X76.here hx rfl (hb hby at_19) rfl (l' := #[.val (.int i0), .val (.long j1), .second, .val (.int i2), .val (.int i3), .val (.long j4), .second, .val (.long j5), .second, .val (.ref t_TWO_PHASE_COMMIT), .val (.double (FP.i2d i0)), .second, .unset, .unset]) rfl k) ?_
    show own_Run p e below s _ _ _ (T76.setTop (mkF m 21 #[.val (.int i0), .val (.long j1), .second, .val (.int i2), .val (.int i3), .val (.long j4), .second, .val (.long j5), .second, .val (.ref t_TWO_PHASE_COMMIT), .val (.double (FP.i2d i0)), .second, .unset, .unset] []))
    obtain ⟨T77, h77, X77, e77, E77, A77, D77, -, st77⟩ := newO X76 hx hZ hown (hw _ (List.mem_of_getElem? (i := 3) rfl)) (hw _ (List.mem_of_getElem? (i := 4) rfl)) (hw _ (List.mem_of_getElem? (i := 5) rfl)) e76 (g := (mkF m 21 #[.val (.int i0), .val (.long j1), .second, .val (.int i2), .val (.int i3), .val (.long j4), .second, .val (.long j5), .second, .val (.ref t_TWO_PHASE_COMMIT), .val (.double (FP.i2d i0)), .second, .unset, .unset] [])) rfl (hb hby at_21) (by decide) (by decide)
    obtain ⟨b77, g77⟩ : ∃ z, z = h0.size := ⟨_, rfl⟩
    rw [← g77] at A77 D77 st77
    have sz78 : h0.size ≤ b77 := Nat.le_trans K0.1 (Nat.le_of_eq g77.symm)
    have ge79 : n0 ≤ b77 := Nat.le_trans Z0 sz78
    refine own_st st77 ?_
    have K80 : Keep h0 h77 [] := K0.ext E77
    have O81 := O0.ext E77
    show own_Run p e below s _ _ _ (T77.setTop (mkF m 24 #[.val (.int i0), .val (.long j1), .second, .val (.int i2), .val (.int i3), .val (.long j4), .second, .val (.long j5), .second, .val (.ref t_TWO_PHASE_COMMIT), .val (.double (FP.i2d i0)), .second, .unset, .unset] [(.ref b77)]))
    refine own_st (fun t k => XS.dup X77.here hx rfl (hb hby at_24) rfl rfl k) ?_
    show own_Run p e below s _ _ _ (T77.setTop (mkF m 25 #[.val (.int i0), .val (.long j1), .second, .val (.int i2), .val (.int i3), .val (.long j4), .second, .val (.long j5), .second, .val (.ref t_TWO_PHASE_COMMIT), .val (.double (FP.i2d i0)), .second, .unset, .unset] [(.ref b77), (.ref b77)]))
    refine own_st (fun t k => XS.aload X77.here hx rfl (hb hby at_25) rfl rfl k) ?_
    show own_Run p e below s _ _ _ (T77.setTop (mkF m 27 #[.val (.int i0), .val (.long j1), .second, .val (.int i2), .val (.int i3), .val (.long j4), .second, .val (.long j5), .second, .val (.ref t_TWO_PHASE_COMMIT), .val (.double (FP.i2d i0)), .second, .unset, .unset] [(.ref t_TWO_PHASE_COMMIT), (.ref b77), (.ref b77)]))
    refine own_st (fun t k => XS.iload X77.here hx rfl (hb hby at_27) rfl k) ?_
    show own_Run p e below s _ _ _ (T77.setTop (mkF m 29 #[.val (.int i0), .val (.long j1), .second, .val (.int i2), .val (.int i3), .val (.long j4), .second, .val (.long j5), .second, .val (.ref t_TWO_PHASE_COMMIT), .val (.double (FP.i2d i0)), .second, .unset, .unset] [(.int i3), (.ref t_TWO_PHASE_COMMIT), (.ref b77), (.ref b77)]))
    refine own_st (fun t k => XS.dload X77.here hx rfl (hb hby at_29) rfl k) ?_
    show own_Run p e below s _ _ _ (T77.setTop (mkF m 31 #[.val (.int i0), .val (.long j1), .second, .val (.int i2), .val (.int i3), .val (.long j4), .second, .val (.long j5), .second, .val (.ref t_TWO_PHASE_COMMIT), .val (.double (FP.i2d i0)), .second, .unset, .unset] [(.double (FP.i2d i0)), (.int i3), (.ref t_TWO_PHASE_COMMIT), (.ref b77), (.ref b77)]))
    refine own_st (fun t k => XS.lloadN X77.here hx rfl (hb hby at_31) rfl k) ?_
    show own_Run p e below s _ _ _ (T77.setTop (mkF m 32 #[.val (.int i0), .val (.long j1), .second, .val (.int i2), .val (.int i3), .val (.long j4), .second, .val (.long j5), .second, .val (.ref t_TWO_PHASE_COMMIT), .val (.double (FP.i2d i0)), .second, .unset, .unset] [(.long j1), (.double (FP.i2d i0)), (.int i3), (.ref t_TWO_PHASE_COMMIT), (.ref b77), (.ref b77)]))
    refine own_st (fun t k => XS.lload X77.here hx rfl (hb hby at_32) rfl k) ?_
    show own_Run p e below s _ _ _ (T77.setTop (mkF m 34 #[.val (.int i0), .val (.long j1), .second, .val (.int i2), .val (.int i3), .val (.long j4), .second, .val (.long j5), .second, .val (.ref t_TWO_PHASE_COMMIT), .val (.double (FP.i2d i0)), .second, .unset, .unset] [(.long j4), (.long j1), (.double (FP.i2d i0)), (.int i3), (.ref t_TWO_PHASE_COMMIT), (.ref b77), (.ref b77)]))
    refine own_st (fun t k => XS.lload X77.here hx rfl (hb hby at_34) rfl k) ?_
    show own_Run p e below s _ _ _ (T77.setTop (mkF m 36 #[.val (.int i0), .val (.long j1), .second, .val (.int i2), .val (.int i3), .val (.long j4), .second, .val (.long j5), .second, .val (.ref t_TWO_PHASE_COMMIT), .val (.double (FP.i2d i0)), .second, .unset, .unset] [(.long j5), (.long j4), (.long j1), (.double (FP.i2d i0)), (.int i3), (.ref t_TWO_PHASE_COMMIT), (.ref b77), (.ref b77)]))
    refine own_st (fun t k => XS.lload X77.here hx rfl (hb hby at_36) rfl k) ?_
    show own_Run p e below s _ _ _ (T77.setTop (mkF m 38 #[.val (.int i0), .val (.long j1), .second, .val (.int i2), .val (.int i3), .val (.long j4), .second, .val (.long j5), .second, .val (.ref t_TWO_PHASE_COMMIT), .val (.double (FP.i2d i0)), .second, .unset, .unset] [(.long j4), (.long j5), (.long j4), (.long j1), (.double (FP.i2d i0)), (.int i3), (.ref t_TWO_PHASE_COMMIT), (.ref b77), (.ref b77)]))
    refine own_st (fun t k => XS.lload X77.here hx rfl (hb hby at_38) rfl k) ?_
    show own_Run p e below s _ _ _ (T77.setTop (mkF m 40 #[.val (.int i0), .val (.long j1), .second, .val (.int i2), .val (.int i3), .val (.long j4), .second, .val (.long j5), .second, .val (.ref t_TWO_PHASE_COMMIT), .val (.double (FP.i2d i0)), .second, .unset, .unset] [(.long j5), (.long j4), (.long j5), (.long j4), (.long j1), (.double (FP.i2d i0)), (.int i3), (.ref t_TWO_PHASE_COMMIT), (.ref b77), (.ref b77)]))
    refine own_st (fun t k => XS.lload X77.here hx rfl (hb hby at_40) rfl k) ?_
    show own_Run p e below s _ _ _ (T77.setTop (mkF m 42 #[.val (.int i0), .val (.long j1), .second, .val (.int i2), .val (.int i3), .val (.long j4), .second, .val (.long j5), .second, .val (.ref t_TWO_PHASE_COMMIT), .val (.double (FP.i2d i0)), .second, .unset, .unset] [(.long j4), (.long j5), (.long j4), (.long j5), (.long j4), (.long j1), (.double (FP.i2d i0)), (.int i3), (.ref t_TWO_PHASE_COMMIT), (.ref b77), (.ref b77)]))
    refine own_callI X77 hx hZ (y := (⟨"com/example/tunegrid/tunegrid/TuningPolicy$Interval", "<init>", "(Lcom/example/tunegrid/tunegrid/Replication$Kind;IDJJJJJJ)V"⟩ : MethodName)) rfl hown (hw _ (List.mem_of_getElem? (i := 6) rfl)) (hw _ (List.mem_of_getElem? (i := 7) rfl)) (hw _ (List.mem_of_getElem? (i := 8) rfl)) (hw _ (List.mem_of_getElem? (i := 5) rfl)) (by decide) e77 (a := b77) (argsL := [(.ref t_TWO_PHASE_COMMIT), (.int i3), (.double (FP.i2d i0)), (.long j1), (.long j4), (.long j5), (.long j4), (.long j5), (.long j4)]) (rest := [(.ref b77)]) (W := 1) (own_rm1 l Z a0 hw [] b77 t_TWO_PHASE_COMMIT i3 (FP.i2d i0) j1 j4 j5 j4 j5 j4 h77 n0 (Nat.le_trans Z0 K80.1) A77 D77 ge79) (by decide) (by decide) (by rw [hml]; rfl) (lenOf own_pd3 rfl) rfl (by exact Nat.le_of_eq rfl) (hb hby at_42) (by decide) (by decide) ?_
    intro T82 v82 L82 X82 hq82
    obtain ⟨rfl, N82q, K82q, Q83, Q84, Q85⟩ := hq82
    have K86 : Keep h0 T82.heap [] := K80.trans K82q (allS (Or.inr sz78) all0)
    have O87 := O81.keep K82q (allS ge79 all0)
    have N82 := Fr.app N0 N82q
    show own_Run p e below s _ _ _ (T82.setTop (mkF m 45 #[.val (.int i0), .val (.long j1), .second, .val (.int i2), .val (.int i3), .val (.long j4), .second, .val (.long j5), .second, .val (.ref t_TWO_PHASE_COMMIT), .val (.double (FP.i2d i0)), .second, .unset, .unset] [(.ref b77)]))
    refine own_st (fun t k => XS.astore X82.here hx rfl (hb hby at_45) rfl rfl (l' := #[.val (.int i0), .val (.long j1), .second, .val (.int i2), .val (.int i3), .val (.long j4), .second, .val (.long j5), .second, .val (.ref t_TWO_PHASE_COMMIT), .val (.double (FP.i2d i0)), .second, .val (.ref b77), .unset]) rfl k) ?_
    show own_Run p e below s _ _ _ (T82.setTop (mkF m 47 #[.val (.int i0), .val (.long j1), .second, .val (.int i2), .val (.int i3), .val (.long j4), .second, .val (.long j5), .second, .val (.ref t_TWO_PHASE_COMMIT), .val (.double (FP.i2d i0)), .second, .val (.ref b77), .unset] []))
    refine own_st (fun t k => XS.iloadN X82.here hx rfl (hb hby at_47) rfl k) ?_
    show own_Run p e below s _ _ _ (T82.setTop (mkF m 48 #[.val (.int i0), .val (.long j1), .second, .val (.int i2), .val (.int i3), .val (.long j4), .second, .val (.long j5), .second, .val (.ref t_TWO_PHASE_COMMIT), .val (.double (FP.i2d i0)), .second, .val (.ref b77), .unset] [(.int i0)]))
    refine own_st (fun t k => XS.iconst X82.here hx rfl (hb hby at_48) k) ?_
    show own_Run p e below s _ _ _ (T82.setTop (mkF m 49 #[.val (.int i0), .val (.long j1), .second, .val (.int i2), .val (.int i3), .val (.long j4), .second, .val (.long j5), .second, .val (.ref t_TWO_PHASE_COMMIT), .val (.double (FP.i2d i0)), .second, .val (.ref b77), .unset] [(.int (1 : Int32)), (.int i0)]))
    by_cases hA : i0 < (1 : Int32)
    · skip
      refine own_st (fun t k => XS.icmpYes X82.here hx rfl (pc0 := 49) (pc' := 64) rfl (hb hby at_49) rfl (tlt (hA : i0 < (1 : Int32))).1 (by decide) (by decide) k) ?_
      show own_Run p e below s _ _ _ (T82.setTop (mkF m 64 #[.val (.int i0), .val (.long j1), .second, .val (.int i2), .val (.int i3), .val (.long j4), .second, .val (.long j5), .second, .val (.ref t_TWO_PHASE_COMMIT), .val (.double (FP.i2d i0)), .second, .val (.ref b77), .unset] []))
      refine own_st (fun t k => XS.iconst X82.here hx rfl (hb hby at_64) k) ?_
      show own_Run p e below s _ _ _ (T82.setTop (mkF m 65 #[.val (.int i0), .val (.long j1), .second, .val (.int i2), .val (.int i3), .val (.long j4), .second, .val (.long j5), .second, .val (.ref t_TWO_PHASE_COMMIT), .val (.double (FP.i2d i0)), .second, .val (.ref b77), .unset] [(.int (0 : Int32))]))
      refine own_st (fun t k => XS.istore X82.here hx rfl (hb hby at_65) rfl (l' := #[.val (.int i0), .val (.long j1), .second, .val (.int i2), .val (.int i3), .val (.long j4), .second, .val (.long j5), .second, .val (.ref t_TWO_PHASE_COMMIT), .val (.double (FP.i2d i0)), .second, .val (.ref b77), .val (.int (0 : Int32))]) rfl k) ?_
      show own_Run p e below s _ _ _ (T82.setTop (mkF m 67 #[.val (.int i0), .val (.long j1), .second, .val (.int i2), .val (.int i3), .val (.long j4), .second, .val (.long j5), .second, .val (.ref t_TWO_PHASE_COMMIT), .val (.double (FP.i2d i0)), .second, .val (.ref b77), .val (.int (0 : Int32))] []))
      refine own_st (fun t k => XS.aload X82.here hx rfl (hb hby at_67) rfl rfl k) ?_
      show own_Run p e below s _ _ _ (T82.setTop (mkF m 69 #[.val (.int i0), .val (.long j1), .second, .val (.int i2), .val (.int i3), .val (.long j4), .second, .val (.long j5), .second, .val (.ref t_TWO_PHASE_COMMIT), .val (.double (FP.i2d i0)), .second, .val (.ref b77), .val (.int (0 : Int32))] [(.ref b77)]))
      refine own_callV X82 hx hZ (y := (⟨"com/example/tunegrid/tunegrid/TuningPolicy$Interval", "measures", "()Z"⟩ : MethodName)) (C := "com/example/tunegrid/tunegrid/TuningPolicy$Interval") hown (hw _ (List.mem_of_getElem? (i := 35) rfl)) (hw _ (List.mem_of_getElem? (i := 36) rfl)) (hw _ (List.mem_of_getElem? (i := 38) rfl)) (hw _ (List.mem_of_getElem? (i := 37) rfl)) (hw _ (List.mem_of_getElem? (i := 39) rfl)) (hw _ (List.mem_of_getElem? (i := 5) rfl)) (by decide) rfl (a := b77) Q83 (argsL := []) (rest := []) (W := 0) (own_rm4 l Z a0 hw [] b77 i0 j1 T82.heap n0 (Nat.le_trans Z0 K86.1) Q84 Q85) (by decide) (by decide) (by rw [hml]; rfl) (lenOf own_pd4 rfl) rfl (by exact Nat.le_of_eq rfl) (hb hby at_69) (by decide) (by decide) ?_
      intro T88 v88 L88 X88 hq88
      obtain ⟨rfl, N88q, hh88⟩ := hq88
      have N88 := Fr.app N82 N88q
      show own_Run p e below s _ _ _ (T88.setTop (mkF m 72 #[.val (.int i0), .val (.long j1), .second, .val (.int i2), .val (.int i3), .val (.long j4), .second, .val (.long j5), .second, .val (.ref t_TWO_PHASE_COMMIT), .val (.double (FP.i2d i0)), .second, .val (.ref b77), .val (.int (0 : Int32))] [(.int (if ((0 : Int32) < i0 ∧ ¬ (j1 < (100 : Int64))) then 1 else 0 : Int32))]))
      refine own_st (fun t k => XS.iload X88.here hx rfl (hb hby at_72) rfl k) ?_
      show own_Run p e below s _ _ _ (T88.setTop (mkF m 74 #[.val (.int i0), .val (.long j1), .second, .val (.int i2), .val (.int i3), .val (.long j4), .second, .val (.long j5), .second, .val (.ref t_TWO_PHASE_COMMIT), .val (.double (FP.i2d i0)), .second, .val (.ref b77), .val (.int (0 : Int32))] [(.int (0 : Int32)), (.int (if ((0 : Int32) < i0 ∧ ¬ (j1 < (100 : Int64))) then 1 else 0 : Int32))]))
      refine own_st (fun t k => XS.icmpNo X88.here hx rfl (hb hby at_74) rfl (teq (by first | exact own_meas1 hA hB | exact own_meas2 hB | exact own_meas3 hA : (if ((0 : Int32) < i0 ∧ ¬ (j1 < (100 : Int64))) then 1 else 0 : Int32) = (0 : Int32))).2 k) ?_
      show own_Run p e below s _ _ _ (T88.setTop (mkF m 77 #[.val (.int i0), .val (.long j1), .second, .val (.int i2), .val (.int i3), .val (.long j4), .second, .val (.long j5), .second, .val (.ref t_TWO_PHASE_COMMIT), .val (.double (FP.i2d i0)), .second, .val (.ref b77), .val (.int (0 : Int32))] []))
      refine own_st (fun t k => XS.iconst X88.here hx rfl (hb hby at_77) k) ?_
      show own_Run p e below s _ _ _ (T88.setTop (mkF m 78 #[.val (.int i0), .val (.long j1), .second, .val (.int i2), .val (.int i3), .val (.long j4), .second, .val (.long j5), .second, .val (.ref t_TWO_PHASE_COMMIT), .val (.double (FP.i2d i0)), .second, .val (.ref b77), .val (.int (0 : Int32))] [(.int (1 : Int32))]))
      refine own_st (fun t k => XS.goto X88.here hx rfl (pc0 := 78) (pc' := 82) rfl (hb hby at_78) (by decide) (by decide) k) ?_
      show own_Run p e below s _ _ _ (T88.setTop (mkF m 82 #[.val (.int i0), .val (.long j1), .second, .val (.int i2), .val (.int i3), .val (.long j4), .second, .val (.long j5), .second, .val (.ref t_TWO_PHASE_COMMIT), .val (.double (FP.i2d i0)), .second, .val (.ref b77), .val (.int (0 : Int32))] [(.int (1 : Int32))]))
      exact own_ret X88 hx hlk (t := .boolean) hret rfl (Or.inl ⟨rfl, by simp, _, rfl⟩) (hb hby at_82) (by decide) (by decide) ⟨rfl, N88⟩
    · skip
      refine own_st (fun t k => XS.icmpNo X82.here hx rfl (hb hby at_49) rfl (flt (hA : ¬ (i0 < (1 : Int32)))).1 k) ?_
      show own_Run p e below s _ _ _ (T82.setTop (mkF m 52 #[.val (.int i0), .val (.long j1), .second, .val (.int i2), .val (.int i3), .val (.long j4), .second, .val (.long j5), .second, .val (.ref t_TWO_PHASE_COMMIT), .val (.double (FP.i2d i0)), .second, .val (.ref b77), .unset] []))
      refine own_st (fun t k => XS.lloadN X82.here hx rfl (hb hby at_52) rfl k) ?_
      show own_Run p e below s _ _ _ (T82.setTop (mkF m 53 #[.val (.int i0), .val (.long j1), .second, .val (.int i2), .val (.int i3), .val (.long j4), .second, .val (.long j5), .second, .val (.ref t_TWO_PHASE_COMMIT), .val (.double (FP.i2d i0)), .second, .val (.ref b77), .unset] [(.long j1)]))
      refine own_st (X82.ldc2Long hx hown (mvT hZ (hw _ (List.mem_of_getElem? (i := 40) rfl))) (g := (mkF m 53 #[.val (.int i0), .val (.long j1), .second, .val (.int i2), .val (.int i3), .val (.long j4), .second, .val (.long j5), .second, .val (.ref t_TWO_PHASE_COMMIT), .val (.double (FP.i2d i0)), .second, .val (.ref b77), .unset] [(.long j1)])) rfl (hb hby at_53)) ?_
      show own_Run p e below s _ _ _ (T82.setTop (mkF m 56 #[.val (.int i0), .val (.long j1), .second, .val (.int i2), .val (.int i3), .val (.long j4), .second, .val (.long j5), .second, .val (.ref t_TWO_PHASE_COMMIT), .val (.double (FP.i2d i0)), .second, .val (.ref b77), .unset] [(.long (99 : Int64)), (.long j1)]))
      refine own_st (fun t k => XS.lcmp X82.here hx rfl (hb hby at_56) rfl k) ?_
      show own_Run p e below s _ _ _ (T82.setTop (mkF m 57 #[.val (.int i0), .val (.long j1), .second, .val (.int i2), .val (.int i3), .val (.long j4), .second, .val (.long j5), .second, .val (.ref t_TWO_PHASE_COMMIT), .val (.double (FP.i2d i0)), .second, .val (.ref b77), .unset] [(.int (lcmpW j1 (99 : Int64)))]))
      by_cases hB : (99 : Int64) < j1
      · skip
        refine own_st (fun t k => XS.ifNo X82.here hx rfl (hb hby at_57) rfl ((if0 _ _).trans (tlt ((lw_gt _ _).mpr hB : (0 : Int32) < (lcmpW j1 (99 : Int64)))).2.2.2) k) ?_
        show own_Run p e below s _ _ _ (T82.setTop (mkF m 60 #[.val (.int i0), .val (.long j1), .second, .val (.int i2), .val (.int i3), .val (.long j4), .second, .val (.long j5), .second, .val (.ref t_TWO_PHASE_COMMIT), .val (.double (FP.i2d i0)), .second, .val (.ref b77), .unset] []))
        refine own_st (fun t k => XS.iconst X82.here hx rfl (hb hby at_60) k) ?_
        show own_Run p e below s _ _ _ (T82.setTop (mkF m 61 #[.val (.int i0), .val (.long j1), .second, .val (.int i2), .val (.int i3), .val (.long j4), .second, .val (.long j5), .second, .val (.ref t_TWO_PHASE_COMMIT), .val (.double (FP.i2d i0)), .second, .val (.ref b77), .unset] [(.int (1 : Int32))]))
        refine own_st (fun t k => XS.goto X82.here hx rfl (pc0 := 61) (pc' := 65) rfl (hb hby at_61) (by decide) (by decide) k) ?_
        show own_Run p e below s _ _ _ (T82.setTop (mkF m 65 #[.val (.int i0), .val (.long j1), .second, .val (.int i2), .val (.int i3), .val (.long j4), .second, .val (.long j5), .second, .val (.ref t_TWO_PHASE_COMMIT), .val (.double (FP.i2d i0)), .second, .val (.ref b77), .unset] [(.int (1 : Int32))]))
        refine own_st (fun t k => XS.istore X82.here hx rfl (hb hby at_65) rfl (l' := #[.val (.int i0), .val (.long j1), .second, .val (.int i2), .val (.int i3), .val (.long j4), .second, .val (.long j5), .second, .val (.ref t_TWO_PHASE_COMMIT), .val (.double (FP.i2d i0)), .second, .val (.ref b77), .val (.int (1 : Int32))]) rfl k) ?_
        show own_Run p e below s _ _ _ (T82.setTop (mkF m 67 #[.val (.int i0), .val (.long j1), .second, .val (.int i2), .val (.int i3), .val (.long j4), .second, .val (.long j5), .second, .val (.ref t_TWO_PHASE_COMMIT), .val (.double (FP.i2d i0)), .second, .val (.ref b77), .val (.int (1 : Int32))] []))
        refine own_st (fun t k => XS.aload X82.here hx rfl (hb hby at_67) rfl rfl k) ?_
        show own_Run p e below s _ _ _ (T82.setTop (mkF m 69 #[.val (.int i0), .val (.long j1), .second, .val (.int i2), .val (.int i3), .val (.long j4), .second, .val (.long j5), .second, .val (.ref t_TWO_PHASE_COMMIT), .val (.double (FP.i2d i0)), .second, .val (.ref b77), .val (.int (1 : Int32))] [(.ref b77)]))
        refine own_callV X82 hx hZ (y := (⟨"com/example/tunegrid/tunegrid/TuningPolicy$Interval", "measures", "()Z"⟩ : MethodName)) (C := "com/example/tunegrid/tunegrid/TuningPolicy$Interval") hown (hw _ (List.mem_of_getElem? (i := 35) rfl)) (hw _ (List.mem_of_getElem? (i := 36) rfl)) (hw _ (List.mem_of_getElem? (i := 38) rfl)) (hw _ (List.mem_of_getElem? (i := 37) rfl)) (hw _ (List.mem_of_getElem? (i := 39) rfl)) (hw _ (List.mem_of_getElem? (i := 5) rfl)) (by decide) rfl (a := b77) Q83 (argsL := []) (rest := []) (W := 0) (own_rm4 l Z a0 hw [] b77 i0 j1 T82.heap n0 (Nat.le_trans Z0 K86.1) Q84 Q85) (by decide) (by decide) (by rw [hml]; rfl) (lenOf own_pd4 rfl) rfl (by exact Nat.le_of_eq rfl) (hb hby at_69) (by decide) (by decide) ?_
        intro T89 v89 L89 X89 hq89
        obtain ⟨rfl, N89q, hh89⟩ := hq89
        have N89 := Fr.app N82 N89q
        show own_Run p e below s _ _ _ (T89.setTop (mkF m 72 #[.val (.int i0), .val (.long j1), .second, .val (.int i2), .val (.int i3), .val (.long j4), .second, .val (.long j5), .second, .val (.ref t_TWO_PHASE_COMMIT), .val (.double (FP.i2d i0)), .second, .val (.ref b77), .val (.int (1 : Int32))] [(.int (if ((0 : Int32) < i0 ∧ ¬ (j1 < (100 : Int64))) then 1 else 0 : Int32))]))
        refine own_st (fun t k => XS.iload X89.here hx rfl (hb hby at_72) rfl k) ?_
        show own_Run p e below s _ _ _ (T89.setTop (mkF m 74 #[.val (.int i0), .val (.long j1), .second, .val (.int i2), .val (.int i3), .val (.long j4), .second, .val (.long j5), .second, .val (.ref t_TWO_PHASE_COMMIT), .val (.double (FP.i2d i0)), .second, .val (.ref b77), .val (.int (1 : Int32))] [(.int (1 : Int32)), (.int (if ((0 : Int32) < i0 ∧ ¬ (j1 < (100 : Int64))) then 1 else 0 : Int32))]))
        refine own_st (fun t k => XS.icmpNo X89.here hx rfl (hb hby at_74) rfl (teq (by first | exact own_meas1 hA hB | exact own_meas2 hB | exact own_meas3 hA : (if ((0 : Int32) < i0 ∧ ¬ (j1 < (100 : Int64))) then 1 else 0 : Int32) = (1 : Int32))).2 k) ?_
        show own_Run p e below s _ _ _ (T89.setTop (mkF m 77 #[.val (.int i0), .val (.long j1), .second, .val (.int i2), .val (.int i3), .val (.long j4), .second, .val (.long j5), .second, .val (.ref t_TWO_PHASE_COMMIT), .val (.double (FP.i2d i0)), .second, .val (.ref b77), .val (.int (1 : Int32))] []))
        refine own_st (fun t k => XS.iconst X89.here hx rfl (hb hby at_77) k) ?_
        show own_Run p e below s _ _ _ (T89.setTop (mkF m 78 #[.val (.int i0), .val (.long j1), .second, .val (.int i2), .val (.int i3), .val (.long j4), .second, .val (.long j5), .second, .val (.ref t_TWO_PHASE_COMMIT), .val (.double (FP.i2d i0)), .second, .val (.ref b77), .val (.int (1 : Int32))] [(.int (1 : Int32))]))
        refine own_st (fun t k => XS.goto X89.here hx rfl (pc0 := 78) (pc' := 82) rfl (hb hby at_78) (by decide) (by decide) k) ?_
        show own_Run p e below s _ _ _ (T89.setTop (mkF m 82 #[.val (.int i0), .val (.long j1), .second, .val (.int i2), .val (.int i3), .val (.long j4), .second, .val (.long j5), .second, .val (.ref t_TWO_PHASE_COMMIT), .val (.double (FP.i2d i0)), .second, .val (.ref b77), .val (.int (1 : Int32))] [(.int (1 : Int32))]))
        exact own_ret X89 hx hlk (t := .boolean) hret rfl (Or.inl ⟨rfl, by simp, _, rfl⟩) (hb hby at_82) (by decide) (by decide) ⟨rfl, N89⟩
      · skip
        refine own_st (fun t k => XS.ifYes X82.here hx rfl (pc0 := 57) (pc' := 64) rfl (hb hby at_57) rfl ((if0 _ _).trans (flt (fun q => hB ((lw_gt _ _).mp q) : ¬ ((0 : Int32) < (lcmpW j1 (99 : Int64))))).2.2.2) (by decide) (by decide) k) ?_
        show own_Run p e below s _ _ _ (T82.setTop (mkF m 64 #[.val (.int i0), .val (.long j1), .second, .val (.int i2), .val (.int i3), .val (.long j4), .second, .val (.long j5), .second, .val (.ref t_TWO_PHASE_COMMIT), .val (.double (FP.i2d i0)), .second, .val (.ref b77), .unset] []))
        refine own_st (fun t k => XS.iconst X82.here hx rfl (hb hby at_64) k) ?_
        show own_Run p e below s _ _ _ (T82.setTop (mkF m 65 #[.val (.int i0), .val (.long j1), .second, .val (.int i2), .val (.int i3), .val (.long j4), .second, .val (.long j5), .second, .val (.ref t_TWO_PHASE_COMMIT), .val (.double (FP.i2d i0)), .second, .val (.ref b77), .unset] [(.int (0 : Int32))]))
        refine own_st (fun t k => XS.istore X82.here hx rfl (hb hby at_65) rfl (l' := #[.val (.int i0), .val (.long j1), .second, .val (.int i2), .val (.int i3), .val (.long j4), .second, .val (.long j5), .second, .val (.ref t_TWO_PHASE_COMMIT), .val (.double (FP.i2d i0)), .second, .val (.ref b77), .val (.int (0 : Int32))]) rfl k) ?_
        show own_Run p e below s _ _ _ (T82.setTop (mkF m 67 #[.val (.int i0), .val (.long j1), .second, .val (.int i2), .val (.int i3), .val (.long j4), .second, .val (.long j5), .second, .val (.ref t_TWO_PHASE_COMMIT), .val (.double (FP.i2d i0)), .second, .val (.ref b77), .val (.int (0 : Int32))] []))
        refine own_st (fun t k => XS.aload X82.here hx rfl (hb hby at_67) rfl rfl k) ?_
        show own_Run p e below s _ _ _ (T82.setTop (mkF m 69 #[.val (.int i0), .val (.long j1), .second, .val (.int i2), .val (.int i3), .val (.long j4), .second, .val (.long j5), .second, .val (.ref t_TWO_PHASE_COMMIT), .val (.double (FP.i2d i0)), .second, .val (.ref b77), .val (.int (0 : Int32))] [(.ref b77)]))
        refine own_callV X82 hx hZ (y := (⟨"com/example/tunegrid/tunegrid/TuningPolicy$Interval", "measures", "()Z"⟩ : MethodName)) (C := "com/example/tunegrid/tunegrid/TuningPolicy$Interval") hown (hw _ (List.mem_of_getElem? (i := 35) rfl)) (hw _ (List.mem_of_getElem? (i := 36) rfl)) (hw _ (List.mem_of_getElem? (i := 38) rfl)) (hw _ (List.mem_of_getElem? (i := 37) rfl)) (hw _ (List.mem_of_getElem? (i := 39) rfl)) (hw _ (List.mem_of_getElem? (i := 5) rfl)) (by decide) rfl (a := b77) Q83 (argsL := []) (rest := []) (W := 0) (own_rm4 l Z a0 hw [] b77 i0 j1 T82.heap n0 (Nat.le_trans Z0 K86.1) Q84 Q85) (by decide) (by decide) (by rw [hml]; rfl) (lenOf own_pd4 rfl) rfl (by exact Nat.le_of_eq rfl) (hb hby at_69) (by decide) (by decide) ?_
        intro T90 v90 L90 X90 hq90
        obtain ⟨rfl, N90q, hh90⟩ := hq90
        have N90 := Fr.app N82 N90q
        show own_Run p e below s _ _ _ (T90.setTop (mkF m 72 #[.val (.int i0), .val (.long j1), .second, .val (.int i2), .val (.int i3), .val (.long j4), .second, .val (.long j5), .second, .val (.ref t_TWO_PHASE_COMMIT), .val (.double (FP.i2d i0)), .second, .val (.ref b77), .val (.int (0 : Int32))] [(.int (if ((0 : Int32) < i0 ∧ ¬ (j1 < (100 : Int64))) then 1 else 0 : Int32))]))
        refine own_st (fun t k => XS.iload X90.here hx rfl (hb hby at_72) rfl k) ?_
        show own_Run p e below s _ _ _ (T90.setTop (mkF m 74 #[.val (.int i0), .val (.long j1), .second, .val (.int i2), .val (.int i3), .val (.long j4), .second, .val (.long j5), .second, .val (.ref t_TWO_PHASE_COMMIT), .val (.double (FP.i2d i0)), .second, .val (.ref b77), .val (.int (0 : Int32))] [(.int (0 : Int32)), (.int (if ((0 : Int32) < i0 ∧ ¬ (j1 < (100 : Int64))) then 1 else 0 : Int32))]))
        refine own_st (fun t k => XS.icmpNo X90.here hx rfl (hb hby at_74) rfl (teq (by first | exact own_meas1 hA hB | exact own_meas2 hB | exact own_meas3 hA : (if ((0 : Int32) < i0 ∧ ¬ (j1 < (100 : Int64))) then 1 else 0 : Int32) = (0 : Int32))).2 k) ?_
        show own_Run p e below s _ _ _ (T90.setTop (mkF m 77 #[.val (.int i0), .val (.long j1), .second, .val (.int i2), .val (.int i3), .val (.long j4), .second, .val (.long j5), .second, .val (.ref t_TWO_PHASE_COMMIT), .val (.double (FP.i2d i0)), .second, .val (.ref b77), .val (.int (0 : Int32))] []))
        refine own_st (fun t k => XS.iconst X90.here hx rfl (hb hby at_77) k) ?_
        show own_Run p e below s _ _ _ (T90.setTop (mkF m 78 #[.val (.int i0), .val (.long j1), .second, .val (.int i2), .val (.int i3), .val (.long j4), .second, .val (.long j5), .second, .val (.ref t_TWO_PHASE_COMMIT), .val (.double (FP.i2d i0)), .second, .val (.ref b77), .val (.int (0 : Int32))] [(.int (1 : Int32))]))
        refine own_st (fun t k => XS.goto X90.here hx rfl (pc0 := 78) (pc' := 82) rfl (hb hby at_78) (by decide) (by decide) k) ?_
        show own_Run p e below s _ _ _ (T90.setTop (mkF m 82 #[.val (.int i0), .val (.long j1), .second, .val (.int i2), .val (.int i3), .val (.long j4), .second, .val (.long j5), .second, .val (.ref t_TWO_PHASE_COMMIT), .val (.double (FP.i2d i0)), .second, .val (.ref b77), .val (.int (0 : Int32))] [(.int (1 : Int32))]))
        exact own_ret X90 hx hlk (t := .boolean) hret rfl (Or.inl ⟨rfl, by simp, _, rfl⟩) (hb hby at_82) (by decide) (by decide) ⟨rfl, N90⟩
set_option maxRecDepth 65536 in
set_option maxHeartbeats 40000000 in
theorem own_comes_1 {Post : Tables → Env → Array Value → State → Outcome → State → Prop} (hpost : ∀ tb e args s v u, (limb_1_1.after args s (.returned v) u = true ∧ limb_1_2.after args s (.returned v) u = true ∧ True) → FrameEnd s (.returned v) u (Jvm.fieldLocs frame_1_writes args s ++ Jvm.arrayLocs frame_1_arrays args s ++ Jvm.staticLocs frame_1_statics s) 16 128 → Post tb e args s (.returned v) u) :
    ArmFor flags0 classFile x code maxLocals ret World_1 tables_1 room_1 Calls_1 rest_1 Pre_1 Post := by
  intro l hfl _ _ p e ha hc hk s m args below hf hA hF happ hP
  obtain ⟨hcalls, hrest, hpre⟩ := hP
  obtain ⟨-, -, -, hnamed, -, -, -, hat⟩ := (Spec.applies_iff hf).mp happ
  obtain ⟨hg, hn⟩ := and_e (Cond.before_iff.mp (show (Jvm.Cond.and given_1 narrow_1).before args s = true from hpre))
  obtain ⟨gv1, gv2⟩ := and_e hg
  obtain ⟨gv3, gv4⟩ := and_e gv2
  obtain ⟨gv5, gv6⟩ := and_e gv4
  obtain ⟨gv7, gv8⟩ := and_e gv6
  obtain ⟨gv9, gv10⟩ := and_e gv8
  obtain ⟨gv11, gv12⟩ := and_e gv10
  obtain ⟨w0, w1, w2, w3, w4, w5, rfl⟩ : ∃ w0 w1 w2 w3 w4 w5 : Value, args = #[w0, w1, w2, w3, w4, w5] := by
    have hs : args.size = 6 := by simpa [Cond.value, given_1] using gv1
    obtain ⟨L⟩ := args
    match L, hs with
    | [w0, w1, w2, w3, w4, w5], _ => exact ⟨w0, w1, w2, w3, w4, w5, rfl⟩
  have hw := fun d (hd : d ∈ tables_1) => atoms_spec (ws := Jvm.Cond.code x code maxLocals ret :: tables_1) hat d (List.mem_cons_of_mem _ hd)
  have hfit : Fit s := fun {y c} hc i hi => by
    obtain ⟨ha, rfl⟩ := Array.getElem?_eq_some_iff.mp hc
    have q := List.all_eq_true.mp ((Array.all_eq_true_iff_forall_mem.mp hF) _ (Array.getElem_mem ha)) i (List.mem_range.mpr hi)
    simpa [Array.getElem?_eq_getElem hi] using q
  obtain ⟨i0, ei0⟩ := is_v gv3
  obtain rfl : w0 = (.int i0) := Option.some.inj ei0
  obtain ⟨i1, ei1⟩ := isL_v gv5
  obtain rfl : w1 = (.long i1) := Option.some.inj ei1
  obtain ⟨i2, ei2⟩ := is_v gv7
  obtain rfl : w2 = (.int i2) := Option.some.inj ei2
  obtain ⟨i3, ei3⟩ := is_v gv9
  obtain rfl : w3 = (.int i3) := Option.some.inj ei3
  obtain ⟨i4, ei4⟩ := isL_v gv11
  obtain rfl : w4 = (.long i4) := Option.some.inj ei4
  obtain ⟨i5, ei5⟩ := isL_v gv12
  obtain rfl : w5 = (.long i5) := Option.some.inj ei5
  obtain ⟨hn1, hn2⟩ := and_e hn
  obtain ⟨t1, et1⟩ := exa_v hn1
  obtain ⟨t2, et2⟩ := exa_v hn2
  have S1 := Sta.start et1 (Or.inr ⟨(hw _ (List.mem_of_getElem? (i := 1) rfl)), (hw _ (List.mem_of_getElem? (i := 2) rfl))⟩)
  have S2 := Sta.start et2 (Or.inr ⟨(hw _ (List.mem_of_getElem? (i := 1) rfl)), (hw _ (List.mem_of_getElem? (i := 43) rfl))⟩)
  obtain ⟨n, o, h1, h2, h3, _, L, rfl, ⟨rfl, N⟩, hq⟩ := own_rm0 l s _ hw tables_1 i0 i1 i2 i3 i4 i5 t1 t2 s.heap s.heap.size (Nat.le_refl _) (Old.start s) S1 S2 p e ha hc hk s m _ below hf ((Spec.applies_iff_loose hf).mp happ).1 ⟨rfl, State.Warmed39.refl s, rfl⟩ trivial
  refine ⟨n, _, h1, h2, h3, hpost _ _ _ _ _ _ ⟨Cond.after_iff.mpr rfl, Cond.after_iff.mpr (eq_i res_at (Term.int_eval (1)) rfl), trivial⟩ ⟨hq.1, hq.2.1, (hq.2.2.sift fun y hy => Or.inr (N y hy)).mono (by decide) (by decide)⟩⟩
theorem main_1_1 : Claimed_1_1 := own_comes_1 fun _ _ _ _ _ _ h hF => ⟨h.1, hF⟩
theorem main_1_2 : Claimed_1_2 := own_comes_1 fun _ _ _ _ _ _ h hF => ⟨h.2.1, hF⟩
end Jvm.Pilot.@@N@@
namespace Jvm.Pilot.@@N@@
open Jvm Jvm.ClassFile Sem Op Lib Jvm.Free Jvm.Stand Jvm.Pilot.@@N@@.Jvm.D
/-! MADE BY PROGRAM (witnessworld.py) out of the Statement's table words and the real class files: 14 classes; the members and pool entries that the words name. The judged class is class 1, her method 1. -/
namespace start1
open Jvm.ClassFile
def u (s : String) : CpInfo := .utf8 (stringToUtf16 s)
/-- a pool by its gaps: so many unusable entries, then the entry; so many at the end -/
def gap : Nat → List CpInfo → List CpInfo
  | 0, r => r
  | n + 1, r => .unusable :: gap n r
def poolList (es : List (Nat × CpInfo)) (last : Nat) : List CpInfo := es.foldr (fun e r => gap e.1 (e.2 :: r)) (gap last [])
def pool (es : List (Nat × CpInfo)) (last : Nat) : Array CpInfo := ⟨poolList es last⟩
def fileOf (pool : Array CpInfo) (this : Nat) (attrs : Array Attribute := #[]) (ms : Array MethodInfo := #[]) (fl : Nat := 33) (sup : Nat := 0) (ifs : Array Nat := #[]) (fds : Array FieldInfo := #[]) : ClassFile where
  minorVersion := 0
  majorVersion := 65
  constantPool := pool
  accessFlags := fl
  thisClass := this
  superClass := sup
  interfaces := ifs
  fields := fds
  methods := ms
  attributes := attrs
def plain (name : String) (sup : Option ClassId) : Class where
  name := name
  kind := .ordinary
  loader := none
  accessFlags := 33
  super := sup
  interfaces := #[]
  cf := none
  fields := #[]
  methods := #[]
  instanceTypes := #[]
  staticTypes := #[]
  resolved := #[]
  callSites := []
  init := .initialized
  statics := none
  mirror := none

def pool0 : Array CpInfo := pool [(5, u "<init>"), (0, u "()V"), (1, .class_ 10), (1, u "java/lang/Object")] 113

def k0c0 : Code := { maxStack := 0, maxLocals := 1, code := object_method_1_code, exceptionTable := #[], attributes := #[] }
def k0m0 : Method := { name := "<init>", desc := "()V", sig := { parameters := [], returnType := none }, accessFlags := 1, code := some k0c0 }
/-- java/lang/Object -/
def k0 : Class := { plain "java/lang/Object" none with
  accessFlags := 33
  interfaces := #[]
  cf := some (fileOf pool0 8 #[] #[{ accessFlags := 1, nameIndex := 5, descriptorIndex := 6, attributes := #[] }] 33 0 #[] #[])
  fields := #[]
  methods := #[k0m0]
  instanceTypes := #[]
  staticTypes := #[]
  resolved := Array.replicate 124 none
  statics := none }

def pool1 : Array CpInfo := pool [(2, .class_ 4), (1, u "java/lang/Object"), (0, u "<init>"), (0, u "()V"), (0, .fieldref 8 9), (0, .class_ 10), (0, .nameAndType 11 12), (0, u "com/example/tunegrid/tunegrid/Replication$Kind"), (0, u "TWO_PHASE_COMMIT"), (0, u "Lcom/example/tunegrid/tunegrid/Replication$Kind;"), (0, .fieldref 8 14), (0, .nameAndType 15 12), (0, u "PRIMARY_BACKUP"), (0, .class_ 17), (0, u "com/example/tunegrid/tunegrid/TuningPolicy$Interval"), (0, .methodref 16 19), (0, .nameAndType 5 20), (0, u "(Lcom/example/tunegrid/tunegrid/Replication$Kind;IDJJJJJJ)V"), (0, .long 99), (1, .methodref 16 24), (0, .nameAndType 25 26), (0, u "measures"), (0, u "()Z"), (0, .class_ 28), (0, u "com/example/tunegrid/tunegrid/IntervalMeasuresPinLaw"), (2, u "law"), (0, u "(IJIIJJ)Z")] 10

def k1m0 : Method := { name := "<init>", desc := "()V", sig := { parameters := [], returnType := none }, accessFlags := 1, code := none }
def k1c1 : Code := { maxStack := 18, maxLocals := 14, code := code, exceptionTable := #[], attributes := #[] }
def k1m1 : Method := { name := "law", desc := "(IJIIJJ)Z", sig := { parameters := [.int, .long, .int, .int, .long, .long], returnType := some .boolean }, accessFlags := 9, code := some k1c1 }
/-- com/example/tunegrid/tunegrid/IntervalMeasuresPinLaw -/
def k1 : Class := { plain "com/example/tunegrid/tunegrid/IntervalMeasuresPinLaw" (some 0) with
  accessFlags := 49
  interfaces := #[]
  cf := some (fileOf pool1 27 #[] #[{ accessFlags := 1, nameIndex := 5, descriptorIndex := 6, attributes := #[] }, { accessFlags := 9, nameIndex := 31, descriptorIndex := 32, attributes := #[] }] 49 2 #[] #[])
  fields := #[]
  methods := #[k1m0, k1m1]
  instanceTypes := #[]
  staticTypes := #[]
  resolved := Array.replicate 43 none
  statics := none }

def pool2 : Array CpInfo := pool [(1, .class_ 2), (0, u "java/lang/constant/Constable"), (0, .class_ 4), (0, u "java/lang/Object")] 6

/-- java/lang/constant/Constable -/
def k2 : Class := { plain "java/lang/constant/Constable" (some 0) with
  accessFlags := 1537
  interfaces := #[]
  cf := some (fileOf pool2 1 #[] #[] 1537 3 #[] #[])
  fields := #[]
  methods := #[]
  instanceTypes := #[]
  staticTypes := #[]
  resolved := Array.replicate 11 none
  statics := none }

def pool3 : Array CpInfo := pool [(1, .class_ 2), (0, u "java/lang/Comparable"), (0, .class_ 4), (0, u "java/lang/Object")] 7

/-- java/lang/Comparable -/
def k3 : Class := { plain "java/lang/Comparable" (some 0) with
  accessFlags := 1537
  interfaces := #[]
  cf := some (fileOf pool3 1 #[] #[] 1537 3 #[] #[])
  fields := #[]
  methods := #[]
  instanceTypes := #[]
  staticTypes := #[]
  resolved := Array.replicate 12 none
  statics := none }

def pool4 : Array CpInfo := pool [(1, .class_ 2), (0, u "java/io/Serializable"), (0, .class_ 4), (0, u "java/lang/Object")] 2

/-- java/io/Serializable -/
def k4 : Class := { plain "java/io/Serializable" (some 0) with
  accessFlags := 1537
  interfaces := #[]
  cf := some (fileOf pool4 1 #[] #[] 1537 3 #[] #[])
  fields := #[]
  methods := #[]
  instanceTypes := #[]
  staticTypes := #[]
  resolved := Array.replicate 7 none
  statics := none }

def pool5 : Array CpInfo := pool [(2, .class_ 4), (1, u "java/lang/Enum"), (0, u "name"), (0, u "Ljava/lang/String;"), (2, u "ordinal"), (0, u "I"), (1, .class_ 14), (1, u "java/lang/Object"), (4, u "hash"), (86, .class_ 108), (1, u "java/lang/Enum$EnumDesc"), (2, .class_ 112), (0, u "java/lang/constant/Constable"), (0, .class_ 114), (0, u "java/lang/Comparable"), (0, .class_ 116), (0, u "java/io/Serializable")] 87

/-- java/lang/Enum -/
def k5 : Class := { plain "java/lang/Enum" (some 0) with
  accessFlags := 1057
  interfaces := #[2, 3, 4]
  cf := some (fileOf pool5 2 #[.nestMembers #[106]] #[] 1057 12 #[111, 113, 115] #[{ accessFlags := 18, nameIndex := 5, descriptorIndex := 6, attributes := #[] }, { accessFlags := 18, nameIndex := 9, descriptorIndex := 10, attributes := #[] }, { accessFlags := 2, nameIndex := 19, descriptorIndex := 10, attributes := #[] }])
  fields := #[{ name := "name", type := (.object "java/lang/String"), accessFlags := 18, slot := 0, constantValue := 0 }, { name := "ordinal", type := .int, accessFlags := 18, slot := 1, constantValue := 0 }, { name := "hash", type := .int, accessFlags := 2, slot := 2, constantValue := 0 }]
  methods := #[]
  instanceTypes := #[(.object "java/lang/String"), .int, .int]
  staticTypes := #[]
  resolved := Array.replicate 204 none
  statics := none }

def pool6 : Array CpInfo := pool [(1, .class_ 2), (0, u "com/example/tunegrid/tunegrid/Replication$Kind"), (2, u "TWO_PHASE_COMMIT"), (0, u "Lcom/example/tunegrid/tunegrid/Replication$Kind;"), (2, u "PRIMARY_BACKUP"), (2, u "$VALUES"), (0, u "[Lcom/example/tunegrid/tunegrid/Replication$Kind;"), (6, .class_ 22), (1, u "java/lang/Enum"), (8, u "word"), (0, u "Ljava/lang/String;"), (80, .class_ 114), (0, u "com/example/tunegrid/tunegrid/Replication")] 2

/-- com/example/tunegrid/tunegrid/Replication$Kind -/
def k6 : Class := { plain "com/example/tunegrid/tunegrid/Replication$Kind" (some 5) with
  accessFlags := 16433
  interfaces := #[]
  cf := some (fileOf pool6 1 #[.nestHost 113] #[] 16433 20 #[] #[{ accessFlags := 16409, nameIndex := 5, descriptorIndex := 6, attributes := #[] }, { accessFlags := 16409, nameIndex := 9, descriptorIndex := 6, attributes := #[] }, { accessFlags := 18, nameIndex := 31, descriptorIndex := 32, attributes := #[] }, { accessFlags := 4122, nameIndex := 12, descriptorIndex := 13, attributes := #[] }])
  fields := #[{ name := "TWO_PHASE_COMMIT", type := (.object "com/example/tunegrid/tunegrid/Replication$Kind"), accessFlags := 16409, slot := 0, constantValue := 0 }, { name := "PRIMARY_BACKUP", type := (.object "com/example/tunegrid/tunegrid/Replication$Kind"), accessFlags := 16409, slot := 1, constantValue := 0 }, { name := "word", type := (.object "java/lang/String"), accessFlags := 18, slot := 3, constantValue := 0 }, { name := "$VALUES", type := (.array (.object "com/example/tunegrid/tunegrid/Replication$Kind")), accessFlags := 4122, slot := 2, constantValue := 0 }]
  methods := #[]
  instanceTypes := #[(.object "java/lang/String"), .int, .int, (.object "java/lang/String")]
  staticTypes := #[(.object "com/example/tunegrid/tunegrid/Replication$Kind"), (.object "com/example/tunegrid/tunegrid/Replication$Kind"), (.array (.object "com/example/tunegrid/tunegrid/Replication$Kind"))]
  resolved := Array.replicate 117 none
  statics := some 0 }

def pool7 : Array CpInfo := pool [(1, .methodref 2 3), (0, .class_ 4), (0, .nameAndType 5 6), (0, u "java/lang/Object"), (0, u "<init>"), (0, u "()V"), (0, .class_ 8), (0, u "java/lang/Record")] 13

def k7c0 : Code := { maxStack := 1, maxLocals := 1, code := jdk_30_method_1_code, exceptionTable := #[], attributes := #[] }
def k7m0 : Method := { name := "<init>", desc := "()V", sig := { parameters := [], returnType := none }, accessFlags := 4, code := some k7c0 }
/-- java/lang/Record -/
def k7 : Class := { plain "java/lang/Record" (some 0) with
  accessFlags := 1057
  interfaces := #[]
  cf := some (fileOf pool7 7 #[] #[{ accessFlags := 4, nameIndex := 5, descriptorIndex := 6, attributes := #[] }] 1057 2 #[] #[])
  fields := #[]
  methods := #[k7m0]
  instanceTypes := #[]
  staticTypes := #[]
  resolved := Array.replicate 22 none
  statics := none }

def pool8 : Array CpInfo := pool [(1, .class_ 2), (0, u "com/example/tunegrid/tunegrid/TuningPolicy"), (0, .methodref 4 5), (0, .class_ 6), (0, .nameAndType 7 8), (0, u "java/lang/Record"), (0, u "<init>"), (0, u "()V"), (0, .fieldref 10 11), (0, .class_ 12), (0, .nameAndType 13 14), (0, u "com/example/tunegrid/tunegrid/TuningPolicy$Interval"), (0, u "protocol"), (0, u "Lcom/example/tunegrid/tunegrid/Replication$Kind;"), (0, .fieldref 10 16), (0, .nameAndType 17 18), (0, u "members"), (0, u "I"), (0, .fieldref 10 20), (0, .nameAndType 21 22), (0, u "seconds"), (0, u "D"), (0, .fieldref 10 24), (0, .nameAndType 25 26), (0, u "commits"), (0, u "J"), (0, .fieldref 10 28), (0, .nameAndType 29 26), (0, u "readOnly"), (0, .fieldref 10 31), (0, .nameAndType 32 26), (0, u "updates"), (0, .fieldref 10 34), (0, .nameAndType 35 26), (0, u "puts"), (0, .fieldref 10 37), (0, .nameAndType 38 26), (0, u "claims"), (0, .fieldref 10 40), (0, .nameAndType 41 26), (0, u "contended"), (33, u "()Z"), (48, u "(Lcom/example/tunegrid/tunegrid/Replication$Kind;IDJJJJJJ)V"), (0, .long 100), (50, u "measures")] 43

def k8c0 : Code := { maxStack := 3, maxLocals := 17, code := prog_87_method_1_code, exceptionTable := #[], attributes := #[] }
def k8m0 : Method := { name := "<init>", desc := "(Lcom/example/tunegrid/tunegrid/Replication$Kind;IDJJJJJJ)V", sig := { parameters := [(.object "com/example/tunegrid/tunegrid/Replication$Kind"), .int, .double, .long, .long, .long, .long, .long, .long], returnType := none }, accessFlags := 0, code := some k8c0 }
def k8c1 : Code := { maxStack := 4, maxLocals := 1, code := prog_87_method_7_code, exceptionTable := #[], attributes := #[] }
def k8m1 : Method := { name := "measures", desc := "()Z", sig := { parameters := [], returnType := some .boolean }, accessFlags := 0, code := some k8c1 }
/-- com/example/tunegrid/tunegrid/TuningPolicy$Interval -/
def k8 : Class := { plain "com/example/tunegrid/tunegrid/TuningPolicy$Interval" (some 7) with
  accessFlags := 48
  interfaces := #[]
  cf := some (fileOf pool8 10 #[.nestHost 1] #[{ accessFlags := 0, nameIndex := 7, descriptorIndex := 124, attributes := #[] }, { accessFlags := 0, nameIndex := 176, descriptorIndex := 75, attributes := #[] }] 48 4 #[] #[{ accessFlags := 18, nameIndex := 13, descriptorIndex := 14, attributes := #[] }, { accessFlags := 18, nameIndex := 17, descriptorIndex := 18, attributes := #[] }, { accessFlags := 18, nameIndex := 21, descriptorIndex := 22, attributes := #[] }, { accessFlags := 18, nameIndex := 25, descriptorIndex := 26, attributes := #[] }, { accessFlags := 18, nameIndex := 29, descriptorIndex := 26, attributes := #[] }, { accessFlags := 18, nameIndex := 32, descriptorIndex := 26, attributes := #[] }, { accessFlags := 18, nameIndex := 35, descriptorIndex := 26, attributes := #[] }, { accessFlags := 18, nameIndex := 38, descriptorIndex := 26, attributes := #[] }, { accessFlags := 18, nameIndex := 41, descriptorIndex := 26, attributes := #[] }])
  fields := #[{ name := "protocol", type := (.object "com/example/tunegrid/tunegrid/Replication$Kind"), accessFlags := 18, slot := 0, constantValue := 0 }, { name := "members", type := .int, accessFlags := 18, slot := 1, constantValue := 0 }, { name := "seconds", type := .double, accessFlags := 18, slot := 2, constantValue := 0 }, { name := "commits", type := .long, accessFlags := 18, slot := 3, constantValue := 0 }, { name := "readOnly", type := .long, accessFlags := 18, slot := 4, constantValue := 0 }, { name := "updates", type := .long, accessFlags := 18, slot := 5, constantValue := 0 }, { name := "puts", type := .long, accessFlags := 18, slot := 6, constantValue := 0 }, { name := "claims", type := .long, accessFlags := 18, slot := 7, constantValue := 0 }, { name := "contended", type := .long, accessFlags := 18, slot := 8, constantValue := 0 }]
  methods := #[k8m0, k8m1]
  instanceTypes := #[(.object "com/example/tunegrid/tunegrid/Replication$Kind"), .int, .double, .long, .long, .long, .long, .long, .long]
  staticTypes := #[]
  resolved := Array.replicate 220 none
  statics := none }

def pool9 : Array CpInfo := pool [(1, u "java/lang/Cloneable"), (0, .class_ 1), (0, u "java/lang/Object"), (0, .class_ 3)] 3

/-- java/lang/Cloneable -/
def k9 : Class := { plain "java/lang/Cloneable" (some 0) with
  accessFlags := 1537
  interfaces := #[]
  cf := some (fileOf pool9 2 #[] #[] 1537 4 #[] #[])
  fields := #[]
  methods := #[]
  instanceTypes := #[]
  staticTypes := #[]
  resolved := Array.replicate 8 none
  statics := none }

/-- the primitive byte -/
def k10 : Class := { plain "byte" none with kind := .primitive 'B', accessFlags := 0x411 }
/-- [B -/
def k11 : Class := { plain "[B" (some 0) with kind := .array 10 .byte, interfaces := #[9, 4], accessFlags := 1041 }

/-- the primitive int -/
def k12 : Class := { plain "int" none with kind := .primitive 'I', accessFlags := 0x411 }
/-- [I -/
def k13 : Class := { plain "[I" (some 0) with kind := .array 12 .int, interfaces := #[9, 4], accessFlags := 1041 }

def heap : Heap := #[{ cls := 6, slots := #[.ref 1, .ref 2, .null], vm := .statics 6 },
  { cls := 6, slots := #[.null, .int 0, .int 0, .null], vm := .none },
  { cls := 6, slots := #[.null, .int 1, .int 0, .null], vm := .none }]
def classes : Array Class := #[k0, k1, k2, k3, k4, k5, k6, k7, k8, k9, k10, k11, k12, k13]
def interned : List (Array UInt16 × Addr) := []
def slotsUsed : Nat := 11
def theMethod : MethodId := ⟨1, 1⟩
def args0 : Array Value := #[.int 1, .long 200, .int 3, .int 4, .long 2, .long 3]
def aboutOver (below : List Frame) : State where
  vm := { classes := classes, interned := interned.toArray }
  heap := heap
  slotsUsed := slotsUsed
  threads := #[{ frames := .invoking theMethod args0 :: below }]
def below0 : List Frame := [.native { method := ⟨0, 0⟩, args := #[] }]
def about1 : State := aboutOver below0
def p0 : Program := .bare "" "" ""
def e0 : Env := launch0.env 0 0 0
theorem w_frames : about1.frames = Frame.invoking theMethod args0 :: below0 := rfl
set_option maxRecDepth 65536 in
theorem w_args : argsFit about1.vm theMethod args0 = true := by decide +kernel
set_option maxRecDepth 65536 in
theorem w_heap : heapFits about1 = true := by decide +kernel
set_option maxRecDepth 65536 in
theorem w_runnable : about1.curStatus? = some .runnable := by decide +kernel
set_option maxRecDepth 65536 in
theorem w_alone : about1.alone = true := by decide +kernel
set_option maxRecDepth 65536 in
theorem w_named : about1.methodNamed? x = some theMethod := by decide +kernel
set_option maxRecDepth 65536 in
theorem w_hears : about1.hears theMethod below0 = true := by decide +kernel
set_option maxRecDepth 65536 in
theorem w_ripe : about1.ripe theMethod args0 below0 = true := by decide +kernel
theorem w_running : about1.status = .running := rfl
set_option maxRecDepth 65536 in
theorem w_room : about1.hasRoom e0.platform room_1 = true :=
  launch0.hasRoom_least _ room_1 (by decide +kernel) (by decide +kernel) (by decide +kernel) (by decide +kernel) (by decide +kernel) (by decide +kernel)
theorem allAtoms_all (ts : List Jvm.Cond) (a : Array Jvm.Value) (st : Jvm.State) : (allAtoms ts).before a st = ts.all (fun c => c.before a st) := by
  induction ts with
  | nil => rfl
  | cons c t ih =>
    show (Jvm.Cond.and c (allAtoms t)).before a st = _
    rw [Jvm.Cond.before_and, ih, List.all_cons]
def words1 : List Jvm.Cond := Jvm.Cond.code x code maxLocals ret :: tables_1
/-- a 'code' word, met by the world's own term for the bytes: nothing is compared byte by byte -/
theorem code_word {y : MethodName} {bytes : ByteArray} {mx : Nat} {rt : Option FieldType} {a : Array Value} {s : State} {m : MethodId} {meth : Method} {c : Code} (h1 : s.methodNamed? y = some m) (h2 : s.vm.method? m = some meth) (h3 : meth.code = some c) (h4 : c.code = bytes)
    (h5 : (c.maxLocals == mx && c.exceptionTable.isEmpty && decide (c.maxStack ≤ mostOperands) && decide (meth.sig.returnType = rt) && !meth.locks && decide (parseMethodDescriptor y.desc = some meth.sig)) = true) : (Jvm.Cond.code y bytes mx rt).before a s = true := by
  simp only [Bool.and_eq_true, beq_iff_eq, Bool.not_eq_true', decide_eq_true_eq] at h5
  obtain ⟨⟨⟨⟨⟨g1, g2⟩, g3⟩, g4⟩, g5⟩, g6⟩ := h5
  simp [Cond.before, Cond.holds, Cond.value, h1, h2, h3, h4, g1, g2, g3, g4, g5, g6]
def isCode : Jvm.Cond → Bool
  | .code _ _ _ _ => true
  | _ => false
theorem all_split {L : List Jvm.Cond} {P : Jvm.Cond → Bool} (h1 : L.all (fun c => isCode c || P c) = true) (h2 : ∀ c ∈ L.filter isCode, P c = true) : L.all P = true := by
  refine List.all_eq_true.mpr fun c hc => ?_
  have h := List.all_eq_true.mp h1 c hc
  rcases Bool.eq_false_or_eq_true (isCode c) with hi | hi
  · exact h2 c (List.mem_filter.mpr ⟨hc, hi⟩)
  · simpa [hi] using h
set_option maxRecDepth 65536 in
theorem w_c0 : (Jvm.Cond.code x code maxLocals ret).before args0 about1 = true := code_word (m := ⟨1, 1⟩) (meth := k1m1) (c := k1c1) (by decide +kernel) rfl rfl rfl (by decide +kernel)
set_option maxRecDepth 65536 in
theorem w_c1 : (Jvm.Cond.code ({ cls := "com/example/tunegrid/tunegrid/TuningPolicy$Interval", name := "<init>", desc := "(Lcom/example/tunegrid/tunegrid/Replication$Kind;IDJJJJJJ)V" } : Jvm.MethodName) prog_87_method_1_code (17 : Nat) (Option.none : Option Jvm.ClassFile.FieldType)).before args0 about1 = true := code_word (m := ⟨8, 0⟩) (meth := k8m0) (c := k8c0) (by decide +kernel) rfl rfl rfl (by decide +kernel)
set_option maxRecDepth 65536 in
theorem w_c2 : (Jvm.Cond.code ({ cls := "java/lang/Record", name := "<init>", desc := "()V" } : Jvm.MethodName) jdk_30_method_1_code (1 : Nat) (Option.none : Option Jvm.ClassFile.FieldType)).before args0 about1 = true := code_word (m := ⟨7, 0⟩) (meth := k7m0) (c := k7c0) (by decide +kernel) rfl rfl rfl (by decide +kernel)
set_option maxRecDepth 65536 in
theorem w_c3 : (Jvm.Cond.code ({ cls := "java/lang/Object", name := "<init>", desc := "()V" } : Jvm.MethodName) object_method_1_code (1 : Nat) (Option.none : Option Jvm.ClassFile.FieldType)).before args0 about1 = true := code_word (m := ⟨0, 0⟩) (meth := k0m0) (c := k0c0) (by decide +kernel) rfl rfl rfl (by decide +kernel)
set_option maxRecDepth 65536 in
theorem w_c4 : (Jvm.Cond.code ({ cls := "com/example/tunegrid/tunegrid/TuningPolicy$Interval", name := "measures", desc := "()Z" } : Jvm.MethodName) prog_87_method_7_code (1 : Nat) (Option.some Jvm.ClassFile.FieldType.boolean)).before args0 about1 = true := code_word (m := ⟨8, 1⟩) (meth := k8m1) (c := k8c1) (by decide +kernel) rfl rfl rfl (by decide +kernel)
def codes1 : List Jvm.Cond := [Jvm.Cond.code x code maxLocals ret, Jvm.Cond.code ({ cls := "com/example/tunegrid/tunegrid/TuningPolicy$Interval", name := "<init>", desc := "(Lcom/example/tunegrid/tunegrid/Replication$Kind;IDJJJJJJ)V" } : Jvm.MethodName) prog_87_method_1_code (17 : Nat) (Option.none : Option Jvm.ClassFile.FieldType), Jvm.Cond.code ({ cls := "java/lang/Record", name := "<init>", desc := "()V" } : Jvm.MethodName) jdk_30_method_1_code (1 : Nat) (Option.none : Option Jvm.ClassFile.FieldType), Jvm.Cond.code ({ cls := "java/lang/Object", name := "<init>", desc := "()V" } : Jvm.MethodName) object_method_1_code (1 : Nat) (Option.none : Option Jvm.ClassFile.FieldType), Jvm.Cond.code ({ cls := "com/example/tunegrid/tunegrid/TuningPolicy$Interval", name := "measures", desc := "()Z" } : Jvm.MethodName) prog_87_method_7_code (1 : Nat) (Option.some Jvm.ClassFile.FieldType.boolean)]
set_option maxRecDepth 65536 in
theorem codes_eq : words1.filter isCode = codes1 := rfl
theorem w_codes : ∀ c ∈ words1.filter isCode, c.before args0 about1 = true := by
  rw [codes_eq]
  intro c hc
  simp only [codes1, List.mem_cons, List.not_mem_nil, or_false] at hc
  rcases hc with rfl | rfl | rfl | rfl | rfl
  · exact w_c0
  · exact w_c1
  · exact w_c2
  · exact w_c3
  · exact w_c4
set_option maxRecDepth 65536 in
theorem w_t1 : (words1.take 24).all (fun c => isCode c || c.before args0 about1) = true := by decide +kernel
set_option maxRecDepth 65536 in
theorem w_t2 : (words1.drop 24).all (fun c => isCode c || c.before args0 about1) = true := by decide +kernel
theorem w_tables : (allAtoms (Jvm.Cond.code x code maxLocals ret :: tables_1)).before args0 about1 = true := by
  rw [allAtoms_all]
  show words1.all (fun c => c.before args0 about1) = true
  refine all_split ?_ w_codes
  rw [← List.take_append_drop 24 words1, List.all_append, w_t1, w_t2]
  rfl
set_option maxRecDepth 65536 in
theorem w_case : (Jvm.Cond.and given_1 narrow_1).before args0 about1 = true := by decide +kernel
theorem w_applies : (headSpec (Jvm.Cond.code x code maxLocals ret :: tables_1) room_1).applies x e0.platform about1 = true :=
  (Spec.applies_iff w_frames).mpr ⟨w_running, w_runnable, w_alone, w_named, w_hears, w_ripe, w_room, w_tables⟩
theorem atStart : AtStart classFile x code maxLocals ret World_1 tables_1 room_1 Calls_1 rest_1 Pre_1 launch0 p0 e0 about1 theMethod args0 below0 :=
  ⟨lists_1, trivial, launch0.admits_env _ _ _, launch0.least_env, fairChoices_fair.cas, fairChoices_fair.clock, w_frames, w_args, w_heap, w_applies, trivial, trivial, w_case⟩
end start1
theorem witness_1 : WitnessClaimed_1 := ⟨start1.p0, start1.e0, start1.about1, start1.theMethod, start1.args0, start1.below0, start1.atStart⟩
end Jvm.Pilot.@@N@@
